import PyProof.Rows.All
import Wide.All
import OpenK.AllK
import Wide.FinOn
import Lean
import PySem.Challenge.RW_ph0083_02
set_option Elab.async false
set_option genSizeOf false
section
open PySem PySem.Calls PyProof.Rows PySem.W PySem.Spec
set_option Elab.async false
namespace Mine
inductive V where
  | unb
  | none
  | bool (b : Bool)
  | int (i : Int)
  | ints (l : List Int)
  | list (l : List V)
  | tup (l : List V)
  | mints (l : List Int)
  | mlist (l : List V)
  | mit (a : Addr) (l : List Int)
theorem fa_c {α : Type} {P : α → Prop} {a : α} {l : List α} (h : P a) (t : ∀ p ∈ l, P p) : ∀ p ∈ a :: l, P p := List.forall_mem_cons.mpr ⟨h, t⟩
theorem fa_n {α : Type} {P : α → Prop} : ∀ p ∈ ([] : List α), P p := fun _ h => by cases h
theorem mm0 {α : Type} {a : α} {l : List α} : a ∈ a :: l := .head _
theorem mm1 {α : Type} {a b : α} {l : List α} : b ∈ a :: b :: l := .tail _ mm0
theorem mm2 {α : Type} {a b c : α} {l : List α} : c ∈ a :: b :: c :: l := .tail _ mm1
theorem mm3 {α : Type} {a b c d : α} {l : List α} : d ∈ a :: b :: c :: d :: l := .tail _ mm2
theorem mm4 {α : Type} {a b c d e : α} {l : List α} : e ∈ a :: b :: c :: d :: e :: l := .tail _ mm3
theorem mm5 {α : Type} {a b c d e f : α} {l : List α} : f ∈ a :: b :: c :: d :: e :: f :: l := .tail _ mm4
theorem mm6 {α : Type} {a b c d e f g : α} {l : List α} : g ∈ a :: b :: c :: d :: e :: f :: g :: l := .tail _ mm5
theorem ne_in {α : Type} {a b : α} {l : List α} (h : a ∉ l) (m : b ∈ l) : a ≠ b := fun e => h (e ▸ m)
noncomputable def PlainTup (h : Heap) (a : Addr) (items : Array Value) : Prop := ∃ n, h.get? a = some { cls := .type "tuple", data := .seq items n }
theorem PlainTup.isTup {h : Heap} {a : Addr} {items : Array Value} (x : PlainTup h a items) : IsTup h a items := let ⟨n, e⟩ := x; ⟨_, e, rfl, n, rfl⟩
theorem PlainTup.at {h h' : Heap} {a : Addr} {items : Array Value} (x : PlainTup h a items) (hk : ∀ o, h.get? a = some o → h'.get? a = some o) : PlainTup h' a items := let ⟨n, e⟩ := x; ⟨n, hk _ e⟩
mutual
noncomputable def VR (U : List Addr) (h : Heap) : V → Value → Prop
  | .none, w => w = .none
  | .bool b, w => w = .bool b
  | .int i, w => ∃ t, w = .int i t
  | .ints l, w => ∃ a ws, w = .ref a ∧ a ∉ U ∧ h.PlainList a ws.toArray ∧ IntsAre ws l
  | .list l, w => ∃ a ws, w = .ref a ∧ a ∉ U ∧ h.PlainList a ws.toArray ∧ VRs U h l ws
  | .tup l, w => ∃ a ws, w = .ref a ∧ a ∉ U ∧ PlainTup h a ws.toArray ∧ VRs U h l ws
  | .unb, _ => False
  | .mints _, _ => False
  | .mlist _, _ => False
  | .mit _ _, _ => False
noncomputable def VRs (U : List Addr) (h : Heap) : List V → List Value → Prop
  | [], ws => ws = []
  | v :: vs, ws => ∃ w ws', ws = w :: ws' ∧ VR U h v w ∧ VRs U h vs ws'
end
theorem plainList_alive {h : Heap} {a : Addr} {items : Array Value} (x : h.PlainList a items) : h.get? a ≠ none := let ⟨_, e⟩ := x; by rw [e]; simp
theorem plainTup_alive {h : Heap} {a : Addr} {items : Array Value} (x : PlainTup h a items) : h.get? a ≠ none := let ⟨_, e⟩ := x; by rw [e]; simp
section
variable {U U' : List Addr} {h h' : Heap}
mutual
theorem VR.mono (hk : ∀ b o, b ∉ U → h.get? b = some o → h'.get? b = some o) (hU : ∀ b ∈ U', b ∈ U ∨ h.get? b = none) : ∀ (v : V) (w : Value), VR U h v w → VR U' h' v w
  | .none, _, e => by simpa only [VR] using e
  | .bool _, _, e => by simpa only [VR] using e
  | .int _, _, e => by simpa only [VR] using e
  | .ints l, w, e => by
    simp only [VR] at e ⊢
    obtain ⟨a, ws, e1, e2, e3, e4⟩ := e
    exact ⟨a, ws, e1, fun q => (hU a q).elim e2 fun z => plainList_alive e3 z, e3.at fun o => hk a o e2, e4⟩
  | .list l, w, e => by
    simp only [VR] at e ⊢
    obtain ⟨a, ws, e1, e2, e3, e4⟩ := e
    exact ⟨a, ws, e1, fun q => (hU a q).elim e2 fun z => plainList_alive e3 z, e3.at fun o => hk a o e2, VRs.mono hk hU l ws e4⟩
  | .tup l, w, e => by
    simp only [VR] at e ⊢
    obtain ⟨a, ws, e1, e2, e3, e4⟩ := e
    exact ⟨a, ws, e1, fun q => (hU a q).elim e2 fun z => plainTup_alive e3 z, e3.at fun o => hk a o e2, VRs.mono hk hU l ws e4⟩
  | .unb, _, e => by simp only [VR] at e
  | .mints _, _, e => by simp only [VR] at e
  | .mlist _, _, e => by simp only [VR] at e
  | .mit _ _, _, e => by simp only [VR] at e
theorem VRs.mono (hk : ∀ b o, b ∉ U → h.get? b = some o → h'.get? b = some o) (hU : ∀ b ∈ U', b ∈ U ∨ h.get? b = none) : ∀ (vs : List V) (ws : List Value), VRs U h vs ws → VRs U' h' vs ws
  | [], _, e => by simpa only [VRs] using e
  | v :: vs, ws, e => by
    simp only [VRs] at e ⊢
    obtain ⟨w, ws', e1, e2, e3⟩ := e
    exact ⟨w, ws', e1, VR.mono hk hU v w e2, VRs.mono hk hU vs ws' e3⟩
end
end
theorem VR.weaken {U U' : List Addr} {h : Heap} {v : V} {w : Value} (x : VR U h v w) (hU : ∀ b ∈ U', b ∈ U) : VR U' h v w := VR.mono (fun _ _ _ e => e) (fun b hb => .inl (hU b hb)) v w x
theorem VRs.weaken {U U' : List Addr} {h : Heap} {v : List V} {w : List Value} (x : VRs U h v w) (hU : ∀ b ∈ U', b ∈ U) : VRs U' h v w := VRs.mono (fun _ _ _ e => e) (fun b hb => .inl (hU b hb)) v w x
theorem VRs.length {U : List Addr} {h : Heap} : ∀ {vs : List V} {ws : List Value}, VRs U h vs ws → ws.length = vs.length
  | [], _, e => by simp only [VRs] at e; subst e; rfl
  | _ :: vs, ws, e => by
    simp only [VRs] at e
    obtain ⟨w, ws', rfl, _, e3⟩ := e
    simp [VRs.length e3]
theorem VRs.get {U : List Addr} {h : Heap} : ∀ {vs : List V} {ws : List Value}, VRs U h vs ws → ∀ {i : Nat} {v : V}, vs[i]? = some v → ∃ w, ws[i]? = some w ∧ VR U h v w
  | [], _, _, i, v, hi => by simp at hi
  | v :: vs, ws, e, i, v', hi => by
    simp only [VRs] at e
    obtain ⟨w, ws', rfl, e2, e3⟩ := e
    cases i with
    | zero => simp at hi; subst hi; exact ⟨w, rfl, e2⟩
    | succ i => simpa using VRs.get e3 (by simpa using hi)
theorem VRs.append {U : List Addr} {h : Heap} : ∀ {vs vs' : List V} {ws ws' : List Value}, VRs U h vs ws → VRs U h vs' ws' → VRs U h (vs ++ vs') (ws ++ ws')
  | [], _, _, _, e, e' => by simp only [VRs] at e; subst e; simpa using e'
  | _ :: vs, _, _, _, e, e' => by
    simp only [VRs] at e
    obtain ⟨w, ws', rfl, e2, e3⟩ := e
    simp only [List.cons_append, VRs]
    exact ⟨w, _, rfl, e2, VRs.append e3 e'⟩
theorem VRs.of_ints {U : List Addr} {h : Heap} : ∀ {ws : List Value} {ns : List Int}, IntsAre ws ns → VRs U h (ns.map V.int) ws := by
  intro ws ns x
  induction x with
  | nil => simp [VRs]
  | cons n t r ih => simp only [List.map_cons, VRs]; exact ⟨_, _, rfl, by simp [VR], ih⟩
theorem VRs.to_ints {U : List Addr} {h : Heap} : ∀ {ns : List Int} {ws : List Value}, VRs U h (ns.map V.int) ws → IntsAre ws ns
  | [], _, e => by simp only [List.map_nil, VRs] at e; subst e; exact .nil
  | n :: ns, _, e => by
    simp only [List.map_cons, VRs, VR] at e
    obtain ⟨w, ws', rfl, ⟨t, rfl⟩, e3⟩ := e
    exact .cons n t (VRs.to_ints e3)
theorem VR.ints_iff {U : List Addr} {h : Heap} {ns : List Int} {w : Value} : VR U h (.ints ns) w ↔ VR U h (.list (ns.map V.int)) w := by
  simp only [VR]
  constructor
  · rintro ⟨a, ws, e1, e2, e3, e4⟩; exact ⟨a, ws, e1, e2, e3, VRs.of_ints e4⟩
  · rintro ⟨a, ws, e1, e2, e3, e4⟩; exact ⟨a, ws, e1, e2, e3, VRs.to_ints e4⟩
noncomputable def ItAt (h : Heap) (a : Addr) (w : Value) (p : Nat) : Prop := ∃ o, h.get? a = some o ∧ o.cls = .type "list_iterator" ∧ o.data = .fields #[w, .int p 0]
theorem ItAt.at {h h' : Heap} {a : Addr} {w : Value} {p : Nat} (x : ItAt h a w p) (k : ∀ o, h.get? a = some o → h'.get? a = some o) : ItAt h' a w p := let ⟨o, e, r⟩ := x; ⟨o, k o e, r⟩
noncomputable def ItV (U : List Addr) (h : Heap) (w : Value) (p : Nat) (rest : List Int) : Prop := (w = .none ∧ rest = []) ∨ ∃ full, VR U h (.ints full) w ∧ rest = full.drop p
theorem ItV.mono {U U' : List Addr} {h h' : Heap} (hk : ∀ b o, b ∉ U → h.get? b = some o → h'.get? b = some o) (hU : ∀ b ∈ U', b ∈ U ∨ h.get? b = none) {w : Value} {p : Nat} {rest : List Int} (x : ItV U h w p rest) : ItV U' h' w p rest :=
  x.imp id fun ⟨full, a, b⟩ => ⟨full, VR.mono hk hU _ _ a, b⟩
theorem ItV.weaken {U U' : List Addr} {h : Heap} {w : Value} {p : Nat} {rest : List Int} (x : ItV U h w p rest) (hU : ∀ b ∈ U', b ∈ U) : ItV U' h w p rest := x.mono (fun _ _ _ e => e) (fun b hb => .inl (hU b hb))
noncomputable def OwnAt (h : Heap) (a : Addr) : Prop := (∃ ws, h.PlainList a ws) ∨ ∃ w p, ItAt h a w p
theorem OwnAt.at {h h' : Heap} {a : Addr} (x : OwnAt h a) (k : ∀ o, h.get? a = some o → h'.get? a = some o) : OwnAt h' a := x.imp (fun ⟨ws, q⟩ => ⟨ws, q.at k⟩) fun ⟨w, p, q⟩ => ⟨w, p, q.at k⟩
theorem OwnAt.obj {h : Heap} {a : Addr} (x : OwnAt h a) : ∃ o, h.get? a = some o ∧ ((∃ vs n, o.cls = .type "list" ∧ o.data = .seq vs n) ∨ (∃ vs, o.cls = .type "list_iterator" ∧ o.data = .fields vs)) := by
  rcases x with ⟨ws, n, e⟩ | ⟨w, p, o, e, c, d⟩
  · exact ⟨_, e, .inl ⟨_, _, rfl, rfl⟩⟩
  · exact ⟨o, e, .inr ⟨_, c, d⟩⟩
theorem OwnAt.alive {h : Heap} {a : Addr} (x : OwnAt h a) : h.get? a ≠ none := by obtain ⟨o, e, _⟩ := x.obj; rw [e]; simp
theorem OwnAt.notCell {h : Heap} {a : Addr} (x : OwnAt h a) {v : Option Value} (c : h.IsCell a v) : False := by
  obtain ⟨o, e, r⟩ := x.obj
  obtain ⟨o', e', d⟩ := c
  rw [e] at e'; injection e' with e'; subst e'
  rcases r with ⟨_, _, _, q⟩ | ⟨_, _, q⟩ <;> (rw [d] at q; cases q)
noncomputable def okName (x : Str) : Bool := !(x == ("__debug__" : Str)) && !(x == ("__classdict__" : Str))
set_option genInjectivity false in
structure Cx where
  prog : Program
  w : World
  K : Frag
  G : List Addr
  Tb : Heap → Prop
  stays : ∀ h h' : Heap, Tb h → h.StaysIn h' → Tb h'
  but : ∀ (h h' : Heap) (S : List Addr), Tb h → (∀ a ∈ S, a ∉ G ∧ ∀ o, h.get? a = some o → ∀ vs, o.data = .fields vs → o.cls ≠ .type "code") → (∀ b o, b ∉ S → h.get? b = some o → h'.get? b = some o) → Tb h'
  alive : ∀ h, Tb h → ∀ g ∈ G, h.get? g ≠ none
  kG : ∀ g ∈ G, K.lookup g = none
  gG : mainGlobals ∉ G
  bG : builtinsNs ∉ G
  cG : cStatics ∉ G
structure Gr (C : Cx) (h h' : Heap) : Prop where
  keep : ∀ b o, b ∉ C.G → h.get? b = some o → h'.get? b = some o
  tb : C.Tb h → C.Tb h'
theorem Gr.refl (C : Cx) (h : Heap) : Gr C h h := ⟨fun _ _ _ e => e, fun t => t⟩
theorem Gr.trans {C : Cx} {h h' h'' : Heap} (x : Gr C h h') (y : Gr C h' h'') : Gr C h h'' := ⟨fun b o n e => y.keep b o n (x.keep b o n e), fun t => y.tb (x.tb t)⟩
theorem Gr.of {C : Cx} {h h' : Heap} (x : h.StaysIn h') : Gr C h h' := ⟨fun b o _ e => x b o e, fun t => C.stays _ _ t x⟩
theorem stays_push (h : Heap) (o : Obj) : h.StaysIn (h.push o) := fun _ _ e => Heap.get?_push_of_some o e
theorem Gr.push (C : Cx) (h : Heap) (o : Obj) : Gr C h (h.push o) := .of (stays_push h o)
theorem Gr.dead {C : Cx} {h h' : Heap} (x : Gr C h h') {a : Addr} (n : a ∉ C.G) (e : h'.get? a = none) : h.get? a = none := by
  cases q : h.get? a with
  | none => rfl
  | some o => rw [x.keep a o n q] at e; cases e
theorem VR.gr {C : Cx} {U : List Addr} {h h' : Heap} {v : V} {w : Value} (x : VR U h v w) (hG : ∀ g ∈ C.G, g ∈ U) (g : Gr C h h') : VR U h' v w :=
  VR.mono (fun b o n e => g.keep b o (fun q => n (hG b q)) e) (fun _ hb => .inl hb) v w x
theorem VRs.gr {C : Cx} {U : List Addr} {h h' : Heap} {v : List V} {w : List Value} (x : VRs U h v w) (hG : ∀ g ∈ C.G, g ∈ U) (g : Gr C h h') : VRs U h' v w :=
  VRs.mono (fun b o n e => g.keep b o (fun q => n (hG b q)) e) (fun _ hb => .inl hb) v w x
theorem Ns.gr {C : Cx} {h h' : Heap} {a : Addr} {m : Str → Option Value} (x : h.Ns a m) (n : a ∉ C.G) (g : Gr C h h') : h'.Ns a m :=
  x.at fun o e => g.keep a o n e
theorem IsCell.at {h h' : Heap} {a : Addr} {m : Option Value} (x : h.IsCell a m) (k : ∀ o, h.get? a = some o → h'.get? a = some o) : h'.IsCell a m := by
  obtain ⟨o, e, r⟩ := x; exact ⟨o, k o e, r⟩
theorem IsCell.gr {C : Cx} {h h' : Heap} {a : Addr} {m : Option Value} (x : h.IsCell a m) (n : a ∉ C.G) (g : Gr C h h') : h'.IsCell a m :=
  IsCell.at x fun o e => g.keep a o n e
structure Wd (C : Cx) (h : Heap) : Prop where
  inK : C.K.In h
  g : ∃ mg, h.Ns mainGlobals mg
  b : ∃ mb, h.Ns builtinsNs mb ∧ ∀ x : Str, x ≠ "__name__" → mb x = bootBuiltins x
  nl : h.NoLimit
  bm : ∃ mg bm ob, h.Ns mainGlobals mg ∧ mg "__builtins__" = some (.ref bm) ∧ bm ≠ builtinsNs ∧ bm ≠ mainGlobals ∧ bm ∉ C.G ∧ h.get? bm = some ob ∧ ob.cls = .type "module" ∧ ob.dict = some builtinsNs ∧ ob.data = .plain
theorem Wd.of {C : Cx} {h h' : Heap} (x : Wd C h) (k : ∀ b o, b ∉ C.G → h.get? b = some o → h'.get? b = some o) : Wd C h' where
  inK := fun a o e => k a o (fun q => by rw [C.kG a q] at e; cases e) (x.inK a o e)
  g := x.g.imp fun _ y => y.at fun o e => k _ o C.gG e
  b := x.b.imp fun _ y => y.imp (fun z => z.at fun o e => k _ o C.bG e) id
  nl := x.nl.at fun o e => k _ o C.cG e
  bm := x.bm.imp fun _ y => y.imp fun _ y => y.imp fun _ y => ⟨y.1.at fun o e => k _ o C.gG e, y.2.imp id fun y => y.imp id fun y => y.imp id fun y => ⟨y.1, k _ _ y.1 y.2.1, y.2.2⟩⟩
theorem Wd.gr {C : Cx} {h h' : Heap} (x : Wd C h) (g : Gr C h h') : Wd C h' := x.of g.keep
structure AOk (n : Nat) (A : Around) : Prop where
  handled : A.handled = none
  depth : A.depth + n ≤ 990
  units : A.units + 10 * n ≤ 9800
theorem AOk.le {n m : Nat} {A : Around} (x : AOk n A) (h : m ≤ n) : AOk m A := ⟨x.handled, by have := x.depth; (clear x; lia), by have := x.units; (clear x; lia)⟩
set_option genInjectivity false in
structure Fm where
  A : Around
  env : Env
  h₀ : Heap
  cells : List Addr
  names : List Str
structure Ad where
  m : List (Nat × Addr)
  ux : List Addr
noncomputable def Fm.own (F : Fm) (ad : Ad) : List Addr := F.env.locals :: (F.cells ++ ad.m.map (·.2))
noncomputable def Fm.U (F : Fm) (ad : Ad) : List Addr := F.own ad ++ ad.ux
structure FmOk (C : Cx) (n : Nat) (F : Fm) : Prop where
  kind : F.env.scope.kind = .function
  globals : F.env.globals = mainGlobals
  builtins : F.env.builtins = builtinsNs
  wd : Wd C F.h₀
  a : AOk n F.A
  names : ∀ x ∈ F.names, okName x = true
  nodup : F.names.Nodup
  cl : F.env.locals ∉ F.env.cells.map (·.2)
  cn : (F.env.cells.map (·.2)).Nodup
  cG : ∀ c ∈ F.env.cells.map (·.2), c ∉ C.G
noncomputable def Rd (env : Env) (h : Heap) (x : Str) (w : Value) : Prop :=
  match env.kindOf x with
  | some .local => ∃ m, h.Ns env.locals m ∧ m x = some w
  | some .cell => ∃ c, env.cells.lookup x = some c ∧ h.IsCell c (some w)
  | some .free => ∃ c, env.cells.lookup x = some c ∧ h.IsCell c (some w)
  | some .globalImplicit => ∃ m, h.Ns env.globals m ∧ m x = some w
  | _ => False
theorem lookup_mem {α β : Type} [BEq α] [LawfulBEq α] {l : List (α × β)} {x : α} {c : β} (h : l.lookup x = some c) : (x, c) ∈ l := by
  induction l with
  | nil => cases h
  | cons p r ih =>
    obtain ⟨y, d⟩ := p
    rw [List.lookup_cons] at h
    split at h
    · rename_i e; have := eq_of_beq e; subst this; injection h with h; subst h; exact List.mem_cons_self
    · exact List.mem_cons_of_mem _ (ih h)
theorem Rd.keep {env : Env} {h h' : Heap} {x : Str} {w : Value} (r : Rd env h x w) (k1 : ∀ o, h.get? env.locals = some o → h'.get? env.locals = some o) (k2 : ∀ c ∈ env.cells.map (·.2), ∀ o, h.get? c = some o → h'.get? c = some o)
    (k3 : ∀ o, h.get? env.globals = some o → h'.get? env.globals = some o) : Rd env h' x w := by
  unfold Rd at r ⊢
  split at r
  · exact r.imp fun _ y => y.imp (fun z => z.at fun o e => k1 o e) id
  · obtain ⟨c, a, ⟨o, e, q⟩⟩ := r; exact ⟨c, a, ⟨o, k2 c (List.mem_map_of_mem (lookup_mem a)) o e, q⟩⟩
  · obtain ⟨c, a, ⟨o, e, q⟩⟩ := r; exact ⟨c, a, ⟨o, k2 c (List.mem_map_of_mem (lookup_mem a)) o e, q⟩⟩
  · exact r.imp fun _ y => y.imp (fun z => z.at fun o e => k3 o e) id
  · exact r.elim
theorem Rd.gr {C : Cx} {n : Nat} {F : Fm} (ok : FmOk C n F) {h h' : Heap} {x : Str} {w : Value} (r : Rd F.env h x w) (hL : F.env.locals ∉ C.G) (g : Gr C h h') : Rd F.env h' x w :=
  r.keep (fun o => g.keep _ o hL) (fun c hc o => g.keep c o (ok.cG c hc)) (fun o => g.keep _ o (by rw [ok.globals]; exact C.gG))
noncomputable def VarOk (F : Fm) (ad : Ad) (h : Heap) (i : Nat) (x : Str) : V → Prop
  | .unb => True
  | .mints l => ∃ a ws, (i, a) ∈ ad.m ∧ Rd F.env h x (.ref a) ∧ h.PlainList a ws.toArray ∧ IntsAre ws l
  | .mlist l => ∃ a ws, (i, a) ∈ ad.m ∧ Rd F.env h x (.ref a) ∧ h.PlainList a ws.toArray ∧ VRs (F.U ad) h l ws
  | .mit a l => ∃ w p, (i, a) ∈ ad.m ∧ Rd F.env h x (.ref a) ∧ ItAt h a w p ∧ ItV (F.U ad) h w p l
  | v => ∃ w, Rd F.env h x w ∧ VR (F.U ad) h v w
structure Rep (C : Cx) (F : Fm) (ad : Ad) (st : List V) (s : Shared) : Prop where
  stays : ∀ b o, b ∉ C.G → F.h₀.get? b = some o → s.heap.get? b = some o
  tb : C.Tb s.heap
  ns : ∃ m, s.heap.Ns F.env.locals m
  cells : ∀ c ∈ F.cells, ∃ v, s.heap.IsCell c v
  ads : ∀ p ∈ ad.m, OwnAt s.heap p.2
  gU : ∀ g ∈ C.G, g ∈ ad.ux
  ec : ∀ c ∈ F.env.cells.map (·.2), ∃ v, s.heap.IsCell c v
  fresh : ∀ a ∈ F.own ad, F.h₀.get? a = none
  ux : ∀ u ∈ ad.ux, s.heap.get? u ≠ none
  apart : ∀ a ∈ F.own ad, a ∉ ad.ux
  nd : (F.own ad).Nodup
  vars : ∀ i x v, F.names[i]? = some x → st[i]? = some v → VarOk F ad s.heap i x v
section
variable {C : Cx} {n : Nat} {F : Fm} {ad : Ad} {st : List V} {s : Shared}
theorem Rep.ownG (R : Rep C F ad st s) (_ok : FmOk C n F) {a : Addr} (ha : a ∈ F.own ad) : a ∉ C.G := fun q => R.apart a ha (R.gU a q)
theorem Rep.LG (R : Rep C F ad st s) (ok : FmOk C n F) : F.env.locals ∉ C.G := R.ownG ok List.mem_cons_self
theorem Rep.wd (R : Rep C F ad st s) (ok : FmOk C n F) : Wd C s.heap := ok.wd.of R.stays
theorem Rep.UG (R : Rep C F ad st s) : ∀ g ∈ C.G, g ∈ F.U ad := fun g hg => List.mem_append_right _ (R.gU g hg)
theorem VarOk.gr (ok : FmOk C n F) {h h' : Heap} {i : Nat} {x : Str} {v : V} (r : VarOk F ad h i x v) (hL : F.env.locals ∉ C.G) (hA : ∀ p ∈ ad.m, p.2 ∉ C.G) (hU : ∀ g ∈ C.G, g ∈ F.U ad) (g : Gr C h h') : VarOk F ad h' i x v := by
  cases v with
  | unb => trivial
  | mints l => obtain ⟨a, ws, e1, e2, e3, e4⟩ := r; exact ⟨a, ws, e1, e2.gr ok hL g, e3.at fun o => g.keep a o (hA _ e1), e4⟩
  | mlist l => obtain ⟨a, ws, e1, e2, e3, e4⟩ := r; exact ⟨a, ws, e1, e2.gr ok hL g, e3.at fun o => g.keep a o (hA _ e1), e4.gr hU g⟩
  | mit a l => obtain ⟨w, p, e1, e2, e3, e4⟩ := r; exact ⟨w, p, e1, e2.gr ok hL g, e3.at fun o => g.keep a o (hA _ e1), e4.mono (fun b o n e => g.keep b o (fun q => n (hU b q)) e) (fun _ hb => .inl hb)⟩
  | _ => obtain ⟨w, e1, e2⟩ := r; exact ⟨w, e1.gr ok hL g, e2.gr hU g⟩
theorem mem_own_ad {p : Nat × Addr} (hp : p ∈ ad.m) : p.2 ∈ F.own ad := List.mem_cons_of_mem _ (List.mem_append_right _ (List.mem_map_of_mem hp))
theorem Rep.grow (R : Rep C F ad st s) (ok : FmOk C n F) {h' : Heap} {tk : Nat} (g : Gr C s.heap h') : Rep C F ad st { s with heap := h', toks := tk } where
  stays := fun b o n e => g.keep b o n (R.stays b o n e)
  tb := g.tb R.tb
  ns := R.ns.imp fun _ a => Ns.gr a (R.LG ok) g
  cells := fun c hc => (R.cells c hc).imp fun _ a => IsCell.gr a (R.ownG ok (List.mem_cons_of_mem _ (List.mem_append_left _ hc))) g
  ads := fun p hp => (R.ads p hp).at fun o => g.keep _ o (R.ownG ok (mem_own_ad hp))
  gU := R.gU
  ec := fun c hc => (R.ec c hc).imp fun _ a => IsCell.gr a (ok.cG c hc) g
  fresh := R.fresh
  ux := fun u hu => by
    by_cases hg : u ∈ C.G
    · exact C.alive _ (g.tb R.tb) u hg
    · cases q : s.heap.get? u with
      | none => exact absurd q (R.ux u hu)
      | some o => show h'.get? u ≠ none; rw [g.keep u o hg q]; simp
  apart := R.apart
  nd := R.nd
  vars := fun i x v h1 h2 => (R.vars i x v h1 h2).gr ok (R.LG ok) (fun p hp => R.ownG ok (mem_own_ad hp)) R.UG g
theorem Rep.own_alive (R : Rep C F ad st s) : ∀ a ∈ F.own ad, s.heap.get? a ≠ none := by
  intro a ha
  rcases List.mem_cons.mp ha with rfl | ha
  · obtain ⟨m, o, _, _, e, _⟩ := R.ns; rw [e]; simp
  · rcases List.mem_append.mp ha with ha | ha
    · obtain ⟨v, o, e, _⟩ := R.cells a ha; rw [e]; simp
    · obtain ⟨p, hp, rfl⟩ := List.mem_map.mp ha
      exact (R.ads p hp).alive
theorem Rep.U_alive (R : Rep C F ad st s) : ∀ a ∈ F.U ad, s.heap.get? a ≠ none := by
  intro a ha
  rcases List.mem_append.mp ha with ha | ha
  · exact R.own_alive a ha
  · exact R.ux a ha
end
noncomputable abbrev WX := List V → (V → Prop) → Prop
noncomputable def EvX (C : Cx) (F : Fm) (e : Expr) (W : WX) : Prop :=
  ∀ (ad : Ad) (st : List V) (s : Shared) (P : V → Prop) (Q : Value → Shared → Prop) (E : Value → Shared → Prop), W st P → Rep C F ad st s →
    (∀ w v h' tk, P v → Gr C s.heap h' → VR (F.U ad) h' v w → Q w { s with heap := h', toks := tk }) → wpAny (model C.prog C.w) F.A (eval e F.env) Q E s
noncomputable def New (C : Cx) (h h' : Heap) (w : Value) : Prop := ∀ a, w = .ref a → a ∉ C.G ∧ h.get? a = none ∧ ∃ c d, h'.get? a = some { cls := c, data := d }
noncomputable def EvF (C : Cx) (F : Fm) (e : Expr) (W : WX) : Prop :=
  ∀ (ad : Ad) (st : List V) (s : Shared) (P : V → Prop) (Q : Value → Shared → Prop) (E : Value → Shared → Prop), W st P → Rep C F ad st s →
    (∀ w v h' tk, P v → Gr C s.heap h' → VR (F.U ad) h' v w → New C s.heap h' w → Q w { s with heap := h', toks := tk }) → wpAny (model C.prog C.w) F.A (eval e F.env) Q E s
section
variable {C : Cx} {F : Fm} {e : Expr} {W : WX} {prog : Program} {w₀ : World}
theorem EvF.x (h : EvF C F e W) : EvX C F e W := fun ad st s P Q E hW R k => h ad st s P Q E hW R fun w v h' tk hp hs hv _ => k w v h' tk hp hs hv
theorem okName_debug {x : Str} (hx : okName x = true) : (x == ("__debug__" : Str)) = false := by
  unfold okName at hx
  cases h1 : (x == ("__debug__" : Str)) with
  | false => rfl
  | true => rw [h1] at hx; simp at hx
theorem okName_classdict {x : Str} (hx : okName x = true) : (x == ("__classdict__" : Str)) = false := by
  unfold okName at hx
  cases h1 : (x == ("__classdict__" : Str)) with
  | false => rfl
  | true => rw [h1] at hx; simp at hx
theorem wp_load_rd {A : Around} {env : Env} {x : Str} {w : Value} {s : Shared} {Q E} (hk : env.scope.kind = .function) (hx : okName x = true) (r : Rd env s.heap x w) (h : Q w s) :
    wpAny (model prog w₀) A (loadName env x) Q E s := by
  unfold Rd at r
  split at r
  · rename_i hl; obtain ⟨m, a, b⟩ := r; exact wpAny_loadName_local hk hl a b h
  · rename_i hl; obtain ⟨c, a, b⟩ := r; exact wpAny_loadName_cell hk hl a b h
  · rename_i hl; obtain ⟨c, a, b⟩ := r; exact wpAny_loadName_free hk hl a b h (okName_classdict hx)
  · rename_i hl; obtain ⟨m, a, b⟩ := r
    unfold loadName
    simp only [Env.blockKind, hk, hl, ScopeKind.isAnnotationScope, Bool.false_and, Bool.false_eq_true, if_false]
    exact loadGlobal_global a b h
  · exact r.elim
noncomputable def V.plain : V → Prop
  | .unb => False
  | .mints _ => False
  | .mlist _ => False
  | .mit _ _ => False
  | _ => True
noncomputable def getV (st : List V) (i : Nat) : V := (st[i]?).getD .unb
theorem EvX.name {n : Nat} (ok : FmOk C n F) {x : Str} {pos : Pos} (i : Nat) (hi : F.names[i]? = some x) :
    EvX C F (.Name x pos) (fun st P => (getV st i).plain ∧ P (getV st i)) := by
  intro ad st s P Q E ⟨hp, hP⟩ R k
  have hx := ok.names x (List.mem_of_getElem? hi)
  refine wpAny_Name ?_ (okName_debug hx)
  cases hv : st[i]? with
  | none => simp [getV, hv, V.plain] at hp
  | some v =>
    have hg : getV st i = v := by simp [getV, hv]
    rw [hg] at hp hP
    have hr := R.vars i x v hi hv
    have : ∃ w, Rd F.env s.heap x w ∧ VR (F.U ad) s.heap v w := by
      cases v <;> first | exact hp.elim | exact hr
    obtain ⟨w, r1, r2⟩ := this
    exact wp_load_rd ok.kind hx r1 (k w v s.heap s.toks hP (.refl ..) r2)
theorem New.noref {C : Cx} {h h' : Heap} {w : Value} (n : ∀ a, w ≠ .ref a) : New C h h' w := fun a e => (n a e).elim
theorem EvF.int {i : Int} {k : Nat} {pos : Pos} : EvF C F (.Constant (.int i) k pos) (fun _ P => P (.int i)) := by
  intro ad st s P Q E hP R k
  exact wpAny_Constant_int (k _ _ s.heap _ hP (.refl ..) (by simp [VR]) (.noref fun a e => by cases e))
theorem EvF.bool {b : Bool} {k : Nat} {pos : Pos} : EvF C F (.Constant (.bool b) k pos) (fun _ P => P (.bool b)) := by
  intro ad st s P Q E hP R k
  exact wpAny_pure (k _ _ s.heap s.toks hP (.refl ..) (by simp [VR]) (.noref fun a e => by cases e))
theorem EvF.none {k : Nat} {pos : Pos} : EvF C F (.Constant .none k pos) (fun _ P => P .none) := by
  intro ad st s P Q E hP R k
  exact wpAny_pure (k _ _ s.heap s.toks hP (.refl ..) (by simp [VR]) (.noref fun a e => by cases e))
end
end Mine
end
section
open PySem PySem.Calls PyProof.Rows PySem.W PySem.Spec
set_option Elab.async false
set_option maxRecDepth 10000
namespace Mine
section
variable {C : Cx} {F : Fm} {e : Expr} {W : WX} {n : Nat}
section
variable {prog : Program} {w : World} {A : Around} {E : Value → Shared → Prop} {s : Shared} {Q : Value → Shared → Prop}
theorem raw_add {l b : Addr} {vs ws : List Value} (hl : s.heap.PlainList l vs.toArray) (hb : s.heap.PlainList b ws.toArray)
    (h : Q (.ref s.heap.objs.size) { s with heap := s.heap.push { cls := .type "list", data := .seq (vs ++ ws).toArray } })
    (hsz : vs.length + ws.length ≤ sizeLine) : wpAny (model prog w) A (binaryOp .Add (.ref l) (.ref b)) Q E s := by
  obtain ⟨n, hl⟩ := hl
  obtain ⟨m, hb⟩ := hb
  refine P.add_list hl hb ?_ (by simpa using hsz)
  have e : vs.toArray ++ ws.toArray = (vs ++ ws).toArray := by simp
  rw [e]; exact h
theorem foldl_append_flatten (xs : List Value) (k : Nat) : ∀ acc : Array Value, List.foldl (fun x1 x2 => x1 ++ x2) acc (List.replicate k xs.toArray) = acc ++ ((List.replicate k xs).flatten).toArray := by
  induction k with
  | zero => intro acc; simp
  | succ k ih => intro acc; rw [List.replicate_succ, List.foldl_cons, ih]; simp [List.replicate_succ]
theorem raw_mul {l : Addr} {vs : List Value} {x : Int} {u : Tok} (hl : s.heap.PlainList l vs.toArray)
    (hlo : -(2 ^ 63 : Int) ≤ x) (hhi : x < 2 ^ 63) (hsz : vs.length * x.toNat ≤ 2 ^ 24)
    (h : Q (.ref s.heap.objs.size) { s with heap := s.heap.push { cls := .type "list", data := .seq ((List.replicate x.toNat vs).flatten).toArray } }) :
    wpAny (model prog w) A (binaryOp .Mult (.ref l) (.int x u)) Q E s := by
  obtain ⟨k, hl⟩ := hl
  refine wpAny_binaryOp_repeat_ref (T := "list") (U := "int") (by decide) ⟨_, hl, rfl⟩ (fun s' => typeIs_int s' x u) noFill_list_mul F.fills_int_mul F.slot_int_rmul repeat_list F.slot_int_index.lookup
    (call_meets F.slot_int_rmul (typeIs_int s x u) F.entry_int_rmul (F.args_int_rmul_2 _ _) (int___rmul___int_list x u l vs.toArray k)
      ⟨hl, rfl, ⟨_, hl, rfl⟩, call_meets F.slot_list_mul ⟨_, hl, rfl⟩ F.entry_list_mul (F.args_list_mul_2 _ _)
        (AutoListH.list___mul___list_int_3 l vs.toArray k x u (by simp [Builtin.List.listFitsIndex]; (clear hsz h hl; lia)) (by simp; (clear hlo hhi h hl; lia)) (by simp [Builtin.List.listTooLong, sizeLine]; omega))
        ⟨hl, ?_⟩⟩)
  have e : List.foldl (fun x1 x2 => x1 ++ x2) #[] (List.replicate (if vs.toArray.isEmpty = true then 0 else x.toNat) vs.toArray) = ((List.replicate x.toNat vs).flatten).toArray := by
    rw [foldl_append_flatten]
    cases vs with
    | nil => simp
    | cons v r => simp
  simp only [wants]
  rw [e]; exact h
end
noncomputable def binI : Operator → Int → Int → (V → Prop) → Prop
  | .Add, a, b, P => P (.int (a + b))
  | .Sub, a, b, P => P (.int (a - b))
  | .Mult, a, b, P => IntMulOk a b ∧ P (.int (a * b))
  | .FloorDiv, a, b, P => b ≠ 0 ∧ Builtin.divisionGoesByPylong a b = false ∧ P (.int (a.fdiv b))
  | .Mod, a, b, P => b ≠ 0 ∧ P (.int (a.fmod b))
  | .LShift, a, b, P => 0 ≤ b ∧ (Builtin.Int.intBits a : Int) + b ≤ 2 ^ 27 ∧ P (.int (a * 2 ^ b.toNat))
  | .RShift, a, b, P => 0 ≤ b ∧ P (.int (a.fdiv (2 ^ b.toNat)))
  | .BitAnd, a, b, P => P (.int (Builtin.bitAnd a b))
  | .BitOr, a, b, P => P (.int (Builtin.bitOr a b))
  | .BitXor, a, b, P => P (.int (Builtin.bitXor a b))
  | .Pow, a, b, P => 0 ≤ b ∧ (Builtin.Int.intBits a : Int) * b ≤ 2 ^ 27 ∧ P (.int (a ^ b.toNat))
  | _, _, _, _ => False
noncomputable def onAdd : Operator → Prop → Prop
  | .Add, X => X
  | _, _ => False
noncomputable def onMult : Operator → Prop → Prop
  | .Mult, X => X
  | _, _ => False
noncomputable def binR (op : Operator) (b : V) (P : V → Prop) : V → Prop
  | .int x => match b with | .int y => binI op x y P | _ => False
  | .ints x => match b with
    | .ints y => onAdd op (x.length + y.length ≤ 2 ^ 24 ∧ P (.ints (x ++ y)))
    | .int y => onMult op (-(2 ^ 63 : Int) ≤ y ∧ y < 2 ^ 63 ∧ x.length * y.toNat ≤ 2 ^ 24 ∧ P (.ints (List.replicate y.toNat x).flatten))
    | _ => False
  | .list x => match b with
    | .list y => onAdd op (x.length + y.length ≤ 2 ^ 24 ∧ P (.list (x ++ y)))
    | .int y => onMult op (-(2 ^ 63 : Int) ≤ y ∧ y < 2 ^ 63 ∧ x.length * y.toNat ≤ 2 ^ 24 ∧ P (.list (List.replicate y.toNat x).flatten))
    | _ => False
  | _ => False
noncomputable def binV (op : Operator) (a b : V) (P : V → Prop) : Prop := binR op b P a
theorem IntsAre.rep {vs : List Value} {ns : List Int} (h : IntsAre vs ns) : ∀ k : Nat, IntsAre (List.replicate k vs).flatten (List.replicate k ns).flatten
  | 0 => .nil
  | k + 1 => by simp only [List.replicate_succ, List.flatten_cons]; exact IntsAre.append h (IntsAre.rep h k)
theorem VRs.rep {U : List Addr} {h : Heap} {vs : List Value} {ns : List V} (x : VRs U h ns vs) : ∀ k : Nat, VRs U h (List.replicate k ns).flatten (List.replicate k vs).flatten
  | 0 => by simp [VRs]
  | k + 1 => by simp only [List.replicate_succ, List.flatten_cons]; exact VRs.append x (VRs.rep x k)
theorem new_push {C : Cx} {U : List Addr} {h : Heap} {o : Obj} (ho : o.isFreed = false) (hd : ∃ c d, o = { cls := c, data := d }) (hG : ∀ t, C.Tb t → True) (tb : C.Tb h) :
    New C h (h.push o) (.ref h.objs.size) := by
  intro a e
  injection e with e; subst e
  refine ⟨fun q => ?_, ?_, ?_⟩
  · have := C.alive h tb _ q
    cases q2 : h.get? h.objs.size with
    | none => exact this q2
    | some o => exact absurd (Heap.lt_size q2) (Nat.lt_irrefl _)
  · cases q2 : h.get? h.objs.size with
    | none => rfl
    | some o => exact absurd (Heap.lt_size q2) (Nat.lt_irrefl _)
  · obtain ⟨c, d, rfl⟩ := hd; exact ⟨c, d, Heap.get?_push_size _ ho⟩
theorem dead_size (h : Heap) : h.get? h.objs.size = none := by
  cases q2 : h.get? h.objs.size with
  | none => rfl
  | some o => exact absurd (Heap.lt_size q2) (Nat.lt_irrefl _)
theorem size_notin {U : List Addr} {h : Heap} (al : ∀ u ∈ U, h.get? u ≠ none) : h.objs.size ∉ U := fun q => al _ q (dead_size h)
section
variable {A : Around} {E : Value → Shared → Prop} {s : Shared} {Q : Value → Shared → Prop} {U : List Addr}
theorem bin_sound {op : Operator} {a b : V} {P : V → Prop} {wa wb : Value} (hb : binV op a b P) (ra : VR U s.heap a wa) (rb : VR U s.heap b wb) (al : ∀ u ∈ U, s.heap.get? u ≠ none) (tb : C.Tb s.heap)
    (k : ∀ w v h' tk, P v → Gr C s.heap h' → VR U h' v w → New C s.heap h' w → Q w { s with heap := h', toks := tk }) :
    wpAny (model C.prog C.w) A (binaryOp op wa wb) Q E s := by
  have ki : ∀ i : Int, P (.int i) → Q (.int i s.toks) { s with toks := s.toks + 1 } := fun i hp => k _ _ s.heap _ hp (.refl ..) (by simp [VR]) (.noref fun a e => by cases e)
  have kl : ∀ (ws : List Value) (v : V), P v → VR U (s.heap.push { cls := .type "list", data := .seq ws.toArray }) v (.ref s.heap.objs.size) → Q (.ref s.heap.objs.size) { s with heap := s.heap.push { cls := .type "list", data := .seq ws.toArray } } :=
    fun ws v hp hv => k _ v _ s.toks hp (.push ..) hv (new_push (U := U) rfl ⟨_, _, rfl⟩ (fun _ _ => trivial) tb)
  have pl : ∀ ws : List Value, (s.heap.push { cls := .type "list", data := .seq ws.toArray }).PlainList s.heap.objs.size ws.toArray := fun ws => ⟨0, Heap.get?_push_size _ rfl⟩
  have up : ∀ {o : Obj} {vs : List V} {ws : List Value}, VRs U s.heap vs ws → VRs U (s.heap.push o) vs ws := fun {o vs ws} x => VRs.mono (fun b o' _ e => stays_push _ _ b o' e) (fun _ hb => .inl hb) vs ws x
  cases a <;> first | exact hb.elim | skip
  · cases b <;> first | exact hb.elim | skip
    simp only [VR] at ra rb
    obtain ⟨t, rfl⟩ := ra; obtain ⟨u, rfl⟩ := rb
    cases op <;> first | exact hb.elim | skip
    · exact add_int (ki _ hb)
    · exact sub_int (ki _ hb)
    · exact PyProof.Rows.mul_int (ki _ hb.2) hb.1
    · exact mod_int' hb.1 (ki _ hb.2)
    · exact pow_int hb.1 hb.2.1 (ki _ hb.2.2)
    · exact lshift_int hb.1 hb.2.1 (ki _ hb.2.2)
    · exact rshift_int hb.1 (ki _ hb.2)
    · exact or_int (ki _ hb)
    · exact xor_int (ki _ hb)
    · exact and_int (ki _ hb)
    · exact floordiv_int hb.1 (ki _ hb.2.2) (.inl hb.2.1)
  · simp only [VR] at ra
    obtain ⟨x, ws, rfl, hx, hpx, hix⟩ := ra
    cases b <;> first | exact hb.elim | skip
    · cases op <;> first | exact hb.elim | skip
      simp only [VR] at rb
      obtain ⟨u, rfl⟩ := rb
      refine raw_mul hpx hb.1 hb.2.1 (by rw [hix.length]; exact hb.2.2.1) (kl _ (.ints _) hb.2.2.2 ?_)
      simp only [VR]; exact ⟨_, _, rfl, size_notin al, pl _, IntsAre.rep hix _⟩
    · cases op <;> first | exact hb.elim | skip
      simp only [VR] at rb
      obtain ⟨y, us, rfl, hy, hpy, hiy⟩ := rb
      refine raw_add hpx hpy (kl _ (.ints _) hb.2 ?_) (by rw [hix.length, hiy.length]; exact hb.1)
      simp only [VR]; exact ⟨_, _, rfl, size_notin al, pl _, IntsAre.append hix hiy⟩
  · simp only [VR] at ra
    obtain ⟨x, ws, rfl, hx, hpx, hix⟩ := ra
    cases b <;> first | exact hb.elim | skip
    · cases op <;> first | exact hb.elim | skip
      simp only [VR] at rb
      obtain ⟨u, rfl⟩ := rb
      refine raw_mul hpx hb.1 hb.2.1 (by rw [hix.length]; exact hb.2.2.1) (kl _ (.list _) hb.2.2.2 ?_)
      simp only [VR]; exact ⟨_, _, rfl, size_notin al, pl _, VRs.rep (up hix) _⟩
    · cases op <;> first | exact hb.elim | skip
      simp only [VR] at rb
      obtain ⟨y, us, rfl, hy, hpy, hiy⟩ := rb
      refine raw_add hpx hpy (kl _ (.list _) hb.2 ?_) (by rw [hix.length, hiy.length]; exact hb.1)
      simp only [VR]; exact ⟨_, _, rfl, size_notin al, pl _, VRs.append (up hix) (up hiy)⟩
end
theorem New.old {C : Cx} {h h' h'' : Heap} {w : Value} (g : Gr C h h') (x : New C h' h'' w) : New C h h'' w := fun a e => ⟨(x a e).1, g.dead (x a e).1 (x a e).2.1, (x a e).2.2⟩
theorem EvF.bin (ok : FmOk C n F) {l r : Expr} {op : Operator} {pos : Pos} {W1 W2 : WX} (h1 : EvX C F l W1) (h2 : EvX C F r W2) :
    EvF C F (.BinOp l op r pos) (fun st P => W1 st fun a => W2 st fun b => binV op a b P) := by
  intro ad st s P Q E hW R k
  refine wpAny_BinOp (h1 ad st s _ _ _ hW R fun wa a h₁ t₁ hW2 g₁ r₁ => ?_)
  refine h2 ad st _ _ _ _ hW2 (R.grow ok g₁) fun wb b h₂ t₂ hb g₂ r₂ => ?_
  refine bin_sound hb (r₁.gr R.UG g₂) r₂ ((R.grow ok (g₁.trans g₂) (tk := t₂)).U_alive) ((g₁.trans g₂).tb R.tb) fun w v h' tk hp g' hv hn => ?_
  exact k w v h' tk hp ((g₁.trans g₂).trans g') hv (hn.old (g₁.trans g₂))
end
end Mine
end
section
open PySem PySem.Calls PyProof.Rows PySem.W PySem.Spec PySem.SeqAt
set_option Elab.async false
set_option maxRecDepth 10000
namespace Mine
mutual
noncomputable def V.py : V → PyData
  | .bool b => .bool b
  | .int i => .int i
  | .ints l => .list (l.map .int)
  | .list l => .list (V.pys l)
  | .tup l => .tuple (V.pys l)
  | _ => .none
noncomputable def V.pys : List V → List PyData
  | [] => []
  | v :: vs => V.py v :: V.pys vs
end
mutual
theorem VR.reads {U : List Addr} {h : Heap} : ∀ {v : V} {w : Value}, VR U h v w → ∃ as, Reads h w v.py as
  | .none, w, e => by simp only [VR] at e; subst e; exact ⟨_, by simp only [V.py]; exact Reads.none⟩
  | .bool b, w, e => by simp only [VR] at e; subst e; exact ⟨_, by simp only [V.py]; exact Reads.bool b⟩
  | .int i, w, e => by simp only [VR] at e; obtain ⟨t, rfl⟩ := e; exact ⟨_, by simp only [V.py]; exact Reads.int i t⟩
  | .ints l, w, e => by
    simp only [VR] at e
    obtain ⟨a, ws, rfl, e2, e3, e4⟩ := e
    exact ⟨_, by simp only [V.py]; exact reads_of_ints e3.isList e4⟩
  | .list l, w, e => by
    simp only [VR] at e
    obtain ⟨a, ws, rfl, e2, ⟨n, e3⟩, e4⟩ := e
    obtain ⟨as, r⟩ := VRs.reads e4
    exact ⟨_, by simp only [V.py]; exact Reads.list e3 rfl rfl (by simpa using r)⟩
  | .tup l, w, e => by
    simp only [VR] at e
    obtain ⟨a, ws, rfl, e2, ⟨n, e3⟩, e4⟩ := e
    obtain ⟨as, r⟩ := VRs.reads e4
    exact ⟨_, by simp only [V.py]; exact Reads.tuple e3 rfl rfl (by simpa using r)⟩
  | .unb, _, e => by simp only [VR] at e
  | .mints _, _, e => by simp only [VR] at e
  | .mlist _, _, e => by simp only [VR] at e
theorem VRs.reads {U : List Addr} {h : Heap} : ∀ {v : List V} {w : List Value}, VRs U h v w → ∃ as, ReadsAll h w (V.pys v) as
  | [], w, e => by simp only [VRs] at e; subst e; exact ⟨_, by simp only [V.pys]; exact ReadsAll.nil⟩
  | v :: vs, ws, e => by
    simp only [VRs] at e
    obtain ⟨w, ws', rfl, e2, e3⟩ := e
    obtain ⟨as, r⟩ := VR.reads e2
    obtain ⟨bs, r'⟩ := VRs.reads e3
    exact ⟨_, by simp only [V.pys]; exact ReadsAll.cons r r'⟩
end
noncomputable def cmpI : CmpOp → Int → Int → (V → Prop) → Prop
  | .Eq, a, b, P => P (.bool (decide (a = b)))
  | .NotEq, a, b, P => P (.bool (!decide (a = b)))
  | .Lt, a, b, P => P (.bool (decide (a < b)))
  | .LtE, a, b, P => P (.bool (decide (a ≤ b)))
  | .Gt, a, b, P => P (.bool (decide (b < a)))
  | .GtE, a, b, P => P (.bool (decide (b ≤ a)))
  | _, _, _, _ => False
noncomputable def onEq : CmpOp → Bool → (V → Prop) → Prop
  | .Eq, t, P => P (.bool t)
  | .NotEq, t, P => P (.bool (!t))
  | _, _, _ => False
noncomputable def onNe : CmpOp → Bool → (V → Prop) → Prop
  | .NotEq, t, P => P (.bool (!t))
  | _, _, _ => False
noncomputable def onIs : CmpOp → Bool → (V → Prop) → Prop
  | .Is, t, P => P (.bool t)
  | _, _, _ => False
noncomputable def okCmp (a b : V) : Prop := shaped (V.py a) = true ∧ shaped (V.py b) = true ∧ noMix (V.py a) (V.py b) = true
noncomputable def cmpR (op : CmpOp) (b : V) (P : V → Prop) : V → Prop
  | .int x => match b with | .int y => cmpI op x y P | .none => onIs op false P | _ => False
  | .ints x => match b with | .ints y => onEq op (decide (x = y)) P | _ => False
  | .tup x => match b with | .tup y => okCmp (.tup x) (.tup y) ∧ onEq op (same (V.py (.tup x)) (V.py (.tup y))) P | _ => False
  | .list x => match b with | .list y => okCmp (.list x) (.list y) ∧ onNe op (same (V.py (.list x)) (V.py (.list y))) P | _ => False
  | .none => match b with | .none => onIs op true P | _ => False
  | _ => False
noncomputable def cmpV (op : CmpOp) (a b : V) (P : V → Prop) : Prop := cmpR op b P a
section
variable {C : Cx} {F : Fm} {e : Expr} {W : WX} {n : Nat}
section
variable {A : Around} {E : Value → Shared → Prop} {s : Shared} {Q : Value → Shared → Prop} {U : List Addr}
theorem cmp_sound {op : CmpOp} {a b : V} {P : V → Prop} {wa wb : Value} (hu : A.units + 64 < cLine) (hb : cmpV op a b P) (ra : VR U s.heap a wa) (rb : VR U s.heap b wb)
    (k : ∀ b, P (.bool b) → Q (.bool b) s) :
    wpAny (model C.prog C.w) A (compareOp op wa wb) Q E s := by
  cases a <;> first | exact hb.elim | skip
  · cases b <;> first | exact hb.elim | skip
    cases op <;> first | exact hb.elim | skip
    simp only [VR] at ra rb
    subst ra rb; exact is_none_none (k _ hb)
  · cases b <;> first | exact hb.elim | skip
    · cases op <;> first | exact hb.elim | skip
      simp only [VR] at ra rb
      obtain ⟨t, rfl⟩ := ra; subst rb; exact is_none_ne (by intro e; cases e) (k _ hb)
    · simp only [VR] at ra rb
      obtain ⟨t, rfl⟩ := ra; obtain ⟨u, rfl⟩ := rb
      cases op <;> first | exact hb.elim | skip
      · exact eq_int (by rw [show ∀ a b : Int, (a == b) = decide (a = b) from fun a b => rfl]; exact k _ hb)
      · exact ne_int (by rw [show ∀ a b : Int, (a != b) = !decide (a = b) from fun a b => rfl]; exact k _ hb)
      · exact lt_int (k _ hb)
      · exact PyProof.Rows.le_int (k _ hb)
      · exact gt_int (k _ hb)
      · exact PyProof.Rows.ge_int (k _ hb)
  · cases b <;> first | exact hb.elim | skip
    simp only [VR] at ra rb
    obtain ⟨x, ws, rfl, hx, hpx, hix⟩ := ra; obtain ⟨y, us, rfl, hy, hpy, hiy⟩ := rb
    cases op <;> first | exact hb.elim | skip
    · exact eq_intsK hpx.isList hix hpy.isList hiy hu (k _ hb)
    · exact ne_intsK hpx.isList hix hpy.isList hiy hu (k _ hb)
  · cases b <;> first | exact hb.elim | skip
    cases op <;> first | exact hb.2.elim | skip
    obtain ⟨as, r1⟩ := ra.reads; obtain ⟨bs, r2⟩ := rb.reads; exact ne_dataH_same r1 r2 hb.1.1 hb.1.2.1 hu hb.1.2.2 (k _ hb.2)
  · cases b <;> first | exact hb.elim | skip
    obtain ⟨as, r1⟩ := ra.reads; obtain ⟨bs, r2⟩ := rb.reads
    cases op <;> first | exact hb.2.elim | skip
    · exact eq_dataH_same r1 r2 hb.1.1 hb.1.2.1 hu hb.1.2.2 (k _ hb.2)
    · exact ne_dataH_same r1 r2 hb.1.1 hb.1.2.1 hu hb.1.2.2 (k _ hb.2)
end
theorem AOk.room {A : Around} (x : AOk n A) : A.units + 64 < cLine := by have := x.units; simp only [cLine]; (clear x; lia)
noncomputable def noMarks : Expr → Bool
  | .Set .. => false
  | _ => true
theorem marks_of {op : CmpOp} {r : Expr} (h : noMarks r = true) : behindInMarks op r = false := by
  cases r <;> first | rfl | exact (Bool.false_ne_true h).elim
theorem EvF.cmp (ok : FmOk C n F) {l r : Expr} {op : CmpOp} {pos : Pos} {W1 W2 : WX} (h1 : EvX C F l W1) (h2 : EvX C F r W2) (hm : noMarks r = true) :
    EvF C F (.Compare l [op] [r] pos) (fun st P => W1 st fun a => W2 st fun b => cmpV op a b P) := by
  intro ad st s P Q E hW R k
  refine wpAny_Compare1 (h1 ad st s _ _ _ hW R fun wa a h₁ t₁ hW2 g₁ r₁ => ?_) (marks_of hm)
  refine h2 ad st _ _ _ _ hW2 (R.grow ok g₁) fun wb b h₂ t₂ hb g₂ r₂ => ?_
  refine cmp_sound ok.a.room hb (r₁.gr R.UG g₂) r₂ fun b hp => ?_
  exact k _ _ h₂ t₂ hp (g₁.trans g₂) (by simp [VR]) (.noref fun a e => by cases e)
noncomputable def unV : UnaryOp → V → (V → Prop) → Prop
  | .USub, .int a, P => P (.int (-a))
  | .Invert, .int a, P => P (.int (Builtin.bitNot a))
  | _, _, _ => False
theorem EvF.un {x : Expr} {op : UnaryOp} {pos : Pos} {W1 : WX} (h1 : EvX C F x W1) :
    EvF C F (.UnaryOp op x pos) (fun st P => W1 st fun a => unV op a P) := by
  intro ad st s P Q E hW R k
  refine wpAny_UnaryOp (h1 ad st s _ _ _ hW R fun wa a h₁ t₁ hb g₁ r₁ => ?_)
  unfold unV at hb
  split at hb
  all_goals first | exact hb.elim | skip
  all_goals simp only [VR] at r₁
  all_goals obtain ⟨t, rfl⟩ := r₁
  · exact PyProof.Rows.neg_int (k _ _ h₁ _ hb g₁ (by simp [VR]) (.noref fun a e => by cases e))
  · exact invert_int (k _ _ h₁ _ hb g₁ (by simp [VR]) (.noref fun a e => by cases e))
noncomputable abbrev WC := List V → (Bool → Prop) → Prop
noncomputable def EvC (C : Cx) (F : Fm) (e : Expr) (W : WC) : Prop :=
  ∀ (ad : Ad) (st : List V) (s : Shared) (P : Bool → Prop) (Q : Bool → Shared → Prop) (E : Value → Shared → Prop), W st P → Rep C F ad st s →
    (∀ b h' tk, P b → Gr C s.heap h' → Q b { s with heap := h', toks := tk }) → wpAny (model C.prog C.w) F.A (isTrue e F.env (eval e F.env)) Q E s
theorem EvC.cmp (ok : FmOk C n F) {l r : Expr} {op : CmpOp} {pos : Pos} {W1 W2 : WX} (h1 : EvX C F l W1) (h2 : EvX C F r W2) (hm : noMarks r = true) :
    EvC C F (.Compare l [op] [r] pos) (fun st P => W1 st fun a => W2 st fun b => cmpV op a b fun c => match c with | .bool x => P x | _ => False) := by
  intro ad st s P Q E hW R k
  refine wpAny_isTrue_Compare1 (h1 ad st s _ _ _ hW R fun wa a h₁ t₁ hW2 g₁ r₁ => ?_) (marks_of hm)
  refine h2 ad st _ _ _ _ hW2 (R.grow ok g₁) fun wb b h₂ t₂ hb g₂ r₂ => ?_
  refine cmp_sound ok.a.room hb (r₁.gr R.UG g₂) r₂ fun b hp => ?_
  exact wpAny_truthy_bool (k b h₂ t₂ hp (g₁.trans g₂))
noncomputable def trV : V → (Bool → Prop) → Prop
  | .int a, P => P (a != 0)
  | .bool b, P => P b
  | .ints l, P => l.length < 2 ^ 62 ∧ P (!l.isEmpty)
  | _, _ => False
noncomputable def plainTest : Expr → Bool
  | .Name .. | .BinOp .. | .Call .. | .Subscript .. | .Constant .. => true
  | _ => false
theorem EvC.plain {x : Expr} {W1 : WX} (h1 : EvX C F x W1) (hp : plainTest x = true) : EvC C F x (fun st P => W1 st fun a => trV a P) := by
  intro ad st s P Q E hW R k
  refine isTrue_plain (h1 ad st s _ _ _ hW R fun wa a h₁ t₁ hb g₁ r₁ => ?_) (by cases x <;> first | rfl | exact (Bool.false_ne_true hp).elim)
  unfold trV at hb
  split at hb
  · simp only [VR] at r₁; obtain ⟨t, rfl⟩ := r₁; exact truthy_int (k _ h₁ t₁ hb g₁)
  · simp only [VR] at r₁; subst r₁; exact wpAny_truthy_bool (k _ h₁ t₁ hb g₁)
  · simp only [VR] at r₁
    obtain ⟨x, ws, rfl, hx, hpx, hix⟩ := r₁
    have e : (!ws.toArray.isEmpty) = !(‹List Int›).isEmpty := by
      cases hix with
      | nil => rfl
      | cons _ _ _ => rfl
    exact wpAny_truthy_list hpx.isList (by have := hix.length; simp; (clear h1 hp hW R k g₁ hx hpx hix e; lia)) (by rw [e]; exact k _ h₁ _ hb.2 g₁)
  · exact hb.elim
end
end Mine
end
section
open PySem PySem.Calls PyProof.Rows PySem.W PySem.Spec PySem.SeqAt
set_option Elab.async false
set_option maxRecDepth 10000
namespace Mine
section
variable {C : Cx} {F : Fm} {e : Expr} {W : WX} {n : Nat}
noncomputable abbrev WXs := List V → (List V → Prop) → Prop
noncomputable def notStar : Expr → Bool
  | .Starred .. => false
  | _ => true
theorem starEach_cons {e : Expr} {rest : List Expr} {env : Env} (h : notStar e = true) : starEach (e :: rest) env = (false, eval e env) :: starEach rest env := by
  cases e <;> first | rfl | exact (Bool.false_ne_true h).elim
noncomputable def EvXs (C : Cx) (F : Fm) (es : List Expr) (W : WXs) : Prop :=
  (∀ pos, (backTo pos (starEach es F.env)).any (·.1) = false) ∧
  ∀ (pos : Pos) (ad : Ad) (st : List V) (s : Shared) (P : List V → Prop) (Q : List Value → Shared → Prop) (E : Value → Shared → Prop), W st P → Rep C F ad st s →
    (∀ ws vs h' tk, P vs → Gr C s.heap h' → VRs (F.U ad) h' vs ws → Q ws { s with heap := h', toks := tk }) → wpAny (model C.prog C.w) F.A (spliced (backTo pos (starEach es F.env))) Q E s
theorem EvXs.nil : EvXs C F [] (fun _ P => P []) :=
  ⟨fun _ => rfl, fun pos ad st s P Q E hP R k => args_nil (k [] [] s.heap s.toks hP (.refl ..) (by simp [VRs]))⟩
theorem EvXs.cons (ok : FmOk C n F) {e : Expr} {es : List Expr} {W1 : WX} {W2 : WXs} (h1 : EvX C F e W1) (h2 : EvXs C F es W2) (hs : notStar e = true) :
    EvXs C F (e :: es) (fun st P => W1 st fun v => W2 st fun vs => P (v :: vs)) := by
  refine ⟨fun pos => by rw [starEach_cons hs]; exact h2.1 pos, fun pos ad st s P Q E hW R k => ?_⟩
  refine args_cons (h1 ad st s _ _ _ hW R fun w v h₁ t₁ hW2 g₁ r₁ => ?_) (starEach_cons hs)
  refine h2.2 pos ad st _ _ _ _ hW2 (R.grow ok g₁) fun ws vs h₂ t₂ hp g₂ r₂ => ?_
  exact k (w :: ws) (v :: vs) h₂ t₂ hp (g₁.trans g₂) (by simp only [VRs]; exact ⟨w, ws, rfl, r₁.gr R.UG g₂, r₂⟩)
noncomputable def PC (C : Cx) (n : Nat) (f : Value) (T : List V → (V → Prop) → Prop) : Prop :=
  ∀ (A : Around) (U : List Addr) (s : Shared) (vs : List V) (ws : List Value) (P : V → Prop) (Q : Value → Shared → Prop) (E : Value → Shared → Prop),
    AOk n A → Wd C s.heap → C.Tb s.heap → (∀ u ∈ U, s.heap.get? u ≠ none) → (∀ g ∈ C.G, g ∈ U) → VRs U s.heap vs ws → T vs P →
    (∀ w v h' tk, P v → Gr C s.heap h' → VR U h' v w → Q w { s with heap := h', toks := tk }) → wpAny (model C.prog C.w) A (call f ws) Q E s
theorem PC.le {n m : Nat} {f : Value} {T : List V → (V → Prop) → Prop} (x : PC C n f T) (h : n ≤ m) : PC C m f T :=
  fun A U s vs ws P Q E a => x A U s vs ws P Q E (a.le h)
noncomputable def GN (C : Cx) (x : Str) (f : Value) : Prop := okName x = true ∧ (nsIn C.K mainGlobals x = some (some f) ∨ (nsIn C.K mainGlobals x = some none ∧ bootBuiltins x = some f ∧ x ≠ "__name__"))
noncomputable def KeepOk (C : Cx) (f : Value) : Prop := (∃ id, f = .builtin id) ∨ (∃ T, f = .type T) ∨ keepIn C.K f = true
theorem name_gn {A : Around} {env : Env} {x : Str} {f : Value} {pos : Pos} {s : Shared} {Q E} (hk : env.scope.kind = .function) (hg : env.globals = mainGlobals) (hb : env.builtins = builtinsNs) (hx : env.kindOf x = some .globalImplicit) (wd : Wd C s.heap) (g : GN C x f) (h : Q f s) :
    wpAny (model C.prog C.w) A (eval (.Name x pos) env) Q E s := by
  obtain ⟨h1, h2⟩ := g
  refine Name_function_global hk hx ?_ (okName_debug h1)
  obtain ⟨mg, G⟩ := wd.g
  obtain ⟨mb, B, hB⟩ := wd.b
  rcases h2 with h2 | ⟨h2, h3, h4⟩
  · exact loadGlobal_global (by rw [hg]; exact G) (mg_of wd.inK G h2) h
  · exact loadGlobal_builtin (by rw [hg]; exact G) (mg_none_of wd.inK G h2) (by rw [hb]; exact B) ((hB x h4).trans h3) h
theorem keep_looks {M : Model} {f : Value} (k : KeepOk C f) (h : Heap) (wd : Wd C h) : ∃ k, (k = Keeper.frame ∨ k = Keeper.machine ∨ k = Keeper.boundFrame) ∧ Looks M h (keeperOf f) k := by
  rcases k with ⟨id, rfl⟩ | ⟨T, rfl⟩ | k
  · exact ⟨.machine, .inr (.inl rfl), Looks.of_pure rfl⟩
  · exact ⟨.machine, .inr (.inl rfl), Looks.of_pure rfl⟩
  · exact keeps_K k h wd.inK
theorem evalArgs_all {f : Value} {args : List (Bool × Sem Value)} {A : Around} {s : Shared} {Q : Args → Shared → Prop} {E} (hp : args.any (·.1) = false)
    (h : wpAny (model C.prog C.w) A (spliced args) (fun vs s' => Q ⟨vs, []⟩ s') E s) : wpAny (model C.prog C.w) A (evalArgs f true args []) Q E s := by
  cases args with
  | nil =>
    unfold evalArgs
    show wpAny _ A (spliced [] >>= _) Q E s
    refine wpAny_bind (wpAny_mono h (fun vs s' h' => ?_) fun _ _ x => x)
    refine wpAny_holding ?_
    exact wpAny_bind (wpAny_pure (wpAny_bind (wpAny_pure (wpAny_pure h'))))
  | cons p r =>
    obtain ⟨b, t⟩ := p
    simp only [List.any_cons, Bool.or_eq_false_iff] at hp
    obtain ⟨rfl, _⟩ := hp
    exact evalArgs_plain h
theorem EvX.call (ok : FmOk C n F) {x : Str} {f : Value} {args : List Expr} {p pos : Pos} {Wa : WXs} {T : List V → (V → Prop) → Prop} {m : Nat} (g : GN C x f) (hx : F.env.kindOf x = some .globalImplicit) (hk : KeepOk C f)
    (ha : EvXs C F args Wa) (hT : PC C m f T) (hm : m ≤ n) : EvX C F (.Call (.Name x p) args [] pos) (fun st P => Wa st fun vs => T vs P) := by
  intro ad st s P Q E hW R k
  show wpAny _ F.A (eval (.Name x p) F.env >>= fun f => callWith pos f [] (backTo pos (starEach args F.env)) (backToKw pos [])) Q E s
  refine wpAny_bind (name_gn ok.kind ok.globals ok.builtins hx (R.wd ok) g ?_)
  refine callWith_of (P := Wd C) (by rw [ha.1 pos]; rfl) (fun h w => keep_looks hk h w) (evalArgs_all (ha.1 pos) ?_)
  refine ha.2 pos ad st s _ _ _ hW R fun ws vs h₁ t₁ hT' g₁ r₁ => ?_
  have R' := R.grow ok g₁ (tk := t₁)
  refine ⟨R'.wd ok, ?_⟩
  refine hT F.A (F.U ad) _ vs ws P Q E (ok.a.le hm) (R'.wd ok) R'.tb R'.U_alive R.UG r₁ hT' fun w v h' tk hp g' hv => ?_
  exact k w v h' tk hp (g₁.trans g') hv
noncomputable def lenT : List V → (V → Prop) → Prop
  | [.ints l], P => l.length < 2 ^ 62 ∧ P (.int l.length)
  | [.list l], P => l.length < 2 ^ 62 ∧ P (.int l.length)
  | _, _ => False
theorem pc_len : PC C 0 (.builtin "len") lenT := by
  intro A U s vs ws P Q E hA wd tb al gU r hT k
  unfold lenT at hT
  split at hT
  · simp only [VRs, VR] at r
    obtain ⟨w, ws', rfl, ⟨a, its, rfl, ha, hp, hi⟩, rfl⟩ := r
    refine len_list hp.isList ?_ ?_
    · have := hi.length; simp; (clear hA wd tb al gU k ha hp hi; lia)
    · have e : (its.toArray.size : Int) = (‹List Int›).length := by have := hi.length; simp [this]
      rw [e]; exact k _ _ s.heap _ hT.2 (.refl ..) (by simp [VR])
  · simp only [VRs, VR] at r
    obtain ⟨w, ws', rfl, ⟨a, its, rfl, ha, hp, hi⟩, rfl⟩ := r
    refine len_list hp.isList ?_ ?_
    · have := hi.length; simp; (clear hA wd tb al gU k ha hp hi; lia)
    · have e : (its.toArray.size : Int) = (‹List V›).length := by have := hi.length; simp [this]
      rw [e]; exact k _ _ s.heap _ hT.2 (.refl ..) (by simp [VR])
  · exact hT.elim
noncomputable def divmodT : List V → (V → Prop) → Prop
  | [.int a, .int b], P => b ≠ 0 ∧ Builtin.divisionGoesByPylong a b = false ∧ P (.tup [.int (a.fdiv b), .int (a.fmod b)])
  | _, _ => False
theorem pc_divmod : PC C 0 (.builtin "divmod") divmodT := by
  intro A U s vs ws P Q E hA wd tb al gU r hT k
  unfold divmodT at hT
  split at hT
  · simp only [VRs, VR] at r
    obtain ⟨w, ws', rfl, ⟨t, rfl⟩, w2, ws2, rfl, ⟨u, rfl⟩, rfl⟩ := r
    refine divmod_int hT.1 ?_ (.inl hT.2.1)
    refine k _ _ _ _ hT.2.2 (.push ..) ?_
    simp only [VR, VRs]
    exact ⟨_, [_, _], rfl, size_notin al, ⟨0, Heap.get?_push_size _ rfl⟩, _, _, rfl, ⟨_, rfl⟩, _, _, rfl, ⟨_, rfl⟩, rfl⟩
  · exact hT.elim
theorem EvX.bitLength {o : Expr} {apos pos : Pos} {W1 : WX} {pl : Sem Bool} (h1 : EvX C F o W1)
    (he : eval (.Call (.Attribute o (Str.ofString "bit_length") apos) [] [] pos) F.env = (do
      let ov ← eval o F.env
      standAt apos.atName
      let (f, first) ← holding [ov] (getMethod ov (Str.ofString "bit_length") pl)
      callWith pos f first (backTo pos (starEach [] F.env)) [])) :
    EvX C F (.Call (.Attribute o (Str.ofString "bit_length") apos) [] [] pos) (fun st P => W1 st fun v => match v with | .int a => P (.int (Builtin.Int.intBits a)) | _ => False) := by
  intro ad st s P Q E hW R k
  refine MethodCall_ (pl := pl) (h1 ad st s _ _ _ hW R fun w v h₁ t₁ hb g₁ r₁ => ?_) he
  split at hb
  · simp only [VR] at r₁; obtain ⟨t, rfl⟩ := r₁
    exact getMethod_int_bit_length (callWith_method0 (call_int_bit_length (k _ _ h₁ _ hb g₁ (by simp [VR]))))
  · exact hb.elim
noncomputable def allInts : List V → Option (List Int)
  | [] => some []
  | .int i :: r => (allInts r).map (i :: ·)
  | _ :: _ => none
noncomputable def listV (vs : List V) : V := match allInts vs with | some ns => .ints ns | none => .list vs
theorem allInts_eq : ∀ {vs : List V} {ns : List Int}, allInts vs = some ns → vs = ns.map V.int
  | [], ns, h => by simp only [allInts, Option.some.injEq] at h; subst h; rfl
  | v :: vs, ns, h => by
    cases v with
    | int i =>
      simp only [allInts, Option.map_eq_some_iff] at h
      obtain ⟨l, h1, rfl⟩ := h
      rw [allInts_eq h1]; rfl
    | _ => simp [allInts] at h
theorem VR.listV {U : List Addr} {h : Heap} {vs : List V} {w : Value} (x : VR U h (.list vs) w) : VR U h (listV vs) w := by
  unfold Mine.listV
  cases q : allInts vs with
  | none => exact x
  | some ns => rw [allInts_eq q] at x; exact VR.ints_iff.mpr x
theorem EvF.lst (ok : FmOk C n F) {es : List Expr} {pos : Pos} {Wa : WXs} (ha : EvXs C F es Wa) : EvF C F (.List es pos) (fun st P => Wa st fun vs => vs.length ≤ 2 ^ 24 ∧ P (listV vs)) := by
  intro ad st s P Q E hW R k
  refine List_ (ha.2 pos ad st s _ _ _ hW R fun ws vs h₁ t₁ hp g₁ r₁ => ?_)
  have R' := R.grow ok g₁ (tk := t₁)
  refine wpAny_newList (k _ _ _ _ hp.2 (g₁.trans (.push ..)) (VR.listV ?_) ((new_push (U := F.U ad) rfl ⟨_, _, rfl⟩ (fun _ _ => trivial) R'.tb).old g₁)) (by rw [r₁.length]; exact hp.1)
  simp only [VR]
  exact ⟨_, ws, rfl, size_notin R'.U_alive, ⟨0, Heap.get?_push_size _ rfl⟩, VRs.gr r₁ R.UG (.push ..)⟩
theorem EvF.tup (ok : FmOk C n F) {es : List Expr} {k : Nat} {pos : Pos} {Wa : WXs} (ha : EvXs C F es Wa) : EvF C F (.Tuple es k pos) (fun st P => Wa st fun vs => vs.length ≤ 2 ^ 24 ∧ P (.tup vs)) := by
  intro ad st s P Q E hW R k
  refine Tuple_ (ha.2 pos ad st s _ _ _ hW R fun ws vs h₁ t₁ hp g₁ r₁ => ?_)
  have R' := R.grow ok g₁ (tk := t₁)
  refine wpAny_newTuple (k _ _ _ _ hp.2 (g₁.trans (.push ..)) ?_ ((new_push (U := F.U ad) rfl ⟨_, _, rfl⟩ (fun _ _ => trivial) R'.tb).old g₁)) (by rw [r₁.length]; exact hp.1)
  simp only [VR]
  exact ⟨_, ws, rfl, size_notin R'.U_alive, ⟨0, Heap.get?_push_size _ rfl⟩, VRs.gr r₁ R.UG (.push ..)⟩
end
end Mine
end
section
open PySem PySem.Calls PyProof.Rows PySem.W PySem.Spec PySem.SeqAt
set_option Elab.async false
set_option maxRecDepth 10000
namespace Mine
section
variable {C : Cx} {F : Fm} {e : Expr} {W : WX} {n : Nat}
noncomputable def subV : V → V → (V → Prop) → Prop
  | .ints l, .int i, P => 0 ≤ i ∧ i.toNat < l.length ∧ i < 2 ^ 62 ∧ P (.int (l.getD i.toNat 0))
  | .list l, .int i, P => 0 ≤ i ∧ i < 2 ^ 62 ∧ ∃ v, l[i.toNat]? = some v ∧ P v
  | .tup l, .int i, P => 0 ≤ i ∧ i < 2 ^ 62 ∧ ∃ v, l[i.toNat]? = some v ∧ P v
  | _, _, _ => False
noncomputable def notSlice : Expr → Bool
  | .Slice .. => false
  | _ => true
theorem subscripted_plain {slice : Expr} {o i : Value} (h : notSlice slice = true) : subscripted slice false o i = operate [o, i] (getItem o i) := by
  cases slice <;> first | rfl | exact (Bool.false_ne_true h).elim
section
variable {A : Around} {E : Value → Shared → Prop} {s : Shared} {Q : Value → Shared → Prop} {U : List Addr}
theorem ints_at {vs : List Value} {ns : List Int} (h : IntsAre vs ns) {i : Nat} (hi : i < ns.length) : ∃ t, vs[i]? = some (.int (ns.getD i 0) t) := by
  have e : ns[i]? = some ns[i] := by simp [hi]
  obtain ⟨t, ht⟩ := h.get i ns[i] e
  refine ⟨t, ?_⟩
  rw [List.getD_eq_getElem?_getD, e]; exact ht
theorem sub_sound {value slice : Expr} {a b : V} {P : V → Prop} {wa wb : Value} (hs : notSlice slice = true) (hb : subV a b P) (ra : VR U s.heap a wa) (rb : VR U s.heap b wb)
    (k : ∀ w v, P v → VR U s.heap v w → Q w s) :
    wpAny (model C.prog C.w) A (subscriptTail value slice wa wb) Q E s := by
  unfold subV at hb
  split at hb
  · simp only [VR] at ra rb
    obtain ⟨x, ws, rfl, hx, hp, hi⟩ := ra
    obtain ⟨t, rfl⟩ := rb
    obtain ⟨h0, h1, h2, h3⟩ := hb
    obtain ⟨u, hu⟩ := ints_at hi h1
    exact tail_any hp.isList.typeIs slot_list_getitem.lookup (wpAny_getItem_list hp.isList h0 (by (clear hs k hx hp hi h1 h3 hu; lia)) (by simpa using hu) (k _ _ h3 (by simp [VR]))) (subscripted_plain hs)
  · simp only [VR] at ra rb
    obtain ⟨x, ws, rfl, hx, hp, hi⟩ := ra
    obtain ⟨t, rfl⟩ := rb
    obtain ⟨h0, h2, v, hv, h3⟩ := hb
    obtain ⟨w, hw, hr⟩ := hi.get hv
    exact tail_any hp.isList.typeIs slot_list_getitem.lookup (wpAny_getItem_list hp.isList h0 (by (clear hs k hx hp hi hv h3 hw hr; lia)) (by simpa using hw) (k _ _ h3 hr)) (subscripted_plain hs)
  · simp only [VR] at ra rb
    obtain ⟨x, ws, rfl, hx, hp, hi⟩ := ra
    obtain ⟨t, rfl⟩ := rb
    obtain ⟨h0, h2, v, hv, h3⟩ := hb
    obtain ⟨w, hw, hr⟩ := hi.get hv
    have hlt : (‹Int› : Int).toNat < ws.length := (List.getElem?_eq_some_iff.mp hw).1
    refine item_tupleT hp.isTup (by (clear hs k hx hp hi hv h3 hw hr hlt; lia)) (by (clear hs k hx hp hi hv h3 hw hr hlt; omega)) (j := (‹Int› : Int).toNat) ?_ hw (k _ _ h3 hr) (subscripted_plain hs)
    unfold seqIndex?
    have e1 : ¬ (‹Int› : Int) < 0 := by (clear hs k hx hp hi hv h3 hw hr hlt; lia)
    simp only [e1, if_false]
    rw [if_pos]
    simp only [Bool.and_eq_true, decide_eq_true_eq]
    (clear hs k hx hp hi hv h3 hw hr e1; lia)
  · exact hb.elim
end
theorem EvX.sub (ok : FmOk C n F) {value slice : Expr} {pos : Pos} {W1 W2 : WX} (h1 : EvX C F value W1) (h2 : EvX C F slice W2) (hs : notSlice slice = true) :
    EvX C F (.Subscript value slice pos) (fun st P => W1 st fun a => W2 st fun b => subV a b P) := by
  intro ad st s P Q E hW R k
  refine Subscript_ (h1 ad st s _ _ _ hW R fun wa a h₁ t₁ hW2 g₁ r₁ => ?_)
  refine h2 ad st _ _ _ _ hW2 (R.grow ok g₁) fun wb b h₂ t₂ hb g₂ r₂ => ?_
  exact sub_sound hs hb (r₁.gr R.UG g₂) r₂ fun w v hp hv => k w v h₂ t₂ hp (g₁.trans g₂) hv
theorem Rep.mints {ad : Ad} {st : List V} {s : Shared} (R : Rep C F ad st s) {i : Nat} {x : Str} (hi : F.names[i]? = some x) {l : List Int} (hv : getV st i = .mints l) :
    ∃ a ws, (i, a) ∈ ad.m ∧ Rd F.env s.heap x (.ref a) ∧ s.heap.PlainList a ws.toArray ∧ IntsAre ws l := by
  cases q : st[i]? with
  | none => simp [getV, q] at hv
  | some v => have e : v = .mints l := by simpa [getV, q] using hv
              subst e; exact R.vars i x _ hi q
theorem Rep.mlist {ad : Ad} {st : List V} {s : Shared} (R : Rep C F ad st s) {i : Nat} {x : Str} (hi : F.names[i]? = some x) {l : List V} (hv : getV st i = .mlist l) :
    ∃ a ws, (i, a) ∈ ad.m ∧ Rd F.env s.heap x (.ref a) ∧ s.heap.PlainList a ws.toArray ∧ VRs (F.U ad) s.heap l ws := by
  cases q : st[i]? with
  | none => simp [getV, q] at hv
  | some v => have e : v = .mlist l := by simpa [getV, q] using hv
              subst e; exact R.vars i x _ hi q
theorem EvX.lenM (ok : FmOk C n F) {x f : Str} {p q pos : Pos} (i : Nat) (hi : F.names[i]? = some x) (g : GN C f (.builtin "len")) (hx : F.env.kindOf f = some .globalImplicit) :
    EvX C F (.Call (.Name f q) [.Name x p] [] pos) (fun st P => match getV st i with | .mints l => l.length < 2 ^ 62 ∧ P (.int l.length) | .mlist l => l.length < 2 ^ 62 ∧ P (.int l.length) | _ => False) := by
  intro ad st s P Q E hW R k
  have hx' := ok.names x (List.mem_of_getElem? hi)
  show wpAny _ F.A (eval (.Name f q) F.env >>= fun f => callWith pos f [] (backTo pos (starEach [.Name x p] F.env)) (backToKw pos [])) Q E s
  refine wpAny_bind (name_gn ok.kind ok.globals ok.builtins hx (R.wd ok) g ?_)
  cases hv : getV st i with
  | mints l =>
    rw [hv] at hW
    obtain ⟨a, ws, e1, e2, e3, e4⟩ := R.mints hi hv
    refine PyProof.Rows.callWith_builtin1 (args_cons (wpAny_Name (wp_load_rd ok.kind hx' e2 (args_nil ?_)) (okName_debug hx')))
    refine len_list e3.isList ?_ ?_
    · have := e4.length; simp; (clear ok hi g hx R k hx' hv e1 e2 e3 e4; lia)
    · have e : (ws.toArray.size : Int) = l.length := by have := e4.length; simp [this]
      rw [e]; exact k _ _ s.heap _ hW.2 (.refl ..) (by simp [VR])
  | mlist l =>
    rw [hv] at hW
    obtain ⟨a, ws, e1, e2, e3, e4⟩ := R.mlist hi hv
    refine PyProof.Rows.callWith_builtin1 (args_cons (wpAny_Name (wp_load_rd ok.kind hx' e2 (args_nil ?_)) (okName_debug hx')))
    refine len_list e3.isList ?_ ?_
    · have := e4.length; simp; (clear ok hi g hx R k hx' hv e1 e2 e3 e4; lia)
    · have e : (ws.toArray.size : Int) = l.length := by have := e4.length; simp [this]
      rw [e]; exact k _ _ s.heap _ hW.2 (.refl ..) (by simp [VR])
  | _ => rw [hv] at hW; exact hW.elim
noncomputable def cutL {α : Type} (xs : List α) (lo hi st : Option Int) : List α :=
  (sliceRange (sliceBounds lo hi st xs.length).1 (sliceBounds lo hi st xs.length).2.1 (sliceBounds lo hi st xs.length).2.2).filterMap (xs[·]?)
theorem slicePick_cut (ws : List Value) (lo hi st : Option Int) : slicePick ws.toArray lo hi st = (cutL ws lo hi st).toArray := by
  unfold slicePick cutL; simp
theorem IntsAre.picks {vs : List Value} {ns : List Int} (h : IntsAre vs ns) (idx : List Nat) : IntsAre (idx.filterMap (vs[·]?)) (idx.filterMap (ns[·]?)) := by
  induction idx with
  | nil => exact .nil
  | cons i r ih =>
    rw [List.filterMap_cons, List.filterMap_cons]
    cases hn : ns[i]? with
    | none =>
      have : vs[i]? = none := by
        have hl := h.length
        rw [List.getElem?_eq_none_iff] at hn ⊢; (clear h ih; lia)
      rw [this]; exact ih
    | some m =>
      obtain ⟨t, ht⟩ := h.get i m hn
      rw [ht]; exact .cons _ _ ih
theorem VRs.picks {U : List Addr} {h : Heap} {ws : List Value} {vs : List V} (x : VRs U h vs ws) (idx : List Nat) : VRs U h (idx.filterMap (vs[·]?)) (idx.filterMap (ws[·]?)) := by
  induction idx with
  | nil => simp [VRs]
  | cons i r ih =>
    rw [List.filterMap_cons, List.filterMap_cons]
    cases hn : vs[i]? with
    | none =>
      have : ws[i]? = none := by
        have hl := x.length
        rw [List.getElem?_eq_none_iff] at hn ⊢; (clear x ih; lia)
      rw [this]; exact ih
    | some m =>
      obtain ⟨t, ht, hr⟩ := x.get hn
      rw [ht]; simp only [VRs]; exact ⟨t, _, rfl, hr, ih⟩
theorem IntsAre.cut {vs : List Value} {ns : List Int} (h : IntsAre vs ns) (lo hi st : Option Int) : IntsAre (cutL vs lo hi st) (cutL ns lo hi st) := by
  unfold cutL; rw [h.length]; exact IntsAre.picks h _
theorem VRs.cut {U : List Addr} {h : Heap} {ws : List Value} {vs : List V} (x : VRs U h vs ws) (lo hi st : Option Int) : VRs U h (cutL vs lo hi st) (cutL ws lo hi st) := by
  unfold cutL; rw [x.length]; exact x.picks _
noncomputable abbrev WP := List V → (Option Int → Prop) → Prop
noncomputable def EvP (C : Cx) (F : Fm) (e : Option Expr) (W : WP) : Prop :=
  ∀ (ad : Ad) (st : List V) (s : Shared) (P : Option Int → Prop) (Q : Value → Shared → Prop) (E : Value → Shared → Prop), W st P → Rep C F ad st s →
    (∀ w o h' tk, P o → Gr C s.heap h' → IsPart w o → Q w { s with heap := h', toks := tk }) → wpAny (model C.prog C.w) F.A (evalPart e F.env) Q E s
theorem EvP.none : EvP C F Option.none (fun _ P => P Option.none) := by
  intro ad st s P Q E hP R k
  rw [evalPart_none]; exact wpAny_pure (k _ _ s.heap s.toks hP (.refl ..) .none)
noncomputable def intPart (v : V) (P : Option Int → Prop) : Prop := match v with | .int i => P (some i) | _ => False
theorem EvP.some {e : Expr} {W1 : WX} (h1 : EvX C F e W1) : EvP C F (Option.some e) (fun st P => W1 st fun v => intPart v P) := by
  intro ad st s P Q E hW R k
  rw [evalPart_some]
  refine h1 ad st s _ _ _ hW R fun w v h₁ t₁ hb g₁ r₁ => ?_
  cases v with
  | int i => simp only [VR] at r₁; obtain ⟨t, rfl⟩ := r₁; exact k _ _ h₁ t₁ hb g₁ (.int i t)
  | _ => exact hb.elim
noncomputable def cutV (a : V) (lo hi st : Option Int) (P : V → Prop) : Prop := match a with
  | .ints l => l.length ≤ 2 ^ 24 ∧ st ≠ some 0 ∧ P (.ints (cutL l lo hi st))
  | .list l => l.length ≤ 2 ^ 24 ∧ st ≠ some 0 ∧ P (.list (cutL l lo hi st))
  | _ => False
theorem EvF.cut (ok : FmOk C n F) {value : Expr} {lo hi sp : Option Expr} {p pos : Pos} {W1 : WX} {W2 W3 W4 : WP} (h1 : EvX C F value W1) (h2 : EvP C F lo W2) (h3 : EvP C F hi W3) (h4 : EvP C F sp W4) :
    EvF C F (.Subscript value (.Slice lo hi sp p) pos) (fun st P => W1 st fun a => W2 st fun l => W3 st fun u => W4 st fun c => cutV a l u c P) := by
  intro ad st s P Q E hW R k
  refine Subscript_ (h1 ad st s _ _ _ hW R fun wa a h₁ t₁ hW2 g₁ r₁ => ?_)
  have R1 := R.grow ok g₁ (tk := t₁)
  refine wpAny_Slice (h2 ad st _ _ _ _ hW2 R1 fun wl l h₂ t₂ hW3 g₂ p₂ => ?_)
  have R2 := R1.grow ok g₂ (tk := t₂)
  refine h3 ad st _ _ _ _ hW3 R2 fun wu u h₃ t₃ hW4 g₃ p₃ => ?_
  have R3 := R2.grow ok g₃ (tk := t₃)
  refine h4 ad st _ _ _ _ hW4 R3 fun wc c h₄ t₄ hb g₄ p₄ => ?_
  have R4 := R3.grow ok g₄ (tk := t₄)
  have g14 := (g₂.trans g₃).trans g₄
  have g5 : Gr C h₄ (h₄.push { cls := .type "slice", data := .fields #[wl, wu, wc] }) := .push ..
  have R5 := R4.grow ok g5 (tk := t₄)
  have gall := ((g₁.trans g14).trans g5)
  have r5 := (r₁.gr R.UG g14).gr R.UG g5
  have hsub : ∀ o i : Value, ∃ ops, subscripted (.Slice lo hi sp p) false o i = operate ops (getItem o i) := by
    intro o i; cases sp with
    | none => exact ⟨[i, o], rfl⟩
    | some _ => exact ⟨[o, i], rfl⟩
  have main : ∀ (x : Addr) (ws : List Value) (v : V), wa = .ref x → (h₄.push { cls := .type "slice", data := .fields #[wl, wu, wc] }).PlainList x ws.toArray → ws.length ≤ 2 ^ 24 → c ≠ some 0 → P v →
      (∀ h' : Heap, Gr C (h₄.push { cls := .type "slice", data := .fields #[wl, wu, wc] }) h' → VR (F.U ad) h' v (.ref (h₄.push { cls := .type "slice", data := .fields #[wl, wu, wc] }).objs.size) ∨ ¬ h'.PlainList (h₄.push { cls := .type "slice", data := .fields #[wl, wu, wc] }).objs.size (cutL ws l u c).toArray) →
      wpAny (model C.prog C.w) F.A (subscriptTail value (.Slice lo hi sp p) wa (.ref h₄.objs.size)) Q E { s with heap := h₄.push { cls := .type "slice", data := .fields #[wl, wu, wc] }, toks := t₄ } := by
    intro x ws v ew hpl hlen hc hP hv
    subst ew
    obtain ⟨ops, ho⟩ := hsub (.ref x) (.ref h₄.objs.size)
    refine tail_any (s := { s with heap := h₄.push { cls := .type "slice", data := .fields #[wl, wu, wc] }, toks := t₄ }) hpl.isList.typeIs slot_list_getitem.lookup ?_ ho
    refine wpAny_getItem_list_slice hpl.isList (Heap.IsSliceOf.new ..) p₂ p₃ p₄ hc ?_ (by simpa [sizeLine] using hlen)
    rw [slicePick_cut]
    refine k _ v _ _ hP (gall.trans (.push ..)) ?_ ((new_push (U := F.U ad) rfl ⟨_, _, rfl⟩ (fun _ _ => trivial) R5.tb).old gall)
    rcases hv _ (.push ..) with q | q
    · exact q
    · exact absurd ⟨0, Heap.get?_push_size _ rfl⟩ q
  cases a <;> first | exact hb.elim | skip
  · rename_i xs
    simp only [VR] at r5
    obtain ⟨x, ws, ew, hx, hp, hi⟩ := r5
    refine main x ws _ ew hp (by rw [hi.length]; exact hb.1) hb.2.1 hb.2.2 fun h' g' => ?_
    by_cases q : h'.PlainList (h₄.push { cls := .type "slice", data := .fields #[wl, wu, wc] }).objs.size (cutL ws l u c).toArray
    · left; simp only [VR]; exact ⟨_, _, rfl, size_notin R5.U_alive, q, IntsAre.cut hi _ _ _⟩
    · exact .inr q
  · rename_i xs
    simp only [VR] at r5
    obtain ⟨x, ws, ew, hx, hp, hi⟩ := r5
    refine main x ws _ ew hp (by rw [hi.length]; exact hb.1) hb.2.1 hb.2.2 fun h' g' => ?_
    by_cases q : h'.PlainList (h₄.push { cls := .type "slice", data := .fields #[wl, wu, wc] }).objs.size (cutL ws l u c).toArray
    · left; simp only [VR]; exact ⟨_, _, rfl, size_notin R5.U_alive, q, VRs.cut (hi.gr R.UG g') _ _ _⟩
    · exact .inr q
end
end Mine
end
section
open PySem PySem.Calls PyProof.Rows PySem.W PySem.Spec PySem.SeqAt
set_option Elab.async false
set_option maxRecDepth 10000
namespace Mine
theorem Ns.unique {h : Heap} {a : Addr} {m m' : Str → Option Value} (x : h.Ns a m) (y : h.Ns a m') : m = m' := by
  obtain ⟨o, es, ep, e, d, _, f⟩ := x
  obtain ⟨o', es', ep', e', d', _, f'⟩ := y
  rw [e] at e'; injection e' with e'; subst e'
  rw [d] at d'; injection d' with d1 d2; subst d1
  funext n; rw [← f n, ← f' n]
theorem snd_unique {l : List (Str × Addr)} (h : (l.map (·.2)).Nodup) {x y : Str} {c : Addr} (hx : (x, c) ∈ l) (hy : (y, c) ∈ l) : x = y := by
  induction l with
  | nil => cases hx
  | cons p r ih =>
    simp only [List.map_cons, List.nodup_cons] at h
    rcases List.mem_cons.mp hx with e1 | e1 <;> rcases List.mem_cons.mp hy with e2 | e2
    · rw [← e1] at e2; injection e2 with e2 _; exact e2.symm
    · exfalso; apply h.1; rw [← e1]; exact List.mem_map.mpr ⟨(y, c), e2, rfl⟩
    · exfalso; apply h.1; rw [← e2]; exact List.mem_map.mpr ⟨(x, c), e1, rfl⟩
    · exact ih h.2 e1 e2
theorem names_unique {l : List Str} (h : l.Nodup) : ∀ {i j : Nat} {x : Str}, l[i]? = some x → l[j]? = some x → i = j := by
  induction l with
  | nil => intro i j x hi; simp at hi
  | cons y r ih =>
    rw [List.nodup_cons] at h
    intro i j x hi hj
    cases i with
    | zero =>
      cases j with
      | zero => rfl
      | succ j =>
        simp at hi hj; subst hi
        exact absurd (List.mem_of_getElem? hj) h.1
    | succ i =>
      cases j with
      | zero =>
        simp at hi hj; subst hj
        exact absurd (List.mem_of_getElem? hi) h.1
      | succ j => simp at hi hj; rw [ih h.2 hi hj]
noncomputable def dropI (ad : Ad) (i : Nat) : Ad := ⟨ad.m.filter (fun p => p.1 != i), ad.ux⟩
theorem mem_dropI {ad : Ad} {i : Nat} {p : Nat × Addr} : p ∈ (dropI ad i).m ↔ p ∈ ad.m ∧ p.1 ≠ i := by simp [dropI]
section
variable {C : Cx} {F : Fm} {n : Nat} {ad : Ad} {st : List V} {s : Shared}
theorem own_drop {i : Nat} : ∀ a ∈ F.own (dropI ad i), a ∈ F.own ad := by
  intro a ha
  rcases List.mem_cons.mp ha with rfl | ha
  · exact List.mem_cons_self
  · rcases List.mem_append.mp ha with ha | ha
    · exact List.mem_cons_of_mem _ (List.mem_append_left _ ha)
    · obtain ⟨p, hp, rfl⟩ := List.mem_map.mp ha
      exact mem_own_ad (mem_dropI.mp hp).1
theorem U_drop {i : Nat} : ∀ a ∈ F.U (dropI ad i), a ∈ F.U ad := by
  intro a ha
  rcases List.mem_append.mp ha with ha | ha
  · exact List.mem_append_left _ (own_drop a ha)
  · exact List.mem_append_right _ ha
theorem own_sub {i : Nat} : (F.own (dropI ad i)).Sublist (F.own ad) := by
  unfold Fm.own dropI
  exact List.Sublist.cons_cons _ (List.Sublist.append (List.Sublist.refl _) (List.Sublist.map _ List.filter_sublist))
theorem Rep.unbind (R : Rep C F ad st s) (i : Nat) : Rep C F (dropI ad i) (st.set i .unb) s where
  stays := R.stays
  tb := R.tb
  ns := R.ns
  cells := R.cells
  ads := fun p hp => R.ads p (mem_dropI.mp hp).1
  gU := R.gU
  ec := R.ec
  fresh := fun a ha => R.fresh a (own_drop a ha)
  ux := R.ux
  apart := fun a ha => R.apart a (own_drop a ha)
  nd := R.nd.sublist own_sub
  vars := by
    intro j x v h1 h2
    by_cases hj : j = i
    · subst hj
      rw [List.getElem?_set_self'] at h2
      cases q : st[j]? with
      | none => rw [q] at h2; cases h2
      | some u => rw [q] at h2; simp at h2; subst h2; trivial
    · rw [List.getElem?_set_ne (Ne.symm hj)] at h2
      have r := R.vars j x v h1 h2
      cases v with
      | unb => trivial
      | mints l => obtain ⟨a, ws, e1, e2, e3, e4⟩ := r; exact ⟨a, ws, mem_dropI.mpr ⟨e1, hj⟩, e2, e3, e4⟩
      | mlist l => obtain ⟨a, ws, e1, e2, e3, e4⟩ := r; exact ⟨a, ws, mem_dropI.mpr ⟨e1, hj⟩, e2, e3, e4.weaken U_drop⟩
      | mit a l => obtain ⟨w, p, e1, e2, e3, e4⟩ := r; exact ⟨w, p, mem_dropI.mpr ⟨e1, hj⟩, e2, e3, e4.weaken U_drop⟩
      | _ => obtain ⟨w, e1, e2⟩ := r; exact ⟨w, e1, e2.weaken U_drop⟩
theorem Rep.bind (R : Rep C F ad st s) {i : Nat} {x : Str} (hi : F.names[i]? = some x) {v : V} (hv : VarOk F ad s.heap i x v) : Rep C F ad (st.set i v) s := by
  refine { R with vars := fun j y u h1 h2 => ?_ }
  by_cases hj : j = i
  · subst hj
    rw [hi] at h1; injection h1 with h1; subst h1
    rw [List.getElem?_set_self'] at h2
    cases q : st[j]? with
    | none => rw [q] at h2; cases h2
    | some u => rw [q] at h2; simp at h2; subst h2; exact hv
  · rw [List.getElem?_set_ne (Ne.symm hj)] at h2
    exact R.vars j y u h1 h2
noncomputable def StoreOk (F : Fm) (x : Str) : Prop := F.env.kindOf x = some .local ∨ (F.env.kindOf x = some .cell ∧ ∃ c ∈ F.cells, F.env.cells.lookup x = some c)
theorem Rep.globals_ne (R : Rep C F ad st s) (ok : FmOk C n F) {a : Addr} (ha : a ∈ F.own ad) : F.env.globals ≠ a := by
  intro e
  obtain ⟨mg, o, _, _, q, _⟩ := ok.wd.g
  rw [← ok.globals, e, R.fresh a ha] at q
  cases q
theorem Rep.change (R : Rep C F ad st s) (ok : FmOk C n F) {a : Addr} (ha : a ∈ F.own ad) {h' : Heap} {tk : Nat} (same : ∀ b, b ≠ a → ∀ o, s.heap.get? b = some o → h'.get? b = some o)
    (alive : h'.get? a ≠ none) (ns : ∃ m, h'.Ns F.env.locals m) (cells : ∀ c ∈ F.cells, ∃ v, h'.IsCell c v) (ads : ∀ p ∈ ad.m, OwnAt h' p.2) (ec : ∀ c ∈ F.env.cells.map (·.2), ∃ v, h'.IsCell c v)
    (vars : ∀ i x v, F.names[i]? = some x → st[i]? = some v → VarOk F ad h' i x v) : Rep C F ad st { s with heap := h', toks := tk } where
  stays := fun b o hb e => same b (fun q => by rw [q, R.fresh a ha] at e; cases e) o (R.stays b o hb e)
  tb := by
    refine C.but s.heap h' [a] R.tb (fun b hb => ⟨by rw [List.mem_singleton.mp hb]; exact R.ownG ok ha, ?_⟩) (fun b o hb e => same b (fun q => hb (List.mem_singleton.mpr q)) o e)
    rw [List.mem_singleton.mp hb]
    intro o' eo vs ed
    rcases List.mem_cons.mp ha with rfl | ha
    · obtain ⟨m, o, es, ep, e, d, _⟩ := R.ns; rw [e] at eo; injection eo with eo; subst eo; rw [d] at ed; cases ed
    · rcases List.mem_append.mp ha with ha | ha
      · obtain ⟨v, o, e, d⟩ := R.cells a ha; rw [e] at eo; injection eo with eo; subst eo; rw [d] at ed; cases ed
      · obtain ⟨p, hp, rfl⟩ := List.mem_map.mp ha
        obtain ⟨o, e, q⟩ := (R.ads p hp).obj; rw [e] at eo; injection eo with eo; subst eo
        rcases q with ⟨_, _, q, _⟩ | ⟨_, q, _⟩ <;> (rw [q]; simp)
  ns := ns
  cells := cells
  ads := ads
  gU := R.gU
  ec := ec
  fresh := R.fresh
  ux := fun u hu => by
    cases q : s.heap.get? u with
    | none => exact absurd q (R.ux u hu)
    | some o => show h'.get? u ≠ none; rw [same u (fun e => R.apart a ha (e ▸ hu)) o q]; simp
  apart := R.apart
  nd := R.nd
  vars := vars
theorem Rep.store0 (ok : FmOk C n F) (R : Rep C F ad st s) {i : Nat} {x : Str} {w : Value} (hi : F.names[i]? = some x) (hu : ∀ v, st[i]? = some v → v = .unb) (so : StoreOk F x) {A : Around} {Q : Unit → Shared → Prop} {E : Value → Shared → Prop}
    (k : ∀ h' tk, Rep C F ad st { s with heap := h', toks := tk } → Rd F.env h' x w → (∀ b o, b ∉ F.env.locals :: F.cells → s.heap.get? b = some o → h'.get? b = some o) → Q () { s with heap := h', toks := tk }) :
    wpAny (model C.prog C.w) A (storeName F.env x w) Q E s := by
  have nad : ∀ p ∈ ad.m, p.2 ≠ F.env.locals := fun p hp e => by
    have := R.nd
    unfold Fm.own at this
    rw [List.nodup_cons] at this
    exact this.1 (e ▸ List.mem_append_right _ (List.mem_map_of_mem hp))
  have ncl : ∀ c ∈ F.cells, c ≠ F.env.locals := fun c hc e => by
    have := R.nd
    unfold Fm.own at this
    rw [List.nodup_cons] at this
    exact this.1 (e ▸ List.mem_append_left _ hc)
  have nca : ∀ p ∈ ad.m, ∀ c ∈ F.cells, p.2 ≠ c := fun p hp c hc e => by
    have := R.nd
    unfold Fm.own at this
    rw [List.nodup_cons, List.nodup_append] at this
    exact this.2.2.2 c hc p.2 (List.mem_map_of_mem hp) e.symm
  rcases so with hl | ⟨hl, c, hc, hlk⟩
  · obtain ⟨m, hm⟩ := R.ns
    refine wpAny_storeName_local hl hm (fun h' hn hs => ?_) (by rw [ok.kind]; rfl)
    have same : ∀ b, b ≠ F.env.locals → ∀ o, s.heap.get? b = some o → h'.get? b = some o := fun b hb o e => (hs.2 b hb).trans e
    have hL : F.env.locals ∈ F.own ad := List.mem_cons_self
    refine k h' _ (R.change ok hL same (by obtain ⟨o, _, _, e, _⟩ := hn; rw [e]; simp) ⟨_, hn⟩ (fun c hc => ?_) (fun p hp => ?_) (fun c hc => (R.ec c hc).imp fun _ y => IsCell.at y fun o e => same c (fun q => ok.cl (q ▸ hc)) o e) (fun j y v h1 h2 => ?_)) ?_ (fun b o hb e => same b (fun q => hb (q ▸ List.mem_cons_self)) o e)
    · exact (R.cells c hc).imp fun _ y => IsCell.at y fun o e => same c (ncl c hc) o e
    · exact (R.ads p hp).at fun o => same _ (nad p hp) o
    · have r := R.vars j y v h1 h2
      by_cases hj : j = i
      · subst hj; rw [hu v h2]; trivial
      have hxy : y ≠ x := fun e => hj (names_unique ok.nodup (e ▸ h1) hi)
      have rd : ∀ w', Rd F.env s.heap y w' → Rd F.env h' y w' := by
        intro w' r
        unfold Rd at r ⊢
        split at r
        · obtain ⟨m', a, b⟩ := r
          rw [Ns.unique a hm] at b
          exact ⟨_, hn, by simp only [if_neg hxy]; exact b⟩
        · obtain ⟨c, a, ⟨o, e, d⟩⟩ := r; exact ⟨c, a, o, same c (fun q => ok.cl (q ▸ List.mem_map_of_mem (lookup_mem a))) o e, d⟩
        · obtain ⟨c, a, ⟨o, e, d⟩⟩ := r; exact ⟨c, a, o, same c (fun q => ok.cl (q ▸ List.mem_map_of_mem (lookup_mem a))) o e, d⟩
        · exact r.imp fun _ y => y.imp (fun z => z.at fun o e => same _ (R.globals_ne ok hL) o e) id
        · exact r.elim
      have vr : ∀ v w', VR (F.U ad) s.heap v w' → VR (F.U ad) h' v w' := fun v w' q => VR.mono (fun b o hb e => same b (fun z => hb (List.mem_append_left _ (z ▸ hL))) o e) (fun _ hb => .inl hb) v w' q
      have vrs : ∀ v w', VRs (F.U ad) s.heap v w' → VRs (F.U ad) h' v w' := fun v w' q => VRs.mono (fun b o hb e => same b (fun z => hb (List.mem_append_left _ (z ▸ hL))) o e) (fun _ hb => .inl hb) v w' q
      cases v with
      | unb => trivial
      | mints l => obtain ⟨a, ws, e1, e2, e3, e4⟩ := r; exact ⟨a, ws, e1, rd _ e2, e3.at fun o => same _ (nad _ e1) o, e4⟩
      | mlist l => obtain ⟨a, ws, e1, e2, e3, e4⟩ := r; exact ⟨a, ws, e1, rd _ e2, e3.at fun o => same _ (nad _ e1) o, vrs _ _ e4⟩
      | mit a l => obtain ⟨w, p, e1, e2, e3, e4⟩ := r; exact ⟨w, p, e1, rd _ e2, e3.at fun o => same _ (nad _ e1) o, e4.imp id fun ⟨full, x, y⟩ => ⟨full, vr _ _ x, y⟩⟩
      | _ => obtain ⟨w', e1, e2⟩ := r; exact ⟨w', rd _ e1, vr _ _ e2⟩
    · unfold Rd; rw [hl]; exact ⟨_, hn, by simp⟩
  · obtain ⟨v₀, hv₀⟩ := R.cells c hc
    refine wpAny_storeName_cell ok.kind hl hlk hv₀ fun h' hn hs => ?_
    have same : ∀ b, b ≠ c → ∀ o, s.heap.get? b = some o → h'.get? b = some o := fun b hb o e => (hs.2 b hb).trans e
    have hL : c ∈ F.own ad := List.mem_cons_of_mem _ (List.mem_append_left _ hc)
    refine k h' s.toks (R.change ok hL same (by obtain ⟨o, e, _⟩ := hn; rw [e]; simp) ?_ (fun c' hc' => ?_) (fun p hp => ?_) (fun c' hc' => ?_) (fun j y v h1 h2 => ?_)) ?_ (fun b o hb e => same b (fun q => hb (q ▸ List.mem_cons_of_mem _ hc)) o e)
    · obtain ⟨m, o, es, ep, e, d⟩ := R.ns; exact ⟨m, o, es, ep, same _ (Ne.symm (ncl c hc)) o e, d⟩
    · by_cases q : c' = c
      · subst q; exact ⟨_, hn⟩
      · exact (R.cells c' hc').imp fun _ y => IsCell.at y fun o e => same c' q o e
    · exact (R.ads p hp).at fun o => same _ (nca p hp c hc) o
    · by_cases q : c' = c
      · subst q; exact ⟨_, hn⟩
      · exact (R.ec c' hc').imp fun _ y => IsCell.at y fun o e => same c' q o e
    · have r := R.vars j y v h1 h2
      by_cases hj : j = i
      · subst hj; rw [hu v h2]; trivial
      have hxy : y ≠ x := fun e => hj (names_unique ok.nodup (e ▸ h1) hi)
      have other : ∀ c', F.env.cells.lookup y = some c' → c' ≠ c := fun c' a q => hxy (snd_unique ok.cn (q ▸ lookup_mem a) (lookup_mem hlk))
      have rd : ∀ w', Rd F.env s.heap y w' → Rd F.env h' y w' := by
        intro w' r
        unfold Rd at r ⊢
        split at r
        · exact r.imp fun _ y => y.imp (fun z => z.at fun o e => same _ (Ne.symm (ncl c hc)) o e) id
        · obtain ⟨c', a, ⟨o, e, d⟩⟩ := r; exact ⟨c', a, o, same c' (other c' a) o e, d⟩
        · obtain ⟨c', a, ⟨o, e, d⟩⟩ := r; exact ⟨c', a, o, same c' (other c' a) o e, d⟩
        · exact r.imp fun _ y => y.imp (fun z => z.at fun o e => same _ (R.globals_ne ok hL) o e) id
        · exact r.elim
      have vr : ∀ v w', VR (F.U ad) s.heap v w' → VR (F.U ad) h' v w' := fun v w' q => VR.mono (fun b o hb e => same b (fun z => hb (List.mem_append_left _ (z ▸ hL))) o e) (fun _ hb => .inl hb) v w' q
      have vrs : ∀ v w', VRs (F.U ad) s.heap v w' → VRs (F.U ad) h' v w' := fun v w' q => VRs.mono (fun b o hb e => same b (fun z => hb (List.mem_append_left _ (z ▸ hL))) o e) (fun _ hb => .inl hb) v w' q
      cases v with
      | unb => trivial
      | mints l => obtain ⟨a, ws, e1, e2, e3, e4⟩ := r; exact ⟨a, ws, e1, rd _ e2, e3.at fun o => same _ (nca _ e1 c hc) o, e4⟩
      | mlist l => obtain ⟨a, ws, e1, e2, e3, e4⟩ := r; exact ⟨a, ws, e1, rd _ e2, e3.at fun o => same _ (nca _ e1 c hc) o, vrs _ _ e4⟩
      | mit a l => obtain ⟨w, p, e1, e2, e3, e4⟩ := r; exact ⟨w, p, e1, rd _ e2, e3.at fun o => same _ (nca _ e1 c hc) o, e4.imp id fun ⟨full, x, y⟩ => ⟨full, vr _ _ x, y⟩⟩
      | _ => obtain ⟨w', e1, e2⟩ := r; exact ⟨w', rd _ e1, vr _ _ e2⟩
    · unfold Rd; rw [hl]; exact ⟨c, hlk, hn⟩
theorem lc_own : ∀ b ∈ F.env.locals :: F.cells, b ∈ F.own ad := by
  intro b hb
  rcases List.mem_cons.mp hb with e | hb
  · exact e ▸ List.mem_cons_self
  · exact List.mem_cons_of_mem _ (List.mem_append_left _ hb)
theorem VR.isplain {U : List Addr} {h : Heap} {v : V} {w : Value} (x : VR U h v w) : v.plain := by
  cases v <;> first | trivial | (simp only [VR] at x)
theorem VarOk.of {i : Nat} {x : Str} {v : V} {h : Heap} {w : Value} (r : Rd F.env h x w) (y : VR (F.U ad) h v w) : VarOk F ad h i x v := by
  have := y.isplain
  cases v <;> first | exact ⟨w, r, y⟩ | exact this.elim
theorem Rep.store (ok : FmOk C n F) (R : Rep C F ad st s) {i : Nat} {x : Str} {v : V} {w : Value} (hi : F.names[i]? = some x) (so : StoreOk F x) (hv : VR (F.U ad) s.heap v w) {A : Around} {Q : Unit → Shared → Prop} {E : Value → Shared → Prop}
    (k : ∀ h' tk, Rep C F (dropI ad i) (st.set i v) { s with heap := h', toks := tk } → (∀ b o, b ∉ F.own ad → s.heap.get? b = some o → h'.get? b = some o) → Q () { s with heap := h', toks := tk }) :
    wpAny (model C.prog C.w) A (storeName F.env x w) Q E s := by
  refine (R.unbind i).store0 ok hi (fun v h => ?_) so fun h' tk R' rd kp => ?_
  · rw [List.getElem?_set_self'] at h
    cases q : st[i]? with
    | none => rw [q] at h; cases h
    | some u => rw [q] at h; simp at h; exact h.symm
  · have kp' : ∀ b o, b ∉ F.own ad → s.heap.get? b = some o → h'.get? b = some o := fun b o hb => kp b o fun q => hb (lc_own b q)
    refine k h' tk ?_ kp'
    have := R'.bind hi (v := v) (VarOk.of rd (VR.mono (fun b o hb e => kp' b o (fun q => hb (List.mem_append_left _ q)) e) (fun b hb => .inl (U_drop b hb)) v w hv))
    rw [List.set_set] at this
    exact this
end
end Mine
end
section
open PySem PySem.Calls PyProof.Rows PySem.W PySem.Spec PySem.SeqAt
set_option Elab.async false
set_option maxRecDepth 10000
namespace Mine
inductive Out where
  | nxt
  | brk
  | cnt
  | ret (v : V)
noncomputable def FlowIs (U : List Addr) (h : Heap) : Out → Flow → Prop
  | .nxt, fl => fl = .next
  | .brk, fl => fl = .brk
  | .cnt, fl => fl = .cont
  | .ret v, fl => ∃ w, fl = .ret w ∧ VR U h v w
noncomputable abbrev WS := List V → (Out → List V → Prop) → Prop
structure Stp (C : Cx) (F : Fm) (ad : Ad) (h : Heap) (ad' : Ad) (h' : Heap) : Prop where
  kept : ∀ b o, b ∉ C.G → b ∉ F.own ad → h.get? b = some o → h'.get? b = some o
  own : ∀ a ∈ F.own ad', a ∈ F.own ad ∨ h.get? a = none
  ux : ad'.ux = ad.ux
theorem Stp.of {C : Cx} {F : Fm} {ad : Ad} {h h' : Heap} (g : Gr C h h') : Stp C F ad h ad h' := ⟨fun b o hb _ e => g.keep b o hb e, fun _ h => .inl h, rfl⟩
theorem Stp.trans {C : Cx} {F : Fm} {ad ad' ad'' : Ad} {h h' h'' : Heap} (x : Stp C F ad h ad' h') (y : Stp C F ad' h' ad'' h'') (hG : ∀ a ∈ F.own ad'', a ∉ C.G) : Stp C F ad h ad'' h'' where
  kept := fun b o hb hn e => y.kept b o hb (fun q => (x.own b q).elim hn fun z => by rw [z] at e; cases e) (x.kept b o hb hn e)
  own := fun a ha => by
    rcases y.own a ha with q | q
    · exact x.own a q
    · by_cases ho : a ∈ F.own ad
      · exact .inl ho
      · right
        cases z : h.get? a with
        | none => rfl
        | some o => rw [x.kept a o (hG a ha) ho z] at q; cases q
  ux := y.ux.trans x.ux
noncomputable abbrev Post (C : Cx) (F : Fm) (ad : Ad) (s : Shared) (P : Out → List V → Prop) (Q : Flow → Shared → Prop) : Prop :=
  ∀ o st' ad' h' tk fl, P o st' → Stp C F ad s.heap ad' h' → Rep C F ad' st' { s with heap := h', toks := tk } → FlowIs (F.U ad') h' o fl → Q fl { s with heap := h', toks := tk }
noncomputable def ExS (C : Cx) (F : Fm) (x : Stmt) (W : WS) : Prop :=
  ∀ (ad : Ad) (st : List V) (s : Shared) (P : Out → List V → Prop) (Q : Flow → Shared → Prop) (E : Value → Shared → Prop), W st P → Rep C F ad st s → Post C F ad s P Q →
    wpAny (model C.prog C.w) F.A (exec x F.env) Q E s
noncomputable def ExB (C : Cx) (F : Fm) (x : List Stmt) (W : WS) : Prop :=
  ∀ (ad : Ad) (st : List V) (s : Shared) (P : Out → List V → Prop) (Q : Flow → Shared → Prop) (E : Value → Shared → Prop), W st P → Rep C F ad st s → Post C F ad s P Q →
    wpAny (model C.prog C.w) F.A (execs x F.env) Q E s
section
variable {C : Cx} {F : Fm} {n : Nat}
theorem ExB.nil : ExB C F [] (fun st P => P .nxt st) := fun ad st s P Q E hP R k => wpAny_execs_nil (k .nxt st ad s.heap s.toks .next hP (.of (.refl ..)) R rfl)
noncomputable def seqP (W2 : WS) (P : Out → List V → Prop) : Out → List V → Prop
  | .nxt, st => W2 st P
  | o, st => P o st
theorem ExB.cons {x : Stmt} {xs : List Stmt} {W1 W2 : WS} (h1 : ExS C F x W1) (h2 : ExB C F xs W2) : ExB C F (x :: xs) (fun st P => W1 st (seqP W2 P)) := by
  intro ad st s P Q E hW R k
  refine wpAny_execs_cons (h1 ad st s _ _ _ hW R fun o st' ad' h' tk fl hp sp R' hf => ?_)
  cases o with
  | nxt => simp only [FlowIs] at hf; subst hf; exact h2 ad' st' _ P Q E hp R' fun o st'' ad'' h'' tk'' fl hp' sp' R'' hf' => k o st'' ad'' h'' tk'' fl hp' (sp.trans sp' fun a ha q => R''.apart a ha (R''.gU a q)) R'' hf'
  | brk => have hf' := hf; simp only [FlowIs] at hf'; subst hf'; exact k .brk st' ad' h' tk _ hp sp R' hf
  | cnt => have hf' := hf; simp only [FlowIs] at hf'; subst hf'; exact k .cnt st' ad' h' tk _ hp sp R' hf
  | ret v => have hf' := hf; simp only [FlowIs] at hf'; obtain ⟨w, rfl, hv⟩ := hf'; exact k (.ret v) st' ad' h' tk _ hp sp R' hf
noncomputable def V.frz : V → V
  | .mints l => .ints l
  | .mlist l => .list l
  | v => v
noncomputable def frz (i : Nat) (st : List V) : List V := st.set i (getV st i).frz
theorem set_getV {st : List V} {i : Nat} {v : V} (h : st[i]? = some v) : st.set i (getV st i) = st := by
  have e : getV st i = v := by simp [getV, h]
  rw [e]
  obtain ⟨hlt, he⟩ := List.getElem?_eq_some_iff.mp h
  rw [← he]; exact List.set_getElem_self hlt
theorem Rep.freeze {ad : Ad} {st : List V} {s : Shared} (R : Rep C F ad st s) (i : Nat) : ∃ ad', (∀ a ∈ F.own ad', a ∈ F.own ad) ∧ ad'.ux = ad.ux ∧ Rep C F ad' (frz i st) s := by
  unfold frz
  cases q : st[i]? with
  | none =>
    refine ⟨ad, fun _ h => h, rfl, ?_⟩
    have : st.set i (getV st i).frz = st := List.set_eq_of_length_le (by rw [List.getElem?_eq_none_iff] at q; omega)
    rw [this]; exact R
  | some v =>
    have e : getV st i = v := by simp [getV, q]
    cases hn : F.names[i]? with
    | none =>
      refine ⟨ad, fun _ h => h, rfl, { R with vars := fun j y u h1 h2 => ?_ }⟩
      by_cases hj : j = i
      · subst hj; rw [hn] at h1; cases h1
      · rw [List.getElem?_set_ne (Ne.symm hj)] at h2; exact R.vars j y u h1 h2
    | some x =>
      have r := R.vars i x v hn q
      have nu : ∀ a, (i, a) ∈ ad.m → a ∉ F.U (dropI ad i) := by
        intro a ha hm
        rcases List.mem_append.mp hm with hm | hm
        · have nd := R.nd
          unfold Fm.own at nd hm
          rw [List.nodup_cons, List.nodup_append] at nd
          have ham : a ∈ ad.m.map (·.2) := List.mem_map.mpr ⟨(i, a), ha, rfl⟩
          rcases List.mem_cons.mp hm with e | hm
          · exact nd.1 (e ▸ List.mem_append_right _ ham)
          · rcases List.mem_append.mp hm with hm | hm
            · exact nd.2.2.2 a hm a ham rfl
            · obtain ⟨p, hp, ep⟩ := List.mem_map.mp hm
              have hp' := mem_dropI.mp hp
              have nd2 := nd.2.2.1
              have : p = (i, a) := by
                obtain ⟨j, b⟩ := p
                simp only at ep; subst ep
                exact nodup_snd nd2 hp'.1 ha
              exact hp'.2 (by rw [this])
        · exact R.apart a (mem_own_ad ha) hm
      rw [e]
      cases v with
      | mints l =>
        obtain ⟨a, ws, e1, e2, e3, e4⟩ := r
        refine ⟨dropI ad i, own_drop, rfl, ?_⟩
        have := (R.unbind i).bind hn (v := .ints l) ⟨_, e2, by simp only [VR]; exact ⟨a, ws, rfl, nu a e1, e3, e4⟩⟩
        rw [List.set_set] at this; exact this
      | mlist l =>
        obtain ⟨a, ws, e1, e2, e3, e4⟩ := r
        refine ⟨dropI ad i, own_drop, rfl, ?_⟩
        have := (R.unbind i).bind hn (v := .list l) ⟨_, e2, by simp only [VR]; exact ⟨a, ws, rfl, nu a e1, e3, e4.weaken U_drop⟩⟩
        rw [List.set_set] at this; exact this
      | _ =>
        refine ⟨ad, fun _ h => h, rfl, ?_⟩
        have h := set_getV q
        rw [e] at h
        simp only [V.frz]
        rw [h]; exact R
where
  nodup_snd {l : List (Nat × Addr)} (h : (l.map (·.2)).Nodup) {i j : Nat} {c : Addr} (hx : (i, c) ∈ l) (hy : (j, c) ∈ l) : (i, c) = (j, c) := by
    induction l with
    | nil => cases hx
    | cons p r ih =>
      simp only [List.map_cons, List.nodup_cons] at h
      rcases List.mem_cons.mp hx with e1 | e1 <;> rcases List.mem_cons.mp hy with e2 | e2
      · rw [e1, e2]
      · exfalso; apply h.1; rw [← e1]; exact List.mem_map.mpr ⟨(j, c), e2, rfl⟩
      · exfalso; apply h.1; rw [← e2]; exact List.mem_map.mpr ⟨(i, c), e1, rfl⟩
      · exact ih h.2 e1 e2
theorem ExS.frz {x : Stmt} {W : WS} (i : Nat) (h : ExS C F x W) : ExS C F x (fun st P => W (Mine.frz i st) P) := by
  intro ad st s P Q E hW R k
  obtain ⟨ad', ho, hx, R'⟩ := R.freeze i
  exact h ad' _ s P Q E hW R' fun o st' ad'' h' tk fl hp sp R'' hf => k o st' ad'' h' tk fl hp
    ⟨fun b o hb hn e => sp.kept b o hb (fun q => hn (ho b q)) e, fun a ha => (sp.own a ha).imp (ho a) id, sp.ux.trans hx⟩ R'' hf
theorem Stp.drop {ad : Ad} {h h' : Heap} {i : Nat} (kp : ∀ b o, b ∉ F.own ad → h.get? b = some o → h'.get? b = some o) : Stp C F ad h (dropI ad i) h' :=
  ⟨fun b o _ hn e => kp b o hn e, fun a ha => .inl (own_drop a ha), rfl⟩
noncomputable def notComp : Expr → Bool
  | .ListComp .. | .SetComp .. | .DictComp .. => false
  | _ => true
theorem swaps_no {value : Expr} {t : Option Expr} {l : Nat} {env : Env} (h : notComp value = true) : swapsWith value t l env = pure false := by
  cases value <;> first | rfl | exact (Bool.false_ne_true h).elim
theorem ExS.assign (ok : FmOk C n F) {x : Str} {px pos : Pos} {e : Expr} {W : WX} (i : Nat) (hi : F.names[i]? = some x) (so : StoreOk F x) (h : EvX C F e W) (hc : notComp e = true) :
    ExS C F (.Assign [.Name x px] e pos) (fun st P => W st fun v => P .nxt (st.set i v)) := by
  intro ad st s P Q E hW R k
  refine wpAny_Assign_Name (h ad st s _ _ _ hW R fun w v h₁ t₁ hp g₁ r₁ => ?_) (swaps_no hc)
  exact (R.grow ok g₁ (tk := t₁)).store ok hi so r₁ fun h' tk R' kp => k .nxt _ _ h' tk .next hp (Stp.trans (.of g₁) (.drop kp) fun a ha => R'.ownG ok ha) R' rfl
noncomputable def thawV : V → (V → Prop) → Prop
  | .ints l, P => P (.mints l)
  | _, _ => False
theorem store_own (ok : FmOk C n F) {ad : Ad} {st : List V} {s : Shared} {A : Around} (R : Rep C F ad st s) {h₁ : Heap} {t₁ : Nat} (g₁ : Gr C s.heap h₁) {x : Str} {i : Nat} (hi : F.names[i]? = some x) (so : StoreOk F x) {a : Addr} {u : V} {P : Out → List V → Prop} {Q : Flow → Shared → Prop} {E : Value → Shared → Prop}
    (k : Post C F ad s P Q) (hG : a ∉ C.G) (hdead : s.heap.get? a = none) (hpl : OwnAt h₁ a) (hnU : a ∉ F.U ad)
    (hvar : ∀ h' : Heap, (∀ o, h₁.get? a = some o → h'.get? a = some o) → (∀ b o, b ∉ F.own ad → h₁.get? b = some o → h'.get? b = some o) → Rd F.env h' x (.ref a) → VarOk F ⟨(i, a) :: (dropI ad i).m, ad.ux⟩ h' i x u) (hP : P .nxt (st.set i u)) :
    wpAny (model C.prog C.w) A (storeName F.env x (.ref a)) (fun _ => Q .next) E { s with heap := h₁, toks := t₁ } := by
  have R1 := (R.grow ok g₁ (tk := t₁)).unbind i
  have hal := (R.unbind i).U_alive
  have ea : ∀ b ∈ F.own ⟨(i, a) :: (dropI ad i).m, ad.ux⟩, b = a ∨ b ∈ F.own (dropI ad i) := by
    intro b hb
    rcases List.mem_cons.mp hb with e | hb
    · exact .inr (e ▸ List.mem_cons_self)
    · rcases List.mem_append.mp hb with hb | hb
      · exact .inr (List.mem_cons_of_mem _ (List.mem_append_left _ hb))
      · rcases List.mem_cons.mp hb with e | hb
        · exact .inl e
        · exact .inr (List.mem_cons_of_mem _ (List.mem_append_right _ hb))
  have hU' : ∀ b ∈ F.U ⟨(i, a) :: (dropI ad i).m, ad.ux⟩, b ∈ F.U (dropI ad i) ∨ s.heap.get? b = none := by
    intro b hb
    rcases List.mem_append.mp hb with hb | hb
    · rcases ea b hb with rfl | hb
      · exact .inr hdead
      · exact .inl (List.mem_append_left _ hb)
    · exact .inl (List.mem_append_right _ hb)
  have R0 := R.unbind i
  have R2 : Rep C F ⟨(i, a) :: (dropI ad i).m, ad.ux⟩ (st.set i .unb) { s with heap := h₁, toks := t₁ } :=
    { R1 with
      ads := fun p hp => by
        rcases List.mem_cons.mp hp with rfl | hp
        · exact hpl
        · exact R1.ads p hp
      fresh := fun b hb => by
        rcases ea b hb with rfl | hb
        · cases q : F.h₀.get? b with
          | none => rfl
          | some o => rw [R.stays b o hG q] at hdead; cases hdead
        · exact R1.fresh b hb
      apart := fun b hb => by
        rcases ea b hb with rfl | hb
        · exact fun q => hnU (List.mem_append_right _ q)
        · exact R1.apart b hb
      nd := by
        have h0 := R1.nd
        have hna : a ∉ F.own (dropI ad i) := fun q => hnU (List.mem_append_left _ (own_drop a q))
        unfold Fm.own at h0 hna ⊢
        rw [List.nodup_cons, List.nodup_append] at h0
        simp only [List.mem_cons, List.mem_append, not_or] at hna
        rw [List.nodup_cons, List.nodup_append, List.map_cons, List.nodup_cons]
        refine ⟨?_, h0.2.1, ⟨hna.2.2, h0.2.2.1⟩, ?_⟩
        · intro q
          rcases List.mem_append.mp q with q | q
          · exact h0.1 (List.mem_append_left _ q)
          · rcases List.mem_cons.mp q with q | q
            · exact hna.1 q.symm
            · exact h0.1 (List.mem_append_right _ q)
        · intro b hb c hc e
          rcases List.mem_cons.mp hc with q | q
          · exact hna.2.1 (by subst q; subst e; exact hb)
          · exact h0.2.2.2 b hb c q e
      vars := fun j y v h1 h2 => by
        have r0 := R0.vars j y v h1 h2
        have r1 := R1.vars j y v h1 h2
        cases v with
        | unb => trivial
        | mints l => obtain ⟨b, us, e1, e2, e3, e4⟩ := r1; exact ⟨b, us, List.mem_cons_of_mem _ e1, e2, e3, e4⟩
        | mlist l =>
          obtain ⟨b, us, e1, e2, e3, e4⟩ := r0
          exact ⟨b, us, List.mem_cons_of_mem _ e1, e2.gr ok (R.LG ok) g₁, e3.at fun o => g₁.keep b o (R0.ownG ok (mem_own_ad e1)), VRs.mono (fun b o hb e => g₁.keep b o (fun q => hb (R0.UG b q)) e) hU' _ _ e4⟩
        | mit b l =>
          obtain ⟨w', p, e1, e2, e3, e4⟩ := r0
          exact ⟨w', p, List.mem_cons_of_mem _ e1, e2.gr ok (R.LG ok) g₁, e3.at fun o => g₁.keep b o (R0.ownG ok (mem_own_ad e1)), e4.mono (fun b o hb e => g₁.keep b o (fun q => hb (R0.UG b q)) e) hU'⟩
        | _ =>
          obtain ⟨w', e1, e2⟩ := r0
          exact ⟨w', e1.gr ok (R.LG ok) g₁, VR.mono (fun b o hb e => g₁.keep b o (fun q => hb (R0.UG b q)) e) hU' _ _ e2⟩ }
  refine R2.store0 ok hi (fun v h => ?_) so fun h' tk R' rd kp => ?_
  · rw [List.getElem?_set_self'] at h
    cases q : st[i]? with
    | none => rw [q] at h; cases h
    | some u => rw [q] at h; simp at h; exact h.symm
  · have hpl' : ∀ o, h₁.get? a = some o → h'.get? a = some o := fun o => kp a o fun q => hnU (List.mem_append_left _ (lc_own a q))
    have := R'.bind hi (v := u) (hvar h' hpl' (fun b o hb => kp b o fun q => hb (lc_own b q)) rd)
    rw [List.set_set] at this
    refine k .nxt _ ⟨(i, a) :: (dropI ad i).m, ad.ux⟩ h' tk .next hP ⟨fun b o hb hn e => kp b o (fun q => hn (lc_own b q)) (g₁.keep b o hb e), fun b hb => ?_, rfl⟩ this rfl
    rcases ea b hb with rfl | hb
    · exact .inr hdead
    · exact .inl (own_drop b hb)
theorem ExS.assignM (ok : FmOk C n F) {x : Str} {px pos : Pos} {e : Expr} {W : WX} (i : Nat) (hi : F.names[i]? = some x) (so : StoreOk F x) (h : EvF C F e W) (hc : notComp e = true) :
    ExS C F (.Assign [.Name x px] e pos) (fun st P => W st fun v => thawV v fun u => P .nxt (st.set i u)) := by
  intro ad st s P Q E hW R k
  refine wpAny_Assign_Name (h ad st s _ _ _ hW R fun w v h₁ t₁ hp g₁ r₁ hn => ?_) (swaps_no hc)
  unfold thawV at hp
  split at hp
  · simp only [VR] at r₁
    obtain ⟨a, ws, rfl, ha, hpl, hi'⟩ := r₁
    obtain ⟨hG, hdead, _⟩ := hn a rfl
    exact store_own ok R g₁ hi so (u := .mints _) k hG hdead (.inl ⟨_, hpl⟩) ha (fun h' ka _ rd => ⟨a, ws, List.mem_cons_self, rd, hpl.at ka, hi'⟩) hp
  · exact hp.elim
noncomputable def V.wide : V → V
  | .mints l => .mlist (l.map V.int)
  | v => v
noncomputable def augI : Operator → Int → Int → (V → Prop) → Prop
  | .Add, a, b, P => P (.int (a + b))
  | .Sub, a, b, P => P (.int (a - b))
  | .LShift, a, b, P => 0 ≤ b ∧ (Builtin.Int.intBits a : Int) + b ≤ 2 ^ 27 ∧ P (.int (a * 2 ^ b.toNat))
  | .RShift, a, b, P => 0 ≤ b ∧ P (.int (a.fdiv (2 ^ b.toNat)))
  | .BitOr, a, b, P => P (.int (Builtin.bitOr a b))
  | _, _, _, _ => False
noncomputable def augV (op : Operator) (a b : V) (P : V → Prop) : Prop := match a with
  | .int x => match b with | .int y => augI op x y P | _ => False
  | _ => False
theorem aug_sound {A : Around} {s : Shared} {U : List Addr} {Q : Value → Shared → Prop} {E : Value → Shared → Prop} {op : Operator} {a b : V} {P : V → Prop} {wa wb : Value} (hb : augV op a b P) (ra : VR U s.heap a wa) (rb : VR U s.heap b wb)
    (k : ∀ i t tk, P (.int i) → Q (.int i t) { s with toks := tk }) : wpAny (model C.prog C.w) A (inplaceOp op wa wb) Q E s := by
  cases a <;> first | exact hb.elim | skip
  cases b <;> first | exact hb.elim | skip
  simp only [VR] at ra rb
  obtain ⟨t, rfl⟩ := ra; obtain ⟨u, rfl⟩ := rb
  cases op <;> first | exact hb.elim | skip
  · exact iadd_int (k _ _ _ hb)
  · exact PyProof.Rows.isub_int (k _ _ _ hb)
  · exact ilshift_int hb.1 hb.2.1 (k _ _ _ hb.2.2)
  · exact irshift_int hb.1 (k _ _ _ hb.2)
  · exact ior_int (k _ _ _ hb)
theorem ExS.aug (ok : FmOk C n F) {x : Str} {px pos : Pos} {op : Operator} {e : Expr} {W : WX} (i : Nat) (hi : F.names[i]? = some x) (so : StoreOk F x) (h : EvX C F e W) :
    ExS C F (.AugAssign (.Name x px) op e pos) (fun st P => (getV st i).plain ∧ W st fun v => augV op (getV st i) v fun u => P .nxt (st.set i u)) := by
  intro ad st s P Q E ⟨hpl, hW⟩ R k
  have hx := ok.names x (List.mem_of_getElem? hi)
  cases hv : st[i]? with
  | none => simp [getV, hv, V.plain] at hpl
  | some v =>
    have hg : getV st i = v := by simp [getV, hv]
    rw [hg] at hpl hW
    have hr := R.vars i x v hi hv
    have : ∃ w, Rd F.env s.heap x w ∧ VR (F.U ad) s.heap v w := by
      cases v <;> first | exact hpl.elim | exact hr
    obtain ⟨w, r1, r2⟩ := this
    refine wpAny_AugAssign_Name (wp_load_rd ok.kind hx r1 (h ad st s _ _ _ hW R fun wb b h₁ t₁ hb g₁ r₁ => ?_))
    refine aug_sound hb (r2.gr R.UG g₁) r₁ fun j t tk hp => ?_
    exact (R.grow ok g₁ (tk := tk)).store ok hi so (v := .int j) (by simp [VR]) fun h' tk' R' kp => k .nxt _ _ h' tk' .next hp (Stp.trans (.of g₁) (.drop kp) fun a ha => R'.ownG ok ha) R' rfl
theorem ExS.ite (_ok : FmOk C n F) {t : Expr} {b o : List Stmt} {pos : Pos} {W : WC} {W1 W2 : WS} (ht : EvC C F t W) (h1 : ExB C F b W1) (h2 : ExB C F o W2) (ok : FmOk C n F) :
    ExS C F (.If t b o pos) (fun st P => W st fun c => (c = true → W1 st P) ∧ (c = false → W2 st P)) := by
  intro ad st s P Q E hW R k
  refine wpAny_If (ht ad st s _ _ _ hW R fun c h₁ t₁ hp g₁ => ?_)
  have R1 := R.grow ok g₁ (tk := t₁)
  cases c with
  | true => simp only [if_true]; exact h1 ad st _ P Q E (hp.1 rfl) R1 fun o st' ad' h' tk fl hp sp R' hf => k o st' ad' h' tk fl hp (Stp.trans (.of g₁) sp fun a ha => R'.ownG ok ha) R' hf
  | false => simp only [Bool.false_eq_true, if_false]; exact h2 ad st _ P Q E (hp.2 rfl) R1 fun o st' ad' h' tk fl hp sp R' hf => k o st' ad' h' tk fl hp (Stp.trans (.of g₁) sp fun a ha => R'.ownG ok ha) R' hf
theorem ExS.ret (ok : FmOk C n F) {e : Expr} {pos : Pos} {W : WX} (h : EvX C F e W) : ExS C F (.Return (some e) pos) (fun st P => W st fun v => P (.ret v) st) := by
  intro ad st s P Q E hW R k
  exact wpAny_Return_some (h ad st s _ _ _ hW R fun w v h₁ t₁ hp g₁ r₁ => k (.ret v) st ad h₁ t₁ _ hp (.of g₁) (R.grow ok g₁) ⟨w, rfl, r₁⟩)
theorem ExS.retNone {pos : Pos} : ExS C F (.Return none pos) (fun st P => P (.ret .none) st) := by
  intro ad st s P Q E hW R k
  exact wpAny_Return_none (k (.ret .none) st ad s.heap s.toks _ hW (.of (.refl ..)) R ⟨_, rfl, by simp [VR]⟩)
theorem ExS.never {x : Stmt} : ExS C F x (fun _ _ => False) := fun _ _ _ _ _ _ hW => hW.elim
theorem ExB.never {x : List Stmt} : ExB C F x (fun _ _ => False) := fun _ _ _ _ _ _ hW => hW.elim
noncomputable def whileP (n : Nat) (I : Nat → List V → Prop) (P : Out → List V → Prop) : Out → List V → Prop
  | .nxt, st => ∃ m, m < n ∧ I m st
  | .cnt, st => ∃ m, m < n ∧ I m st
  | .brk, st => P .nxt st
  | .ret v, st => P (.ret v) st
end
end Mine
end
section
open PySem PySem.Calls PyProof.Rows PySem.W PySem.Spec PySem.SeqAt
set_option Elab.async false
set_option maxRecDepth 10000
namespace Mine
section
variable {C : Cx} {F : Fm} {n : Nat} {ad : Ad} {st : List V} {s : Shared}
theorem Rep.shield (R : Rep C F ad st s) (ok : FmOk C n F) {h' : Heap} {tk : Nat} {wr : List Addr} (g : Gr C s.heap h') (hw : ∀ b ∈ wr, s.heap.get? b = none ∧ h'.get? b ≠ none) :
    Rep C F ⟨ad.m, wr ++ ad.ux⟩ st { s with heap := h', toks := tk } := by
  have R1 := R.grow ok g (tk := tk)
  have hU : ∀ b ∈ F.U ⟨ad.m, wr ++ ad.ux⟩, b ∈ F.U ad ∨ s.heap.get? b = none := by
    intro b hb
    rcases List.mem_append.mp hb with hb | hb
    · exact .inl (List.mem_append_left _ hb)
    · rcases List.mem_append.mp hb with hb | hb
      · exact .inr (hw b hb).1
      · exact .inl (List.mem_append_right _ hb)
  refine { R1 with gU := fun g hg => List.mem_append_right _ (R.gU g hg), ux := ?_, apart := ?_, vars := ?_ }
  · intro u hu
    rcases List.mem_append.mp hu with hu | hu
    · exact (hw u hu).2
    · exact R1.ux u hu
  · intro a ha hu
    rcases List.mem_append.mp hu with hu | hu
    · exact R.own_alive a ha (hw a hu).1
    · exact R.apart a ha hu
  · intro j y v h1 h2
    have r0 := R.vars j y v h1 h2
    cases v with
    | unb => trivial
    | mints l => obtain ⟨b, us, e1, e2, e3, e4⟩ := r0; exact ⟨b, us, e1, e2.gr ok (R.LG ok) g, e3.at fun o => g.keep b o (R.ownG ok (mem_own_ad e1)), e4⟩
    | mlist l =>
      obtain ⟨b, us, e1, e2, e3, e4⟩ := r0
      exact ⟨b, us, e1, e2.gr ok (R.LG ok) g, e3.at fun o => g.keep b o (R.ownG ok (mem_own_ad e1)), VRs.mono (fun b o hb e => g.keep b o (fun q => hb (R.UG b q)) e) hU _ _ e4⟩
    | mit b l =>
      obtain ⟨w', p, e1, e2, e3, e4⟩ := r0
      exact ⟨w', p, e1, e2.gr ok (R.LG ok) g, e3.at fun o => g.keep b o (R.ownG ok (mem_own_ad e1)), e4.mono (fun b o hb e => g.keep b o (fun q => hb (R.UG b q)) e) hU⟩
    | _ =>
      obtain ⟨w', e1, e2⟩ := r0
      exact ⟨w', e1.gr ok (R.LG ok) g, VR.mono (fun b o hb e => g.keep b o (fun q => hb (R.UG b q)) e) hU _ _ e2⟩
theorem Rep.unshield {m : List (Nat × Addr)} {wr ux : List Addr} (R : Rep C F ⟨m, wr ++ ux⟩ st s) (hG : ∀ g ∈ C.G, g ∈ ux) : Rep C F ⟨m, ux⟩ st s := by
  have hU : ∀ b ∈ F.U ⟨m, ux⟩, b ∈ F.U ⟨m, wr ++ ux⟩ := by
    intro b hb
    rcases List.mem_append.mp hb with hb | hb
    · exact List.mem_append_left _ hb
    · exact List.mem_append_right _ (List.mem_append_right _ hb)
  refine { R with gU := hG, ux := fun u hu => R.ux u (List.mem_append_right _ hu), apart := fun a ha hu => R.apart a ha (List.mem_append_right _ hu), vars := ?_ }
  intro j y v h1 h2
  have r0 := R.vars j y v h1 h2
  cases v with
  | unb => trivial
  | mints l => exact r0
  | mlist l => obtain ⟨b, us, e1, e2, e3, e4⟩ := r0; exact ⟨b, us, e1, e2, e3, e4.weaken hU⟩
  | mit b l => obtain ⟨w', p, e1, e2, e3, e4⟩ := r0; exact ⟨w', p, e1, e2, e3, e4.weaken hU⟩
  | _ => obtain ⟨w', e1, e2⟩ := r0; exact ⟨w', e1, e2.weaken hU⟩
theorem Rep.onUx (R : Rep C F ad st s) (ok : FmOk C n F) {h' : Heap} {tk : Nat} {wr : List Addr} (hwu : ∀ b ∈ wr, b ∈ ad.ux) (hwg : ∀ b ∈ wr, b ∉ C.G)
    (hc : ∀ b ∈ wr, ∀ o, s.heap.get? b = some o → ∀ vs, o.data = .fields vs → o.cls ≠ .type "code") (hF : ∀ b ∈ wr, F.h₀.get? b = none) (hcells : ∀ b ∈ wr, b ∉ F.env.cells.map (·.2)) (hgl : ∀ b ∈ wr, b ≠ mainGlobals)
    (kept : ∀ b o, b ∉ wr → s.heap.get? b = some o → h'.get? b = some o) (al : ∀ b ∈ wr, h'.get? b ≠ none) : Rep C F ad st { s with heap := h', toks := tk } := by
  have no : ∀ a ∈ F.own ad, a ∉ wr := fun a ha q => R.apart a ha (hwu a q)
  have hL : F.env.locals ∉ wr := no _ List.mem_cons_self
  have rd : ∀ x w, Rd F.env s.heap x w → Rd F.env h' x w := fun x w r => r.keep (fun o => kept _ o hL) (fun c hc o => kept c o fun q => hcells c q hc) (fun o => kept _ o fun q => hgl _ q ok.globals)
  have vr : ∀ v w', VR (F.U ad) s.heap v w' → VR (F.U ad) h' v w' := fun v w' q => VR.mono (fun b o hb e => kept b o (fun z => hb (List.mem_append_right _ (hwu b z))) e) (fun _ hb => .inl hb) v w' q
  have vrs : ∀ v w', VRs (F.U ad) s.heap v w' → VRs (F.U ad) h' v w' := fun v w' q => VRs.mono (fun b o hb e => kept b o (fun z => hb (List.mem_append_right _ (hwu b z))) e) (fun _ hb => .inl hb) v w' q
  exact {
    stays := fun b o hb e => kept b o (fun q => by rw [hF b q] at e; cases e) (R.stays b o hb e)
    tb := C.but s.heap h' wr R.tb (fun a ha => ⟨hwg a ha, hc a ha⟩) kept
    ns := R.ns.imp fun _ y => y.at fun o e => kept _ o hL e
    cells := fun c hc => (R.cells c hc).imp fun _ y => IsCell.at y fun o e => kept c o (no c (List.mem_cons_of_mem _ (List.mem_append_left _ hc))) e
    ads := fun p hp => (R.ads p hp).at fun o => kept _ o (no _ (mem_own_ad hp))
    gU := R.gU
    ec := fun c hc => (R.ec c hc).imp fun _ y => IsCell.at y fun o e => kept c o (fun q => hcells c q hc) e
    fresh := R.fresh
    ux := fun u hu => by
      by_cases q : u ∈ wr
      · exact al u q
      · cases z : s.heap.get? u with
        | none => exact absurd z (R.ux u hu)
        | some o => show h'.get? u ≠ none; rw [kept u o q z]; simp
    apart := R.apart
    nd := R.nd
    vars := fun j y v h1 h2 => by
      have r0 := R.vars j y v h1 h2
      cases v with
      | unb => trivial
      | mints l => obtain ⟨b, us, e1, e2, e3, e4⟩ := r0; exact ⟨b, us, e1, rd _ _ e2, e3.at fun o => kept b o (no _ (mem_own_ad e1)), e4⟩
      | mlist l => obtain ⟨b, us, e1, e2, e3, e4⟩ := r0; exact ⟨b, us, e1, rd _ _ e2, e3.at fun o => kept b o (no _ (mem_own_ad e1)), vrs _ _ e4⟩
      | mit b l => obtain ⟨w', p, e1, e2, e3, e4⟩ := r0; exact ⟨w', p, e1, rd _ _ e2, e3.at fun o => kept b o (no _ (mem_own_ad e1)), e4.imp id fun ⟨full, x, y⟩ => ⟨full, vr _ _ x, y⟩⟩
      | _ => obtain ⟨w', e1, e2⟩ := r0; exact ⟨w', rd _ _ e1, vr _ _ e2⟩ }
theorem Rep.endUx {m : List (Nat × Addr)} {ux wr : List Addr} (R : Rep C F ⟨m, wr ++ ux⟩ st s) (ok : FmOk C n F) {h' : Heap} {tk : Nat} (hG : ∀ g ∈ C.G, g ∈ ux) (hwx : ∀ b ∈ wr, b ∉ ux) (hwg : ∀ b ∈ wr, b ∉ C.G)
    (hc : ∀ b ∈ wr, ∀ o, s.heap.get? b = some o → ∀ vs, o.data = .fields vs → o.cls ≠ .type "code") (hF : ∀ b ∈ wr, F.h₀.get? b = none) (hcells : ∀ b ∈ wr, b ∉ F.env.cells.map (·.2)) (hgl : ∀ b ∈ wr, b ≠ mainGlobals)
    (kept : ∀ b o, b ∉ wr → s.heap.get? b = some o → h'.get? b = some o) : Rep C F ⟨m, ux⟩ st { s with heap := h', toks := tk } := by
  have hU : ∀ b ∈ F.U ⟨m, ux⟩, b ∈ F.U ⟨m, wr ++ ux⟩ := by
    intro b hb
    rcases List.mem_append.mp hb with hb | hb
    · exact List.mem_append_left _ hb
    · exact List.mem_append_right _ (List.mem_append_right _ hb)
  have no : ∀ a ∈ F.own ⟨m, ux⟩, a ∉ wr := fun a ha q => R.apart a ha (List.mem_append_left _ q)
  have hL : F.env.locals ∉ wr := no _ List.mem_cons_self
  have rd : ∀ x w, Rd F.env s.heap x w → Rd F.env h' x w := fun x w r => r.keep (fun o => kept _ o hL) (fun c hc o => kept c o fun q => hcells c q hc) (fun o => kept _ o fun q => hgl _ q ok.globals)
  have vr : ∀ v w', VR (F.U ⟨m, wr ++ ux⟩) s.heap v w' → VR (F.U ⟨m, ux⟩) h' v w' := fun v w' q => VR.mono (fun b o hb e => kept b o (fun z => hb (List.mem_append_right _ (List.mem_append_left _ z))) e) (fun b hb => .inl (hU b hb)) v w' q
  have vrs : ∀ v w', VRs (F.U ⟨m, wr ++ ux⟩) s.heap v w' → VRs (F.U ⟨m, ux⟩) h' v w' := fun v w' q => VRs.mono (fun b o hb e => kept b o (fun z => hb (List.mem_append_right _ (List.mem_append_left _ z))) e) (fun b hb => .inl (hU b hb)) v w' q
  exact {
    stays := fun b o hb e => kept b o (fun q => by rw [hF b q] at e; cases e) (R.stays b o hb e)
    tb := C.but s.heap h' wr R.tb (fun a ha => ⟨hwg a ha, hc a ha⟩) kept
    ns := R.ns.imp fun _ y => y.at fun o e => kept _ o hL e
    cells := fun c hc => (R.cells c hc).imp fun _ y => IsCell.at y fun o e => kept c o (no c (List.mem_cons_of_mem _ (List.mem_append_left _ hc))) e
    ads := fun p hp => (R.ads p hp).at fun o => kept _ o (no _ (mem_own_ad hp))
    gU := hG
    ec := fun c hc => (R.ec c hc).imp fun _ y => IsCell.at y fun o e => kept c o (fun q => hcells c q hc) e
    fresh := R.fresh
    ux := fun u hu => by
      cases z : s.heap.get? u with
      | none => exact absurd z (R.ux u (List.mem_append_right _ hu))
      | some o => show h'.get? u ≠ none; rw [kept u o (fun q => hwx u q hu) z]; simp
    apart := fun a ha hu => R.apart a ha (List.mem_append_right _ hu)
    nd := R.nd
    vars := fun j y v h1 h2 => by
      have r0 := R.vars j y v h1 h2
      cases v with
      | unb => trivial
      | mints l => obtain ⟨b, us, e1, e2, e3, e4⟩ := r0; exact ⟨b, us, e1, rd _ _ e2, e3.at fun o => kept b o (no _ (mem_own_ad e1)), e4⟩
      | mlist l => obtain ⟨b, us, e1, e2, e3, e4⟩ := r0; exact ⟨b, us, e1, rd _ _ e2, e3.at fun o => kept b o (no _ (mem_own_ad e1)), vrs _ _ e4⟩
      | mit b l => obtain ⟨w', p, e1, e2, e3, e4⟩ := r0; exact ⟨w', p, e1, rd _ _ e2, e3.at fun o => kept b o (no _ (mem_own_ad e1)), e4.imp id fun ⟨full, x, y⟩ => ⟨full, vr _ _ x, y⟩⟩
      | _ => obtain ⟨w', e1, e2⟩ := r0; exact ⟨w', rd _ _ e1, vr _ _ e2⟩ }
noncomputable def Itr (C : Cx) (A : Around) (U : List Addr) (h h' : Heap) (it : Value) (vs : List V) : Prop :=
  ∃ (I : Addr) (fp wr : List Addr) (P : Nat → Value → Prop) (St : Nat → Heap → Prop), it = .ref I ∧ Walks C.prog C.w A I fp wr vs.length P St ∧ St 0 h' ∧
    (∀ b ∈ wr, h.get? b = none) ∧ (∀ j h, St j h → ∀ b ∈ wr, ∃ o, h.get? b = some o ∧ ∀ vs, o.data = .fields vs → o.cls ≠ .type "code") ∧
    (∀ b ∈ fp, b ∈ wr ∨ (b ∉ U ∧ h'.get? b ≠ none)) ∧ (∀ j w, j < vs.length → P j w → ∃ v, vs[j]? = some v ∧ VR (wr ++ U) h' v w)
noncomputable def EvI (C : Cx) (F : Fm) (e : Expr) (W : WXs) : Prop :=
  (∀ x, foldedSetIterable e F.env x = pure x) ∧
  ∀ (ad : Ad) (st : List V) (s : Shared) (P : List V → Prop) (Q : Value → Shared → Prop) (E : Value → Shared → Prop), W st P → Rep C F ad st s →
    (∀ it vs h' tk, P vs → Gr C s.heap h' → Itr C F.A (F.U ad) s.heap h' it vs → Q it { s with heap := h', toks := tk }) →
    wpAny (model C.prog C.w) F.A (eval e F.env) (fun x s₁ => wpAny (model C.prog C.w) F.A (pyIter x) Q E s₁) E s
noncomputable def loopP (I : Nat → List V → Prop) (j : Nat) (P : Out → List V → Prop) : Out → List V → Prop
  | .nxt, st => I (j + 1) st
  | .cnt, st => I (j + 1) st
  | .brk, st => P .nxt st
  | .ret v, st => P (.ret v) st
end
end Mine
end
section
open PySem PySem.Calls PyProof.Rows PySem.W PySem.Spec PySem.SeqAt
set_option Elab.async false
set_option maxRecDepth 10000
namespace Mine
section
variable {C : Cx} {F : Fm} {n : Nat} {ad : Ad} {st : List V} {s : Shared}
theorem call_name (ok : FmOk C n F) {x : Str} {f : Value} {args : List Expr} {p pos : Pos} {Wa : WXs} {P : List V → Prop} {Q : Value → Shared → Prop} {E : Value → Shared → Prop} (g : GN C x f) (hx : F.env.kindOf x = some .globalImplicit) (hk : KeepOk C f)
    (ha : EvXs C F args Wa) (hW : Wa st P) (R : Rep C F ad st s) (k : ∀ ws vs h' tk, P vs → Gr C s.heap h' → VRs (F.U ad) h' vs ws → wpAny (model C.prog C.w) F.A (call f ws) Q E { s with heap := h', toks := tk }) :
    wpAny (model C.prog C.w) F.A (eval (.Call (.Name x p) args [] pos) F.env) Q E s := by
  show wpAny _ F.A (eval (.Name x p) F.env >>= fun f => callWith pos f [] (backTo pos (starEach args F.env)) (backToKw pos [])) Q E s
  refine wpAny_bind (name_gn ok.kind ok.globals ok.builtins hx (R.wd ok) g ?_)
  refine callWith_of (P := Wd C) (by rw [ha.1 pos]; rfl) (fun h w => keep_looks hk h w) (evalArgs_all (ha.1 pos) ?_)
  refine ha.2 pos ad st s _ _ _ hW R fun ws vs h₁ t₁ hT' g₁ r₁ => ?_
  exact ⟨(R.grow ok g₁ (tk := t₁)).wd ok, k ws vs h₁ t₁ hT' g₁ r₁⟩
noncomputable def notSetE : Expr → Bool
  | .Set .. => false
  | _ => true
theorem folded_no {e : Expr} {env : Env} (h : notSetE e = true) : ∀ x, foldedSetIterable e env x = pure x := by
  intro x; cases e <;> first | rfl | exact (Bool.false_ne_true h).elim
noncomputable def itemsV (v : V) (P : List V → Prop) : Prop := match v with
  | .ints l => P (l.map V.int)
  | .list l => P l
  | .tup l => P l
  | _ => False
theorem itr_list {A : Around} {U : List Addr} {h : Heap} {x : Addr} {ws : List Value} {vs : List V} (hA : A.handled = none) (hx : x ∉ U) (hp : h.PlainList x ws.toArray) (hv : VRs U h vs ws) :
    Itr C A U h (h.push { cls := .type "list_iterator", data := .fields #[.ref x, .int 0 0] }) (.ref h.objs.size) vs := by
  have hne : x ≠ h.objs.size := fun e => plainList_alive hp (e ▸ dead_size h)
  have W := Walks.list (prog := C.prog) (w := C.w) hA h.objs.size x hne ws.toArray
  have e : ws.toArray.size = vs.length := by simp [hv.length]
  rw [e] at W
  refine ⟨_, _, _, _, _, rfl, W, ⟨⟨_, Heap.get?_push_size _ rfl, rfl, rfl⟩, hp.isList.push _⟩, fun b hb => ?_, fun j h' hst b hb => ?_, fun b hb => ?_, fun j w _ hw => ?_⟩
  · rw [List.mem_singleton.mp hb]; exact dead_size h
  · rw [List.mem_singleton.mp hb]; obtain ⟨o, e, c, d⟩ := hst.1; exact ⟨o, e, fun _ _ => by rw [c]; decide⟩
  · rcases List.mem_cons.mp hb with rfl | hb
    · exact .inl (List.mem_singleton.mpr rfl)
    · rw [List.mem_singleton.mp hb]
      refine .inr ⟨hx, ?_⟩
      obtain ⟨k, e⟩ := hp; rw [Heap.get?_push_of_some _ e]; simp
  · have hw' : ws[j]? = some w := by simpa using hw
    have hlt : j < vs.length := by have := (List.getElem?_eq_some_iff.mp hw').1; rw [hv.length] at this; exact this
    obtain ⟨w2, h2, h3⟩ := hv.get (i := j) (v := vs[j]) (by simp [hlt])
    rw [hw'] at h2; injection h2 with h2; subst h2
    exact ⟨vs[j], by simp [hlt], VR.mono (fun b o _ e => Heap.get?_push_of_some _ e) (fun b hb => (List.mem_append.mp hb).elim (fun q => .inr (by rw [List.mem_singleton.mp q]; exact dead_size h)) .inl) _ _ h3⟩
theorem itr_tup {A : Around} {U : List Addr} {h : Heap} {x : Addr} {ws : List Value} {vs : List V} (hA : A.handled = none) (hx : x ∉ U) (hp : PlainTup h x ws.toArray) (hv : VRs U h vs ws) :
    Itr C A U h (h.push { cls := .type "tuple_iterator", data := .fields #[.ref x, .int 0 0] }) (.ref h.objs.size) vs := by
  have hne : x ≠ h.objs.size := fun e => plainTup_alive hp (e ▸ dead_size h)
  have W := Walks.tuple (prog := C.prog) (w := C.w) hA h.objs.size x hne ws.toArray
  have e : ws.toArray.size = vs.length := by simp [hv.length]
  rw [e] at W
  have ht : (h.push { cls := .type "tuple_iterator", data := .fields #[.ref x, .int 0 0] }).IsTuple x ws.toArray := by obtain ⟨k, e⟩ := hp; exact ⟨_, Heap.get?_push_of_some _ e, rfl, k, rfl⟩
  refine ⟨_, _, _, _, _, rfl, W, ⟨⟨_, Heap.get?_push_size _ rfl, rfl, rfl⟩, ht⟩, fun b hb => ?_, fun j h' hst b hb => ?_, fun b hb => ?_, fun j w _ hw => ?_⟩
  · rw [List.mem_singleton.mp hb]; exact dead_size h
  · rw [List.mem_singleton.mp hb]; obtain ⟨o, e, c, d⟩ := hst.1; exact ⟨o, e, fun _ _ => by rw [c]; decide⟩
  · rcases List.mem_cons.mp hb with rfl | hb
    · exact .inl (List.mem_singleton.mpr rfl)
    · rw [List.mem_singleton.mp hb]
      refine .inr ⟨hx, ?_⟩
      obtain ⟨k, e⟩ := hp; rw [Heap.get?_push_of_some _ e]; simp
  · have hw' : ws[j]? = some w := by simpa using hw
    have hlt : j < vs.length := by have := (List.getElem?_eq_some_iff.mp hw').1; rw [hv.length] at this; exact this
    obtain ⟨w2, h2, h3⟩ := hv.get (i := j) (v := vs[j]) (by simp [hlt])
    rw [hw'] at h2; injection h2 with h2; subst h2
    exact ⟨vs[j], by simp [hlt], VR.mono (fun b o _ e => Heap.get?_push_of_some _ e) (fun b hb => (List.mem_append.mp hb).elim (fun q => .inr (by rw [List.mem_singleton.mp q]; exact dead_size h)) .inl) _ _ h3⟩
theorem Itr.older {C : Cx} {A : Around} {U : List Addr} {h h₁ h' : Heap} {it : Value} {vs : List V} (x : Itr C A U h₁ h' it vs) (g : Gr C h h₁) (tb : C.Tb h₁) : Itr C A U h h' it vs := by
  obtain ⟨I, fp, wr, P, St, e1, e2, e3, e4, e5, e6, e7⟩ := x
  exact ⟨I, fp, wr, P, St, e1, e2, e3, fun b hb => g.dead (fun q => C.alive _ tb b q (e4 b hb)) (e4 b hb), e5, e6, e7⟩
theorem EvI.seq (ok : FmOk C n F) {e : Expr} {W : WX} (h : EvX C F e W) (hs : notSetE e = true) : EvI C F e (fun st P => W st fun v => itemsV v P) := by
  refine ⟨folded_no hs, fun ad st s P Q E hW R k => h ad st s _ _ _ hW R fun w v h₁ t₁ hp g₁ r₁ => ?_⟩
  have R1 := R.grow ok g₁ (tk := t₁)
  unfold itemsV at hp
  split at hp
  · simp only [VR] at r₁
    obtain ⟨x, ws, rfl, hx, hpl, hi⟩ := r₁
    exact wpAny_pyIter_list hpl.isList (k _ _ _ t₁ hp (g₁.trans (.push ..)) ((itr_list ok.a.handled hx hpl (VRs.of_ints hi)).older g₁ R1.tb))
  · simp only [VR] at r₁
    obtain ⟨x, ws, rfl, hx, hpl, hi⟩ := r₁
    exact wpAny_pyIter_list hpl.isList (k _ _ _ t₁ hp (g₁.trans (.push ..)) ((itr_list ok.a.handled hx hpl hi).older g₁ R1.tb))
  · simp only [VR] at r₁
    obtain ⟨x, ws, rfl, hx, hpl, hi⟩ := r₁
    have ht : h₁.IsTuple x ws.toArray := by obtain ⟨k, e⟩ := hpl; exact ⟨_, e, rfl, k, rfl⟩
    exact wpAny_pyIter_tuple ht (k _ _ _ t₁ hp (g₁.trans (.push ..)) ((itr_tup ok.a.handled hx hpl hi).older g₁ R1.tb))
  · exact hp.elim
noncomputable def rangeL (a b c : Int) : List Int := (List.range (Builtin.Range.rangeSize a b c).toNat).map fun (j : Nat) => a + j * c
noncomputable def rangeT : List V → (List V → Prop) → Prop
  | [.int b], P => Builtin.Range.small 0 b 1 = true ∧ P ((rangeL 0 b 1).map V.int)
  | [.int a, .int b], P => Builtin.Range.small a b 1 = true ∧ P ((rangeL a b 1).map V.int)
  | [.int a, .int b, .int c], P => c ≠ 0 ∧ Builtin.divisionGoesByPylong (b - a) c = false ∧ Builtin.Range.small a b c = true ∧ P ((rangeL a b c).map V.int)
  | _, _ => False
theorem rangeSize_nonneg {a b c : Int} (hc : c ≠ 0) : 0 ≤ Builtin.Range.rangeSize a b c := by
  unfold Builtin.Range.rangeSize
  split <;> split
  · have : 0 ≤ (b - a - 1) / c := Int.ediv_nonneg (by (clear hc; lia)) (by (clear hc; lia))
    omega
  · exact Int.le_refl _
  · have : 0 ≤ (a - b - 1) / -c := Int.ediv_nonneg (by (clear hc; lia)) (by (clear hc; lia))
    omega
  · exact Int.le_refl _
theorem range_iter {A : Around} {E : Value → Shared → Prop} {U : List Addr} {Q : Value → Shared → Prop} {h : Heap} {t₁ : Nat} {a b c : Int} {t u v : Tok} {r : Addr} (hc : c ≠ 0) (hA : A.handled = none) (hr : IsRange h r a b c t u v) (hs : Builtin.Range.small a b c = true)
    (k : ∀ h', h.StaysIn h' → Itr C A U h h' (.ref h.objs.size) ((rangeL a b c).map V.int) → Q (.ref h.objs.size) { s with heap := h', toks := t₁ }) :
    wpAny (model C.prog C.w) A (pyIter (.ref r)) Q E { s with heap := h, toks := t₁ } := by
  refine wpAny_pyIter_range (s := { s with heap := h, toks := t₁ }) hr hs (k _ (stays_push _ _) ?_)
  have W := Walks.range (prog := C.prog) (w := C.w) hA h.objs.size a c (Builtin.Range.rangeSize a b c).toNat
  have e : ((rangeL a b c).map V.int).length = (Builtin.Range.rangeSize a b c).toNat := by simp [rangeL]
  rw [← e] at W
  have h0 := rangeSize_nonneg (a := a) (b := b) hc
  refine ⟨_, _, _, _, _, rfl, W, ?_, fun b hb => ?_, fun j h' hst b hb => ?_, fun b hb => .inl hb, fun j w hj hw => ?_⟩
  · show IsRangeIter _ _ (a + ((0 : Nat) : Int) * c) (((((rangeL a b c).map V.int).length : Nat) : Int) - ((0 : Nat) : Int)) c
    have e1 : a + ((0 : Nat) : Int) * c = a := by simp
    have e2 : ((((rangeL a b c).map V.int).length : Nat) : Int) - ((0 : Nat) : Int) = Builtin.Range.rangeSize a b c := by rw [e]; (clear hc hA hr hs k W e e1; lia)
    rw [e1, e2]; exact Heap.get?_push_size _ rfl
  · rw [List.mem_singleton.mp hb]; exact dead_size h
  · rw [List.mem_singleton.mp hb]; exact ⟨_, hst, fun _ _ => by show Value.type "range_iterator" ≠ Value.type "code"; decide⟩
  · obtain ⟨t, rfl⟩ := hw
    have hj' : j < (Builtin.Range.rangeSize a b c).toNat := by rw [e] at hj; exact hj
    refine ⟨.int (a + j * c), ?_, by simp [VR]⟩
    simp [rangeL, hj']
theorem EvI.range (ok : FmOk C n F) {x : Str} {args : List Expr} {p pos : Pos} {Wa : WXs} (g : GN C x (.type "range")) (hx : F.env.kindOf x = some .globalImplicit) (ha : EvXs C F args Wa) :
    EvI C F (.Call (.Name x p) args [] pos) (fun st P => Wa st fun vs => rangeT vs P) := by
  refine ⟨folded_no rfl, fun ad st s P Q E hW R k => ?_⟩
  refine call_name ok g hx (.inr (.inl ⟨_, rfl⟩)) ha hW R fun ws vs h₁ t₁ hT g₁ r₁ => ?_
  have R1 := R.grow ok g₁ (tk := t₁)
  have fin : ∀ (a b c : Int) (t u v : Tok) (tk : Nat), c ≠ 0 → Builtin.Range.small a b c = true → P ((rangeL a b c).map V.int) →
      wpAny (model C.prog C.w) F.A (pyIter (.ref h₁.objs.size)) Q E { s with heap := h₁.push { cls := .type "range", data := .fields #[.int a t, .int b u, .int c v] }, toks := tk } := by
    intro a b c t u v tk hc hs hP
    have g2 : Gr C h₁ (h₁.push { cls := .type "range", data := .fields #[.int a t, .int b u, .int c v] }) := .push ..
    refine range_iter (C := C) (U := F.U ad) hc ok.a.handled (IsRange.new h₁ a b c t u v) hs fun h' sy it => ?_
    exact k _ _ h' tk hP ((g₁.trans g2).trans (.of sy)) (it.older (g₁.trans g2) (g2.tb R1.tb))
  unfold rangeT at hT
  split at hT
  · simp only [VRs, VR] at r₁
    obtain ⟨w, ws', rfl, ⟨t, rfl⟩, rfl⟩ := r₁
    exact call_range_1 (fin _ _ _ _ _ _ _ (by decide) hT.1 hT.2)
  · simp only [VRs, VR] at r₁
    obtain ⟨w, ws', rfl, ⟨t, rfl⟩, w2, ws2, rfl, ⟨u, rfl⟩, rfl⟩ := r₁
    exact call_range_2 (fin _ _ _ _ _ _ _ (by decide) hT.1 hT.2)
  · simp only [VRs, VR] at r₁
    obtain ⟨w, ws', rfl, ⟨t, rfl⟩, w2, ws2, rfl, ⟨u, rfl⟩, w3, ws3, rfl, ⟨v, rfl⟩, rfl⟩ := r₁
    exact call_range_3 hT.1 (fin _ _ _ _ _ _ _ hT.1 hT.2.2.1 hT.2.2.2) (.inl hT.2.1)
  · exact hT.elim
noncomputable def revT : List V → (List V → Prop) → Prop
  | [.ints l], P => P (l.reverse.map V.int)
  | _, _ => False
theorem EvI.reversed (ok : FmOk C n F) {x : Str} {args : List Expr} {p pos : Pos} {Wa : WXs} (g : GN C x (.type "reversed")) (hx : F.env.kindOf x = some .globalImplicit) (ha : EvXs C F args Wa) :
    EvI C F (.Call (.Name x p) args [] pos) (fun st P => Wa st fun vs => revT vs P) := by
  refine ⟨folded_no rfl, fun ad st s P Q E hW R k => ?_⟩
  refine call_name ok g hx (.inr (.inl ⟨_, rfl⟩)) ha hW R fun ws vs h₁ t₁ hT g₁ r₁ => ?_
  have R1 := R.grow ok g₁ (tk := t₁)
  unfold revT at hT
  split at hT
  · simp only [VRs, VR] at r₁
    obtain ⟨w, ws', rfl, ⟨a, us, rfl, ha', hp, hi⟩, rfl⟩ := r₁
    rename_i l
    have hne : a ≠ h₁.objs.size := fun e => plainList_alive hp (e ▸ dead_size h₁)
    refine call_reversed_list hp.isList ?_
    have hrev : (h₁.push (revObj a ((us.toArray.size : Int) - 1))).IsRevIter h₁.objs.size a ((us.toArray.size : Int) - 1) := ⟨_, Heap.get?_push_size _ rfl, rfl, rfl⟩
    refine wpAny_pyIter_revIter (s := { s with heap := h₁.push (revObj a ((us.toArray.size : Int) - 1)), toks := t₁ }) hrev (k _ _ _ t₁ hT (g₁.trans (.push ..)) (Itr.older ?_ g₁ R1.tb))
    have W := Walks.listRev (prog := C.prog) (w := C.w) ok.a.handled h₁.objs.size a hne us.toArray
    have hlen := hi.length
    have e : us.toArray.size = (l.reverse.map V.int).length := by simp [hlen]
    rw [e] at W
    refine ⟨_, _, _, _, _, rfl, W, ⟨Nat.zero_le _, ?_, hp.isList.push _⟩, fun b hb => ?_, fun j h' hst b hb => ?_, fun b hb => ?_, fun j w hj hw => ?_⟩
    · have e2 : ((((l.reverse.map V.int).length : Nat) : Int) - 1 - ((0 : Nat) : Int)) = (us.toArray.size : Int) - 1 := by rw [e]; (clear ok g hx ha hW R k g₁ R1 hT ha' hp hi hne hrev W hlen e; lia)
      rw [e2]; exact hrev
    · rw [List.mem_singleton.mp hb]; exact dead_size h₁
    · rw [List.mem_singleton.mp hb]; obtain ⟨o, e, c, d⟩ := hst.2.1; exact ⟨o, e, fun _ _ => by rw [c]; decide⟩
    · rcases List.mem_cons.mp hb with rfl | hb
      · exact .inl (List.mem_singleton.mpr rfl)
      · rw [List.mem_singleton.mp hb]
        refine .inr ⟨ha', ?_⟩
        obtain ⟨k, e⟩ := hp; rw [Heap.get?_push_of_some _ e]; simp
    · have hj' : j < l.length := by simpa using hj
      have hw' : us[l.length - 1 - j]? = some w := by
        have : ((l.reverse.map V.int).length - 1 - j) = l.length - 1 - j := by simp
        rw [this] at hw
        simpa using hw
      obtain ⟨t, ht⟩ := ints_at hi (i := l.length - 1 - j) (by (clear ok g hx ha hW R k g₁ R1 hT ha' hp hi hne hrev W hlen e hj hw hw'; omega))
      rw [hw'] at ht; injection ht with ht; subst ht
      refine ⟨.int (l.getD (l.length - 1 - j) 0), ?_, by simp [VR]⟩
      rw [List.getElem?_map, List.getElem?_reverse hj']
      rw [List.getD_eq_getElem?_getD]
      have : l.length - 1 - j < l.length := by omega
      simp [this]
  · exact hT.elim
end
end Mine
end
section
open PySem PySem.Calls PyProof.Rows PySem.W PySem.Spec PySem.SeqAt
set_option Elab.async false
set_option maxRecDepth 10000
namespace Mine
section
variable {C : Cx} {F : Fm} {n : Nat} {ad : Ad} {st : List V} {s : Shared}
inductive Tgts (C : Cx) (F : Fm) : List (Value → Sem Unit) → List Nat → Prop where
  | nil : Tgts C F [] []
  | cons {f : Value → Sem Unit} {fs : List (Value → Sem Unit)} {i : Nat} {is : List Nat} {x : Str} : F.names[i]? = some x → StoreOk F x →
      (∀ w A s Q E, wpAny (model C.prog C.w) A (storeName F.env x w) Q E s → wpAny (model C.prog C.w) A (f w) Q E s) → Tgts C F fs is → Tgts C F (f :: fs) (i :: is)
noncomputable def setAll : List V → List Nat → List V → List V
  | st, i :: is, v :: vs => setAll (st.set i v) is vs
  | st, _, _ => st
theorem assign_many (ok : FmOk C n F) {A : Around} {E : Value → Shared → Prop} : ∀ {fs : List (Value → Sem Unit)} {is : List Nat}, Tgts C F fs is → ∀ {vs : List V} {ws : List Value} {ad : Ad} {st : List V} {s : Shared} {Q : Unit → Shared → Prop}, vs.length = is.length → Rep C F ad st s → VRs (F.U ad) s.heap vs ws →
    (∀ ad' h' tk, Rep C F ad' (setAll st is vs) { s with heap := h', toks := tk } → Stp C F ad s.heap ad' h' → Q () { s with heap := h', toks := tk }) → wpAny (model C.prog C.w) A (assignInOrder fs ws) Q E s := by
  intro fs is T
  induction T with
  | nil =>
    intro vs ws ad st s Q hl R hv k
    cases vs with
    | nil => simp only [VRs] at hv; subst hv; exact wpAny_pure (k ad s.heap s.toks R (.of (.refl ..)))
    | cons _ _ => simp at hl
  | @cons f fs i is x hi so hf T ih =>
    intro vs ws ad st s Q hl R hv k
    cases vs with
    | nil => simp at hl
    | cons v vs =>
      simp only [VRs] at hv
      obtain ⟨w, ws', rfl, hv1, hv2⟩ := hv
      show wpAny _ A (holding ws' (f w) >>= fun _ => assignInOrder fs ws') Q E s
      refine wpAny_bind (wpAny_holding (hf w A s _ _ (R.store ok hi so hv1 fun h' tk R' kp => ?_)))
      refine ih (by simpa using hl) R' (VRs.mono (fun b o hb e => kp b o (fun q => hb (List.mem_append_left _ q)) e) (fun b hb => .inl (U_drop b hb)) _ _ hv2) fun ad' h'' tk' R'' sp => ?_
      exact k ad' h'' tk' R'' (Stp.trans (.drop kp) sp fun a ha => R''.ownG ok ha)
theorem Tgts.name {x : Str} {p : Pos} {fs : List (Value → Sem Unit)} {is : List Nat} (i : Nat) (hi : F.names[i]? = some x) (so : StoreOk F x) (T : Tgts C F fs is) : Tgts C F (assign (.Name x p) F.env :: fs) (i :: is) :=
  .cons hi so (fun _ _ _ _ _ h => wpAny_assign_Name h) T
theorem Tgts.bindName {x : Str} {fs : List (Value → Sem Unit)} {is : List Nat} (i : Nat) (hi : F.names[i]? = some x) (so : StoreOk F x) (T : Tgts C F fs is) : Tgts C F (PySem.bindName F.env x :: fs) (i :: is) :=
  .cons hi so (fun _ _ _ _ _ h => wpAny_bindName h) T
noncomputable def unpackV (v : V) (k : Nat) (P : List V → Prop) : Prop := match v with
  | .tup l => l.length = k ∧ P l
  | .ints l => l.length = k ∧ P (l.map V.int)
  | .list l => l.length = k ∧ P l
  | _ => False
theorem gr_ext {h h' : Heap} (x : Heap.ExtBut h.objs.size h h') : Gr C h h' := .of fun b o e => x b o (Nat.ne_of_lt (Heap.lt_size e)) e
theorem unpack_sound {A : Around} {E : Value → Shared → Prop} {U : List Addr} {Q : List Value → Shared → Prop} {v : V} {w : Value} {k : Nat} {P : List V → Prop} (hA : A.handled = none) (gU : ∀ g ∈ C.G, g ∈ U) (hu : unpackV v k P) (r : VR U s.heap v w)
    (kk : ∀ ws vs h', vs.length = k → P vs → Gr C s.heap h' → VRs U h' vs ws → Q ws { s with heap := h' }) : wpAny (model C.prog C.w) A (unpackItems w k Option.none) Q E s := by
  unfold unpackV at hu
  split at hu
  · simp only [VR] at r
    obtain ⟨a, ws, rfl, ha, hp, hi⟩ := r
    have ht : s.heap.IsTuple a ws.toArray := by obtain ⟨k, e⟩ := hp; exact ⟨_, e, rfl, k, rfl⟩
    have e : k = ws.toArray.size := by rw [← hu.1]; simp [hi.length]
    rw [e]
    exact wpAny_unpackItems_tuple hA ht fun h' hx => kk _ _ h' hu.1 hu.2 (gr_ext hx) (by simpa using VRs.gr hi gU (gr_ext hx))
  · simp only [VR] at r
    obtain ⟨a, ws, rfl, ha, hp, hi⟩ := r
    have e : k = ws.toArray.size := by rw [← hu.1]; simp [hi.length]
    rw [e]
    exact kun_itemsOf hA hp.isList fun h' hx => kk _ _ h' (by simpa using hu.1) hu.2 (gr_ext hx) (by simpa using VRs.of_ints hi)
  · simp only [VR] at r
    obtain ⟨a, ws, rfl, ha, hp, hi⟩ := r
    have e : k = ws.toArray.size := by rw [← hu.1]; simp [hi.length]
    rw [e]
    exact kun_itemsOf hA hp.isList fun h' hx => kk _ _ h' hu.1 hu.2 (gr_ext hx) (by simpa using VRs.gr hi gU (gr_ext hx))
  · exact hu.elim
theorem swaps_sole {e t : Expr} {l : Nat} {env : Env} (h : notComp e = true) : swapsWithSole [t] e l env = pure false := swaps_no (t := some t) h
theorem ExS.unpack (ok : FmOk C n F) {elts : List Expr} {k : Nat} {tpos pos : Pos} {e : Expr} {W : WX} {is : List Nat} (h : EvX C F e W) (T : Tgts C F ((assignEach elts F.env).map (·.2)) is)
    (hst : (assignEach elts F.env).findIdx? (·.1) = Option.none) (hc : notComp e = true) (hw : swappedStores [.Tuple elts k tpos] e F.env = pure Option.none) :
    ExS C F (.Assign [.Tuple elts k tpos] e pos) (fun st P => W st fun v => unpackV v is.length fun vs => P .nxt (setAll st is vs)) := by
  intro ad st s P Q E hW R kk
  refine Assign_Tuple (h ad st s _ _ _ hW R fun w v h₁ t₁ hp g₁ r₁ => ?_) (swaps_sole hc) hw
  have R1 := R.grow ok g₁ (tk := t₁)
  have hlen : is.length = (assignEach elts F.env).length := by
    have : ∀ {fs : List (Value → Sem Unit)} {is : List Nat}, Tgts C F fs is → is.length = fs.length := by
      intro fs is t; induction t with
      | nil => rfl
      | cons _ _ _ _ ih => simp [ih]
    rw [this T]; simp
  show wpAny _ F.A (standAt tpos >>= fun _ => PySem.unpack w (assignEach elts F.env)) _ _ _
  refine wpAny_bind (wpAny_standAt ?_)
  unfold PySem.unpack
  rw [hst]
  refine wpAny_bind (wpAny_holding ?_)
  rw [← hlen]
  refine unpack_sound ok.a.handled R.UG hp r₁ fun ws vs h₂ hl hP g₂ r₂ => ?_
  refine assign_many ok T hl (R1.grow ok g₂ (tk := t₁)) r₂ fun ad' h' tk R' sp => ?_
  exact kk .nxt _ ad' h' tk .next hP (Stp.trans (.of (g₁.trans g₂)) sp fun a ha => R'.ownG ok ha) R' rfl
theorem ExS.swap (ok : FmOk C n F) {elts : List Expr} {k : Nat} {tpos pos : Pos} {e : Expr} {W : WX} {names : List Str} {is : List Nat} (h : EvX C F e W) (T : Tgts C F (names.reverse.map fun n => PySem.bindName F.env n) is)
    (hc : notComp e = true) (hw : swappedStores [.Tuple elts k tpos] e F.env = pure (some names)) :
    ExS C F (.Assign [.Tuple elts k tpos] e pos) (fun st P => W st fun v => unpackV v names.length fun vs => vs.reverse.length = is.length ∧ P .nxt (setAll st is vs.reverse)) := by
  intro ad st s P Q E hW R kk
  refine Assign_Tuple_swapped (h ad st s _ _ _ hW R fun w v h₁ t₁ hp g₁ r₁ => ?_) (swaps_sole hc) hw
  have R1 := R.grow ok g₁ (tk := t₁)
  refine unpack_sound ok.a.handled R.UG hp r₁ fun ws vs h₂ hl hP g₂ r₂ => ?_
  have rr : ∀ {vs : List V} {ws : List Value}, VRs (F.U ad) h₂ vs ws → VRs (F.U ad) h₂ vs.reverse ws.reverse := by
    intro vs
    induction vs with
    | nil => intro ws h; simp only [VRs] at h; subst h; simp [VRs]
    | cons v vs ih =>
      intro ws h
      simp only [VRs] at h
      obtain ⟨w, ws', rfl, h1, h2⟩ := h
      simp only [List.reverse_cons]
      exact VRs.append (ih h2) (by simp only [VRs]; exact ⟨w, [], rfl, h1, rfl⟩)
  refine assign_many ok T hP.1 (R1.grow ok g₂ (tk := t₁)) (rr r₂) fun ad' h' tk R' sp => ?_
  exact kk .nxt _ ad' h' tk .next hP.2 (Stp.trans (.of (g₁.trans g₂)) sp fun a ha => R'.ownG ok ha) R' rfl
end
end Mine
end
section
open PySem PySem.Calls PyProof.Rows PySem.W PySem.Spec PySem.SeqAt
set_option Elab.async false
set_option maxRecDepth 10000
namespace Mine
section
variable {C : Cx} {F : Fm} {n : Nat} {ad : Ad} {st : List V} {s : Shared}
theorem Rep.relist (R : Rep C F ad st s) (ok : FmOk C n F) {i : Nat} {x : Str} {a : Addr} {v : V} {h' : Heap} {tk : Nat} (hi : F.names[i]? = some x) (hm : (i, a) ∈ ad.m) (rd : Rd F.env s.heap x (.ref a))
    (hs : ∀ b, b ≠ a → ∀ o, s.heap.get? b = some o → h'.get? b = some o) (hp : OwnAt h' a)
    (hv : Rd F.env h' x (.ref a) → (∀ b o, b ∉ F.U ad → s.heap.get? b = some o → h'.get? b = some o) → VarOk F ad h' i x v) :
    Rep C F ad (st.set i v) { s with heap := h', toks := tk } ∧ Stp C F ad s.heap ad h' := by
  have ha : a ∈ F.own ad := mem_own_ad hm
  have nd := R.nd
  unfold Fm.own at nd
  rw [List.nodup_cons, List.nodup_append] at nd
  have ham : a ∈ ad.m.map (·.2) := List.mem_map.mpr ⟨(i, a), hm, rfl⟩
  have nL : F.env.locals ≠ a := fun e => nd.1 (e ▸ List.mem_append_right _ ham)
  have nC : ∀ c ∈ F.cells, c ≠ a := fun c hc e => nd.2.2.2 c hc a ham e
  have kU : ∀ b o, b ∉ F.U ad → s.heap.get? b = some o → h'.get? b = some o := fun b o hb e => hs b (fun q => hb (List.mem_append_left _ (q ▸ ha))) o e
  have rdk : ∀ y w, Rd F.env s.heap y w → Rd F.env h' y w := by
    intro y w r
    refine r.keep (fun o => hs _ nL o) (fun c hc o e => ?_) (fun o => hs _ (R.globals_ne ok ha) o)
    by_cases q : c = a
    · subst q
      exfalso
      obtain ⟨v, cc⟩ := R.ec c hc
      exact (R.ads (i, c) hm).notCell cc
    · exact hs c q o e
  have R' : Rep C F ad (st.set i .unb) { s with heap := h', toks := tk } := by
    refine (show Rep C F ad (st.set i .unb) s from { R with vars := ?_ }).change ok ha hs hp.alive ?_ ?_ ?_ ?_ ?_
    · intro j y u h1 h2
      by_cases hj : j = i
      · subst hj
        rw [List.getElem?_set_self'] at h2
        cases q : st[j]? with
        | none => rw [q] at h2; cases h2
        | some u => rw [q] at h2; simp at h2; subst h2; trivial
      · rw [List.getElem?_set_ne (Ne.symm hj)] at h2; exact R.vars j y u h1 h2
    · exact R.ns.imp fun _ y => y.at fun o e => hs _ nL o e
    · intro c hc; exact (R.cells c hc).imp fun _ y => IsCell.at y fun o e => hs c (nC c hc) o e
    · intro p hpm
      by_cases q : p.2 = a
      · rw [q]; exact hp
      · exact (R.ads p hpm).at fun o => hs _ q o
    · intro c hc
      obtain ⟨v, o, e, d⟩ := R.ec c hc
      refine ⟨v, o, hs c (fun q => ?_) o e, d⟩
      subst q
      exact (R.ads (i, c) hm).notCell ⟨o, e, d⟩
    · intro j y u h1 h2
      by_cases hj : j = i
      · subst hj
        rw [List.getElem?_set_self'] at h2
        cases q : st[j]? with
        | none => rw [q] at h2; cases h2
        | some u => rw [q] at h2; simp at h2; subst h2; trivial
      · rw [List.getElem?_set_ne (Ne.symm hj)] at h2
        have r := R.vars j y u h1 h2
        have na : ∀ b, (j, b) ∈ ad.m → b ≠ a := fun b hb e => hj (by have := Rep.freeze.nodup_snd nd.2.2.1 (e ▸ hb) hm; injection this)
        cases u with
        | unb => trivial
        | mints l => obtain ⟨b, us, e1, e2, e3, e4⟩ := r; exact ⟨b, us, e1, rdk _ _ e2, e3.at fun o => hs _ (na b e1) o, e4⟩
        | mlist l => obtain ⟨b, us, e1, e2, e3, e4⟩ := r; exact ⟨b, us, e1, rdk _ _ e2, e3.at fun o => hs _ (na b e1) o, VRs.mono kU (fun _ hb => .inl hb) _ _ e4⟩
        | mit b l => obtain ⟨w', p, e1, e2, e3, e4⟩ := r; exact ⟨w', p, e1, rdk _ _ e2, e3.at fun o => hs _ (na b e1) o, e4.mono kU (fun _ hb => .inl hb)⟩
        | _ => obtain ⟨w, e1, e2⟩ := r; exact ⟨w, rdk _ _ e1, VR.mono kU (fun _ hb => .inl hb) _ _ e2⟩
  refine ⟨?_, ⟨fun b o _ hb e => hs b (fun q => hb (q ▸ ha)) o e, fun _ h => .inl h, rfl⟩⟩
  have := R'.bind hi (v := v) (hv (rdk _ _ rd) kU)
  rw [List.set_set] at this
  exact this
theorem getMethod_list {A : Around} {E : Value → Shared → Prop} {name : Str} {id : String} {pl : Sem Bool} {l : Addr} {items : Array Value} {Q : Value × List Value → Shared → Prop} (slot : Slot "list" name id)
    (hty : typeOf (.builtin id) = pure (.type "method_descriptor")) (hl : s.heap.PlainList l items) (h : Q (.builtin id, [.ref l]) s) : wpAny (model C.prog C.w) A (getMethod (.ref l) name pl) Q E s :=
  getMethod_list_of slot hty hl.isList (by obtain ⟨k, e⟩ := hl; exact ⟨_, e, rfl⟩) h
noncomputable def appW (W : WX) (st : List V) (i : Nat) (P : V → Prop) : Prop := match getV st i with
  | .mints l => W st fun v => match v with | .int a => l.length < 2 ^ 24 ∧ P (.mints (l ++ [a])) | _ => False
  | .mlist l => W st fun v => l.length < 2 ^ 24 ∧ P (.mlist (l ++ [v]))
  | _ => False
theorem type_list_append : typeOf (.builtin "list.append") = pure (.type "method_descriptor") := by first | exact PySem.F.type_list_append | kernel_rfl
theorem type_list_reverse : typeOf (.builtin "list.reverse") = pure (.type "method_descriptor") := by first | exact PySem.F.type_list_reverse | kernel_rfl
theorem same_of {a : Addr} {h h' : Heap} (hs : Heap.SameBut a h h') : ∀ b, b ≠ a → ∀ o, h.get? b = some o → h'.get? b = some o := fun b hb o e => (hs.2 b hb).trans e
theorem interactive_no (ok : FmOk C n F) : interactive F.env = false := by unfold interactive; rw [ok.kind]; rfl
theorem ExS.append (ok : FmOk C n F) {x : Str} {p apos pos pos' : Pos} {arg : Expr} {W : WX} {pl : Sem Bool} (i : Nat) (hi : F.names[i]? = some x) (h : EvX C F arg W) (hs : notStar arg = true)
    (he : eval (.Call (.Attribute (.Name x p) (Str.ofString "append") apos) [arg] [] pos) F.env = (do
      let ov ← eval (.Name x p) F.env
      standAt apos.atName
      let (f, first) ← holding [ov] (getMethod ov (Str.ofString "append") pl)
      callWith pos f first (backTo pos (starEach [arg] F.env)) [])) :
    ExS C F (.Expr (.Call (.Attribute (.Name x p) (Str.ofString "append") apos) [arg] [] pos) pos') (fun st P => appW W st i fun u => P .nxt (st.set i u)) := by
  intro ad st s P Q E hW R k
  have hx := ok.names x (List.mem_of_getElem? hi)
  refine wpAny_Expr ?_ (interactive_no ok) (swaps_no rfl)
  have ev : (backTo pos (starEach [arg] F.env)) = (backTo pos (starEach (arg :: []) F.env)) := rfl
  have go : ∀ (a : Addr) (ws : List Value) (P' : V → Prop), (i, a) ∈ ad.m → Rd F.env s.heap x (.ref a) → s.heap.PlainList a ws.toArray → W st P' →
      (∀ w v h₁ t₁, P' v → Gr C s.heap h₁ → VR (F.U ad) h₁ v w → h₁.PlainList a ws.toArray → ws.length ≤ 2 ^ 24 ∧ ∀ h' : Heap, h'.PlainList a (ws ++ [w]).toArray → Heap.SameBut a h₁ h' → Q .next { s with heap := h', toks := t₁ }) →
      wpAny (model C.prog C.w) F.A (eval (.Call (.Attribute (.Name x p) (Str.ofString "append") apos) [arg] [] pos) F.env) (fun v s' => match v with | .ref _ => False | _ => Q .next s') E s := by
    intro a ws P' hm rd hp hW' kk
    refine MethodCall_ (pl := pl) (wpAny_Name (wp_load_rd ok.kind hx rd ?_) (okName_debug hx)) he
    refine getMethod_list slot_list_append type_list_append hp ?_
    refine callWith_method1 (first := [.ref a]) (args_cons (h ad st s _ _ _ hW' R fun w v h₁ t₁ hP g₁ r₁ => args_nil ?_) (starEach_cons hs)) (starEach_cons hs) rfl
    have hp₁ : h₁.PlainList a ws.toArray := hp.at fun o => g₁.keep a o (R.ownG ok (mem_own_ad hm))
    obtain ⟨hsz, hk⟩ := kk w v h₁ t₁ hP g₁ r₁ hp₁
    refine wpAny_list_append_plain (s := { s with heap := h₁, toks := t₁ }) hp₁ (fun h' hp' hs' => ?_) (by simpa [sizeLine] using hsz)
    exact hk h' (by simpa using hp') hs'
  unfold appW at hW
  split at hW
  · rename_i l hv
    obtain ⟨a, ws, e1, e2, e3, e4⟩ := R.mints hi hv
    refine go a ws _ e1 e2 e3 hW fun w v h₁ t₁ hP g₁ r₁ hp₁ => ?_
    split at hP
    · rename_i c
      simp only [VR] at r₁; obtain ⟨t, rfl⟩ := r₁
      refine ⟨by rw [e4.length]; (clear ok hi h hs he R k hx ev go hv hW e1 e2 e3 e4 g₁ hp₁; lia), fun h' hp' hs' => ?_⟩
      have R1 := R.grow ok g₁ (tk := t₁)
      obtain ⟨R2, sp⟩ := R1.relist ok (tk := t₁) (v := .mints (l ++ [c])) hi e1 (e2.gr ok (R.LG ok) g₁) (same_of hs') (.inl ⟨_, hp'⟩) fun rd _ => ⟨a, _, e1, rd, hp', IntsAre.append e4 (.cons c t .nil)⟩
      exact k .nxt _ ad h' t₁ _ hP.2 (Stp.trans (.of g₁) sp fun a ha => R2.ownG ok ha) R2 rfl
    · exact hP.elim
  · rename_i l hv
    obtain ⟨a, ws, e1, e2, e3, e4⟩ := R.mlist hi hv
    refine go a ws _ e1 e2 e3 hW fun w v h₁ t₁ hP g₁ r₁ hp₁ => ?_
    refine ⟨by rw [e4.length]; (clear ok hi h hs he R k hx ev go hv hW e1 e2 e3 e4 g₁ r₁ hp₁; lia), fun h' hp' hs' => ?_⟩
    have R1 := R.grow ok g₁ (tk := t₁)
    obtain ⟨R2, sp⟩ := R1.relist ok (tk := t₁) (v := .mlist (l ++ [v])) hi e1 (e2.gr ok (R.LG ok) g₁) (same_of hs') (.inl ⟨_, hp'⟩) fun rd kU => ⟨a, _, e1, rd, hp',
      VRs.append (VRs.mono kU (fun _ hb => .inl hb) _ _ (e4.gr R.UG g₁)) (by simp only [VRs]; exact ⟨w, [], rfl, VR.mono kU (fun _ hb => .inl hb) _ _ r₁, rfl⟩)⟩
    exact k .nxt _ ad h' t₁ _ hP.2 (Stp.trans (.of g₁) sp fun a ha => R2.ownG ok ha) R2 rfl
  · exact hW.elim
theorem ExS.reverse (ok : FmOk C n F) {x : Str} {p apos pos pos' : Pos} {pl : Sem Bool} (i : Nat) (hi : F.names[i]? = some x)
    (he : eval (.Call (.Attribute (.Name x p) (Str.ofString "reverse") apos) [] [] pos) F.env = (do
      let ov ← eval (.Name x p) F.env
      standAt apos.atName
      let (f, first) ← holding [ov] (getMethod ov (Str.ofString "reverse") pl)
      callWith pos f first (backTo pos (starEach [] F.env)) [])) :
    ExS C F (.Expr (.Call (.Attribute (.Name x p) (Str.ofString "reverse") apos) [] [] pos) pos') (fun st P => match getV st i with | .mints l => l.length ≤ 2 ^ 24 ∧ P .nxt (st.set i (.mints l.reverse)) | _ => False) := by
  intro ad st s P Q E hW R k
  have hx := ok.names x (List.mem_of_getElem? hi)
  refine wpAny_Expr ?_ (interactive_no ok) (swaps_no rfl)
  split at hW
  · rename_i l hv
    obtain ⟨a, ws, e1, e2, e3, e4⟩ := R.mints hi hv
    refine MethodCall_ (pl := pl) (wpAny_Name (wp_load_rd ok.kind hx e2 ?_) (okName_debug hx)) he
    refine getMethod_list PySem.F.slot_list_reverse type_list_reverse e3 ?_
    obtain ⟨m, e3⟩ := e3
    refine PySem.P.reverse_list e3 ?_ (by simpa [sizeLine, e4.length] using hW.1)
    have hp' : (s.heap.update a (Obj.mapSeq fun x => x.reverse)).PlainList a ws.reverse.toArray := by
      refine ⟨m, ?_⟩
      rw [Heap.get?_update_self _ e3 rfl]
      simp [Obj.mapSeq]
    have rv : ∀ {us : List Value} {ns : List Int}, IntsAre us ns → IntsAre us.reverse ns.reverse := by
      intro us ns h; induction h with
      | nil => exact .nil
      | cons m t h ih => simp only [List.reverse_cons]; exact IntsAre.append ih (.cons m t .nil)
    obtain ⟨R2, sp⟩ := R.relist ok (tk := s.toks) (v := .mints l.reverse) hi e1 e2 (same_of (Heap.SameBut.update ..)) (.inl ⟨_, hp'⟩) fun rd _ => ⟨a, _, e1, rd, hp', rv e4⟩
    exact k .nxt _ ad _ s.toks _ hW.2 sp R2 rfl
  · exact hW.elim
theorem IntsAre.set {us : List Value} {ns : List Int} (h : IntsAre us ns) : ∀ (j : Nat) (c : Int) (t : Tok), IntsAre (us.set j (.int c t)) (ns.set j c) := by
  induction h with
  | nil => intro j c t; exact .nil
  | cons m u h ih =>
    intro j c t
    cases j with
    | zero => exact .cons c t h
    | succ j => exact .cons m u (ih j c t)
noncomputable def augSubW (W1 W2 : WX) (op : Operator) (st : List V) (i : Nat) (P : V → Prop) : Prop := match getV st i with
  | .mints l => W1 st fun j => match j with
      | .int j => 0 ≤ j ∧ j.toNat < l.length ∧ j < 2 ^ 62 ∧ W2 st fun v => augV op (.int (l.getD j.toNat 0)) v fun u => match u with | .int c => P (.mints (l.set j.toNat c)) | _ => False
      | _ => False
  | _ => False
end
end Mine
end
section
open PySem PySem.Calls PyProof.Rows PySem.W PySem.Spec PySem.SeqAt
set_option Elab.async false
set_option maxRecDepth 10000
namespace Mine
section
variable {C : Cx} {n : Nat}
theorem bindL_other {kf : Str → Option NameKind} : ∀ (binds : List (Str × Value)) (m : Str → Option Value) (x : Str), x ∉ binds.map (·.1) → bindL kf binds m x = m x
  | [], _, _, _ => rfl
  | (y, v) :: r, m, x, h => by
    simp only [List.map_cons, List.mem_cons, not_or] at h
    unfold bindL
    rw [bindL_other r _ x h.2]
    split
    · simp only [if_neg h.1]
    · rfl
theorem bindC_other {kf : Str → Option NameKind} : ∀ (binds : List (Str × Value)) (m : Str → Option Value) (x : Str), x ∉ binds.map (·.1) → bindC kf binds m x = m x
  | [], _, _, _ => rfl
  | (y, v) :: r, m, x, h => by
    simp only [List.map_cons, List.mem_cons, not_or] at h
    unfold bindC
    rw [bindC_other r _ x h.2]
    split
    · rfl
    · simp only [if_neg h.1]
theorem bindL_mem {kf : Str → Option NameKind} : ∀ (binds : List (Str × Value)) (m : Str → Option Value) {x : Str} {w : Value}, (binds.map (·.1)).Nodup → (x, w) ∈ binds → kf x = some .local → bindL kf binds m x = some w := by
  intro binds
  induction binds with
  | nil => intro m x w _ hm; cases hm
  | cons p r ih =>
    intro m x w nd hm hk
    rw [List.map_cons, List.nodup_cons] at nd
    unfold bindL
    rcases List.mem_cons.mp hm with e | hm
    · subst e
      rw [bindL_other r _ x nd.1, if_pos hk]; simp
    · exact ih _ nd.2 hm hk
theorem bindC_mem {kf : Str → Option NameKind} : ∀ (binds : List (Str × Value)) (m : Str → Option Value) {x : Str} {w : Value}, (binds.map (·.1)).Nodup → (x, w) ∈ binds → kf x = some .cell → bindC kf binds m x = some w := by
  intro binds
  induction binds with
  | nil => intro m x w _ hm; cases hm
  | cons p r ih =>
    intro m x w nd hm hk
    rw [List.map_cons, List.nodup_cons] at nd
    unfold bindC
    rcases List.mem_cons.mp hm with e | hm
    · subst e
      rw [bindC_other r _ x nd.1, if_neg (by rw [hk]; simp)]; simp
    · exact ih _ nd.2 hm hk
noncomputable def fnFm (A : Around) (fd : FuncData) (f L : Addr) (h₀ : Heap) (names : List Str) : Fm :=
  { A := A.deeper (callEnvC fd L f), env := callEnvC fd L f, h₀ := h₀, cells := (cellsFrom (L + 1) fd.scope.names []).map (·.2), names := names }
noncomputable def retP (P : V → Prop) : Out → List V → Prop
  | .ret v, _ => P v
  | .nxt, _ => P .none
  | _, _ => False
theorem zip_mem {xs : List Str} {ws : List Value} {i : Nat} {x : Str} {w : Value} (h1 : xs[i]? = some x) (h2 : ws[i]? = some w) : (x, w) ∈ xs.zip ws := by
  refine List.mem_of_getElem? (i := i) ?_
  rw [List.getElem?_zip_eq_some]; exact ⟨h1, h2⟩
structure FnOk (C : Cx) (f : Addr) (fd : FuncData) (body : List Stmt) (k : Nat) (names : List Str) : Prop where
  at_ : ∃ oc od osl, C.K.lookup f = some ⟨oc, od, .func fd, osl⟩
  code : codeIn C.K fd.code fd.qualname = true
  body : fd.body = .stmts body
  clo : fd.closure = []
  glob : fd.globals = mainGlobals
  blt : fd.builtins = builtinsNs
  kind : fd.scope.kind = .function
  co : fd.scope.isCoroutine = false
  gen : fd.scope.isGenerator = false
  bind : ∀ ws : List Value, ws.length = k → bindArgs fd ⟨ws, []⟩ = pure ((names.take k).zip ws)
  kinds : ∀ m, ∀ x ∈ names.take k, fd.scope.names.lookup x = some .local ∨ (fd.scope.names.lookup x = some .cell ∧ ((cellsFrom m fd.scope.names []).lookup x).isSome = true)
  len : k ≤ names.length
  okn : ∀ x ∈ names, okName x = true
  nodup : names.Nodup
  cnames : ((cellsFrom 0 fd.scope.names []).map (·.1)).Nodup
theorem pairwise_nodup {l : List (Str × Addr)} (h : l.Pairwise fun x y => x.2 ≠ y.2) : (l.map (·.2)).Nodup := by
  induction h with
  | nil => exact List.nodup_nil
  | cons h1 _ ih => rw [List.map_cons, List.nodup_cons]; exact ⟨fun q => by obtain ⟨p, hp, e⟩ := List.mem_map.mp q; exact h1 p hp e.symm, ih⟩
noncomputable def PCA (Z : Around → Prop) (C : Cx) (n : Nat) (f : Value) (T : List V → (V → Prop) → Prop) : Prop :=
  ∀ (A : Around) (U : List Addr) (s : Shared) (vs : List V) (ws : List Value) (P : V → Prop) (Q : Value → Shared → Prop) (E : Value → Shared → Prop),
    Z A → AOk n A → Wd C s.heap → C.Tb s.heap → (∀ u ∈ U, s.heap.get? u ≠ none) → (∀ g ∈ C.G, g ∈ U) → VRs U s.heap vs ws → T vs P →
    (∀ w v h' tk, P v → Gr C s.heap h' → VR U h' v w → Q w { s with heap := h', toks := tk }) → wpAny (model C.prog C.w) A (call f ws) Q E s
theorem PCA.fn {Z : Around → Prop} {f : Addr} {fd : FuncData} {body : List Stmt} {k : Nat} {names : List Str} {W : WS} (ok : FnOk C f fd body k names)
    (hb : ∀ A L h₀, Z A → FmOk C n (fnFm A fd f L h₀ names) → ExB C (fnFm A fd f L h₀ names) body W) :
    PCA Z C (n + 1) (.ref f) (fun vs P => vs.length = k ∧ W (vs ++ List.replicate (names.length - k) .unb) (retP P)) := by
  intro A U s vs ws P Q E hZ hA wd tb al gU r hT kk
  obtain ⟨hlen, hW⟩ := hT
  obtain ⟨oc, od, osl, hlk⟩ := ok.at_
  have hwl : ws.length = k := by rw [r.length]; exact hlen
  refine wpAny_call (codeAny_call_cells (by have := hA.depth; simp only [recursionLimit]; (clear ok hb hZ hA wd tb al gU r kk hlen hW hlk hwl; lia)) (wd.inK _ _ hlk) rfl wd.nl (codeRec_of wd.inK ok.code) ok.body (ok.bind ws hwl) ok.clo (fun x hx => ?_) (fun s₁ IC => ?_) ok.co ok.gen ok.kind)
  · have hm : x.1 ∈ names.take k := by
      have := List.of_mem_zip (a := x.1) (b := x.2) hx
      exact this.1
    exact ok.kinds _ x.1 hm
  obtain ⟨h₁, tk, rfl⟩ := IC.toInCall.same
  have hL : (callEnvC fd s.heap.objs.size f).locals = s.heap.objs.size := rfl
  have hcel : (callEnvC fd s.heap.objs.size f).cells = cellsFrom (s.heap.objs.size + 1) fd.scope.names [] := rfl
  have sy : s.heap.StaysIn h₁ := IC.toInCall.keep
  have dead : ∀ a, s.heap.objs.size ≤ a → s.heap.get? a = none := fun a ha => by
    cases q : s.heap.get? a with
    | none => rfl
    | some o => exact absurd (Heap.lt_size q) (Nat.not_lt.mpr ha)
  have cab : ∀ c ∈ (cellsFrom (s.heap.objs.size + 1) fd.scope.names []).map (·.2), s.heap.objs.size < c := fun c hc => by
    obtain ⟨⟨y, d⟩, hp, rfl⟩ := List.mem_map.mp hc
    exact IC.above y d hp
  have cdead : ∀ c ∈ (cellsFrom (s.heap.objs.size + 1) fd.scope.names []).map (·.2), s.heap.get? c = none := fun c hc => dead c (Nat.le_of_lt (cab c hc))
  have cnd : ((cellsFrom (s.heap.objs.size + 1) fd.scope.names []).map (·.2)).Nodup := pairwise_nodup IC.apart
  have cis : ∀ c ∈ (cellsFrom (s.heap.objs.size + 1) fd.scope.names []).map (·.2), ∃ v, h₁.IsCell c v := fun c hc => by
    obtain ⟨⟨y, d⟩, hp, rfl⟩ := List.mem_map.mp hc
    exact ⟨_, IC.cell y d (lookup_of_mem_nodup (cellsFrom_names fd.scope.names 0 (s.heap.objs.size + 1) [] [] rfl ▸ ok.cnames) hp)⟩
  have hFok : FmOk C n (fnFm A fd f s.heap.objs.size s.heap names) := {
    kind := ok.kind
    globals := ok.glob
    builtins := ok.blt
    wd := wd
    a := ⟨hA.handled, by have := hA.depth; show A.depth + 1 + n ≤ 990; (clear ok hb hZ hA wd tb al gU r kk hlen hW hlk hwl IC hL hcel sy dead cab cdead cnd cis; lia), by have := hA.units; show A.units + 3 + 10 * n ≤ 9800; (clear ok hb hZ hA wd tb al gU r kk hlen hW hlk hwl IC hL hcel sy dead cab cdead cnd cis; lia)⟩
    names := ok.okn
    nodup := ok.nodup
    cl := fun q => Nat.lt_irrefl _ (cab _ q)
    cn := cnd
    cG := fun c hc q => al c (gU c q) (cdead c hc) }
  have ownd : ∀ a ∈ (fnFm A fd f s.heap.objs.size s.heap names).own ⟨[], U⟩, s.heap.get? a = none := by
    intro a ha
    rcases List.mem_cons.mp ha with e | ha
    · exact dead a (Nat.le_of_eq (e ▸ rfl))
    · rcases List.mem_append.mp ha with ha | ha
      · exact cdead a ha
      · cases ha
  have R : Rep C (fnFm A fd f s.heap.objs.size s.heap names) ⟨[], U⟩ (vs ++ List.replicate (names.length - k) .unb) { s with heap := h₁, toks := tk } := {
    stays := fun b o _ e => sy b o e
    tb := C.stays _ _ tb sy
    ns := ⟨_, IC.toInCall.ns⟩
    cells := cis
    ads := fun p hp => by cases hp
    gU := gU
    ec := cis
    fresh := ownd
    ux := fun u hu => by
      cases q : s.heap.get? u with
      | none => exact absurd q (al u hu)
      | some o => show h₁.get? u ≠ none; rw [sy u o q]; simp
    apart := fun a ha hu => al a hu (ownd a ha)
    nd := by
      show ((s.heap.objs.size) :: ((cellsFrom (s.heap.objs.size + 1) fd.scope.names []).map (·.2) ++ [])).Nodup
      rw [List.append_nil, List.nodup_cons]
      exact ⟨fun q => Nat.lt_irrefl _ (cab _ q), cnd⟩
    vars := fun i x v h1 h2 => by
      by_cases hi : i < vs.length
      · rw [List.getElem?_append_left hi] at h2
        obtain ⟨w, hw, hvr⟩ := r.get h2
        have h1' : (names.take k)[i]? = some x := by rw [List.getElem?_take_of_lt (by (clear ok hb hZ hA wd tb al gU r kk hW hlk IC hL hcel sy dead cab cdead cnd cis hFok ownd h1 h2 hw hvr; lia))]; exact h1
        have hz : (x, w) ∈ (names.take k).zip ws := zip_mem h1' hw
        have hnd : (((names.take k).zip ws).map (·.1)).Nodup := by
          rw [List.map_fst_zip (by rw [List.length_take]; (clear ok hb hZ hA wd tb al gU r kk hlen hW hlk IC hL hcel sy dead cab cdead cnd cis hFok ownd h1 h2 hi hw hvr h1' hz; lia))]
          exact ok.nodup.sublist (List.take_sublist _ _)
        refine VarOk.of (w := w) ?_ (VR.mono (fun b o _ e => sy b o e) (fun b hb => ?_) v w hvr)
        · rcases ok.kinds (s.heap.objs.size + 1) x (List.mem_of_getElem? h1') with hk | ⟨hk, hc⟩
          · have hk' : (callEnvC fd s.heap.objs.size f).kindOf x = some .local := hk
            show Rd (callEnvC fd s.heap.objs.size f) h₁ x w
            unfold Rd; rw [hk']
            exact ⟨_, IC.toInCall.ns, bindL_mem _ _ hnd hz hk'⟩
          · have hk' : (callEnvC fd s.heap.objs.size f).kindOf x = some .cell := hk
            show Rd (callEnvC fd s.heap.objs.size f) h₁ x w
            unfold Rd; rw [hk']
            obtain ⟨c, hc⟩ := Option.isSome_iff_exists.mp hc
            have := IC.cell x c hc
            rw [bindC_mem _ _ hnd hz hk'] at this
            exact ⟨c, hc, this⟩
        · rcases List.mem_append.mp hb with hb | hb
          · exact .inr (ownd b hb)
          · exact .inl hb
      · rw [List.getElem?_append_right (by (clear ok hb hZ hA wd tb al gU r kk hW hlk IC hL hcel sy dead cab cdead cnd cis hFok ownd h1 h2; lia))] at h2
        rw [List.getElem?_replicate] at h2
        split at h2
        · injection h2 with h2; subst h2; trivial
        · cases h2 }
  refine hb A s.heap.objs.size s.heap hZ hFok ⟨[], U⟩ _ _ _ _ _ hW R fun o st' ad' h' tk' fl hp sp R' hf => ?_
  have g : Gr C s.heap h' := ⟨fun b o hg e => R'.stays b o hg e, fun _ => R'.tb⟩
  have hU : ∀ b ∈ U, b ∈ (fnFm A fd f s.heap.objs.size s.heap names).U ad' := fun b hb => List.mem_append_right _ (by rw [sp.ux]; exact hb)
  cases o with
  | ret v => simp only [FlowIs] at hf; obtain ⟨w, rfl, hv⟩ := hf; exact kk w v h' tk' hp g (hv.weaken hU)
  | nxt => simp only [FlowIs] at hf; subst hf; exact kk .none .none h' tk' hp g (by simp [VR])
  | brk => exact hp.elim
  | cnt => exact hp.elim
theorem PC.fn {f : Addr} {fd : FuncData} {body : List Stmt} {k : Nat} {names : List Str} {W : WS} (ok : FnOk C f fd body k names)
    (hb : ∀ A L h₀, FmOk C n (fnFm A fd f L h₀ names) → ExB C (fnFm A fd f L h₀ names) body W) :
    PC C (n + 1) (.ref f) (fun vs P => vs.length = k ∧ W (vs ++ List.replicate (names.length - k) .unb) (retP P)) :=
  fun A U s vs ws P Q E hA => PCA.fn (Z := fun _ => True) ok (fun A L h₀ _ okF => hb A L h₀ okF) A U s vs ws P Q E trivial hA
theorem PCA.mono {Z : Around → Prop} {f : Value} {T T' : List V → (V → Prop) → Prop} (x : PCA Z C n f T) (h : ∀ vs P, T' vs P → T vs P) : PCA Z C n f T' :=
  fun A U s vs ws P Q E z a wd tb al gU r hT k => x A U s vs ws P Q E z a wd tb al gU r (h vs P hT) k
end
end Mine
end
section
open PySem PySem.Calls PyProof.Rows PySem.W PySem.Spec PySem.SeqAt
set_option Elab.async false
set_option maxRecDepth 10000
namespace Mine
section
variable {C : Cx} {F : Fm} {n : Nat} {ad : Ad} {st : List V} {s : Shared}
theorem EvX.gint (ok : FmOk C n F) {x : Str} {pos : Pos} {v : Int} {t : Tok} (g : GN C x (.int v t)) (hx : F.env.kindOf x = some .globalImplicit) : EvX C F (.Name x pos) (fun _ P => P (.int v)) := by
  intro ad st s P Q E hP R k
  exact name_gn ok.kind ok.globals ok.builtins hx (R.wd ok) g (k _ _ s.heap s.toks hP (.refl ..) (by simp [VR]))
theorem PC.mono {f : Value} {T T' : List V → (V → Prop) → Prop} (x : PC C n f T) (h : ∀ vs P, T' vs P → T vs P) : PC C n f T' :=
  fun A U s vs ws P Q E a wd tb al gU r hT k => x A U s vs ws P Q E a wd tb al gU r (h vs P hT) k
theorem len_s {α : Type} {ws : List α} {k : Nat} (h : ws.length = k + 1) : ∃ a r, ws = a :: r ∧ r.length = k := by
  cases ws with
  | nil => cases h
  | cons a r => exact ⟨a, r, rfl, Nat.succ.inj h⟩
theorem len5 {α : Type} {ws : List α} {k : Nat} (h : ws.length = k + 5) : ∃ a b c d e r, ws = a :: b :: c :: d :: e :: r ∧ r.length = k := by
  obtain ⟨a, r, rfl, h1⟩ := len_s h
  obtain ⟨b, r, rfl, h2⟩ := len_s h1
  obtain ⟨c, r, rfl, h3⟩ := len_s h2
  obtain ⟨d, r, rfl, h4⟩ := len_s h3
  obtain ⟨e, r, rfl, h5⟩ := len_s h4
  exact ⟨a, b, c, d, e, r, rfl, h5⟩
theorem len_z {α : Type} {ws : List α} (h : ws.length = 0) : ws = [] := List.length_eq_zero_iff.mp h
noncomputable def defAt (p : Program) (i : Nat) : Stmt := p.main.body.getD i (.Pass ⟨0, 0, 0, 0⟩)
noncomputable def bodyOf : Stmt → List Stmt
  | .FunctionDef _ _ b _ _ _ _ _ _ _ => b
  | _ => []
noncomputable def scopeOf : Stmt → Scope
  | .FunctionDef _ _ _ _ _ _ sc _ _ _ => sc
  | _ => { kind := .function, names := [], isGenerator := false, isCoroutine := false }
noncomputable def fnAt (K : Frag) (f : Addr) : FuncData := match K.lookup f with
  | some ⟨_, _, .func fd, _⟩ => fd
  | _ => { name := "", qualname := "", params := ⟨[], [], none, [], [], none, []⟩, body := .stmts [], scope := { kind := .function, names := [], isGenerator := false, isCoroutine := false }, globals := 0, closure := [], defaults := .none, kwdefaults := .none }
noncomputable def storesOk (fd : FuncData) (names : List Str) : Bool := names.all fun x => fd.scope.names.lookup x == some .local || (fd.scope.names.lookup x == some .cell && ((cellsFrom 0 fd.scope.names []).lookup x).isSome)
theorem cellsFrom_isSome {x : Str} : ∀ (names : List (Str × NameKind)) (n m : Nat) (acc acc' : List (Str × Addr)), (acc.lookup x).isSome = (acc'.lookup x).isSome → ((cellsFrom n names acc).lookup x).isSome = ((cellsFrom m names acc').lookup x).isSome
  | [], _, _, _, _, h => h
  | (y, k) :: r, n, m, acc, acc', h => by
    unfold cellsFrom
    split
    · refine cellsFrom_isSome r _ _ _ _ ?_
      rw [List.lookup_cons, List.lookup_cons]
      split
      · rfl
      · exact h
    · exact cellsFrom_isSome r _ _ _ _ h
theorem stores_of {A : Around} {fd : FuncData} {f L : Addr} {h₀ : Heap} {names : List Str} (h : storesOk fd names = true) : ∀ x ∈ names, StoreOk (fnFm A fd f L h₀ names) x := by
  intro x hx
  have := List.all_eq_true.mp h x hx
  rcases Bool.or_eq_true_iff.mp this with q | q
  · exact .inl (beq_iff_eq.mp q)
  · obtain ⟨q1, q2⟩ := Bool.and_eq_true_iff.mp q
    rw [cellsFrom_isSome fd.scope.names 0 (L + 1) [] [] rfl] at q2
    obtain ⟨c, hc⟩ := Option.isSome_iff_exists.mp q2
    exact .inr ⟨beq_iff_eq.mp q1, c, List.mem_map_of_mem (lookup_mem hc), hc⟩
theorem kinds_of {fd : FuncData} {names : List Str} (h : storesOk fd names = true) (k : Nat) : ∀ m, ∀ x ∈ names.take k, fd.scope.names.lookup x = some .local ∨ (fd.scope.names.lookup x = some .cell ∧ ((cellsFrom m fd.scope.names []).lookup x).isSome = true) := by
  intro m x hx
  have := List.all_eq_true.mp h x (List.mem_of_mem_take hx)
  rcases Bool.or_eq_true_iff.mp this with q | q
  · exact .inl (beq_iff_eq.mp q)
  · obtain ⟨q1, q2⟩ := Bool.and_eq_true_iff.mp q
    rw [cellsFrom_isSome fd.scope.names 0 m [] [] rfl] at q2
    exact .inr ⟨beq_iff_eq.mp q1, q2⟩
end
end Mine
end
section
open PySem PySem.Calls PyProof.Rows PySem.W PySem.Spec PySem.SeqAt
set_option Elab.async false
namespace Mine
noncomputable abbrev wName (i : Nat) : WX := fun st P => (getV st i).plain ∧ P (getV st i)
noncomputable abbrev wInt (i : Int) : WX := fun _ P => P (.int i)
noncomputable abbrev wBool (b : Bool) : WX := fun _ P => P (.bool b)
noncomputable abbrev wNone : WX := fun _ P => P .none
noncomputable abbrev wBin (op : Operator) (W1 W2 : WX) : WX := fun st P => W1 st fun a => W2 st fun b => binV op a b P
noncomputable abbrev wCmp (op : CmpOp) (W1 W2 : WX) : WX := fun st P => W1 st fun a => W2 st fun b => cmpV op a b P
noncomputable abbrev wUn (op : UnaryOp) (W1 : WX) : WX := fun st P => W1 st fun a => unV op a P
noncomputable abbrev wNil : WXs := fun _ P => P []
noncomputable abbrev wCons (W1 : WX) (W2 : WXs) : WXs := fun st P => W1 st fun v => W2 st fun vs => P (v :: vs)
noncomputable abbrev wCall (T : List V → (V → Prop) → Prop) (Wa : WXs) : WX := fun st P => Wa st fun vs => T vs P
noncomputable abbrev wBitLen (W1 : WX) : WX := fun st P => W1 st fun v => match v with | .int a => P (.int (Builtin.Int.intBits a)) | _ => False
noncomputable abbrev wTup (Wa : WXs) : WX := fun st P => Wa st fun vs => vs.length ≤ 2 ^ 24 ∧ P (.tup vs)
noncomputable abbrev wLst (Wa : WXs) : WX := fun st P => Wa st fun vs => vs.length ≤ 2 ^ 24 ∧ P (listV vs)
noncomputable abbrev wSub (W1 W2 : WX) : WX := fun st P => W1 st fun a => W2 st fun b => subV a b P
noncomputable abbrev wSubM (i : Nat) (W2 : WX) : WX := fun st P => match getV st i with | .mints l => W2 st fun b => subV (.ints l) b P | _ => False
noncomputable abbrev wLenM (i : Nat) : WX := fun st P => match getV st i with | .mints l => l.length < 2 ^ 62 ∧ P (.int l.length) | .mlist l => l.length < 2 ^ 62 ∧ P (.int l.length) | _ => False
noncomputable abbrev pNone : WP := fun _ P => P Option.none
noncomputable abbrev pSome (W1 : WX) : WP := fun st P => W1 st fun v => intPart v P
noncomputable abbrev wCut (W1 : WX) (W2 W3 W4 : WP) : WX := fun st P => W1 st fun a => W2 st fun l => W3 st fun u => W4 st fun c => cutV a l u c P
noncomputable abbrev cCmp (op : CmpOp) (W1 W2 : WX) : WC := fun st P => W1 st fun a => W2 st fun b => cmpV op a b fun c => match c with | .bool x => P x | _ => False
noncomputable abbrev cPlain (W1 : WX) : WC := fun st P => W1 st fun a => trV a P
noncomputable abbrev iSeq (W : WX) : WXs := fun st P => W st fun v => itemsV v P
noncomputable abbrev iRange (Wa : WXs) : WXs := fun st P => Wa st fun vs => rangeT vs P
noncomputable abbrev iRev (Wa : WXs) : WXs := fun st P => Wa st fun vs => revT vs P
noncomputable abbrev bNil : WS := fun st P => P .nxt st
noncomputable abbrev bCons (W1 W2 : WS) : WS := fun st P => W1 st (seqP W2 P)
noncomputable abbrev sFrz (i : Nat) (W : WS) : WS := fun st P => W (frz i st) P
noncomputable abbrev sWiden (i : Nat) (W : WS) : WS := fun st P => W (st.set i (getV st i).wide) P
noncomputable abbrev sAssign (i : Nat) (W : WX) : WS := fun st P => W st fun v => P .nxt (st.set i v)
noncomputable abbrev sAssignM (i : Nat) (W : WX) : WS := fun st P => W st fun v => thawV v fun u => P .nxt (st.set i u)
noncomputable abbrev sAug (i : Nat) (op : Operator) (W : WX) : WS := fun st P => (getV st i).plain ∧ W st fun v => augV op (getV st i) v fun u => P .nxt (st.set i u)
noncomputable abbrev sIte (W : WC) (W1 W2 : WS) : WS := fun st P => W st fun c => (c = true → W1 st P) ∧ (c = false → W2 st P)
noncomputable abbrev sRet (W : WX) : WS := fun st P => W st fun v => P (.ret v) st
noncomputable abbrev sRetNone : WS := fun st P => P (.ret .none) st
noncomputable abbrev sNever : WS := fun _ _ => False
noncomputable abbrev sWhile (W : WC) (W1 : WS) : WS := fun st P => ∃ I : Nat → List V → Prop, (∃ m, I m st) ∧ ∀ m st, I m st → W st fun c => (c = true → W1 st (whileP m I P)) ∧ (c = false → P .nxt st)
noncomputable abbrev sFor (i : Nat) (W : WXs) (W1 : WS) : WS := fun st P => W st fun vs => ∃ I : Nat → List V → Prop, I 0 st ∧ (∀ j v st, vs[j]? = some v → I j st → W1 (st.set i v) (loopP I j P)) ∧ (∀ st, I vs.length st → P .nxt st)
noncomputable abbrev sUnpack (is : List Nat) (W : WX) : WS := fun st P => W st fun v => unpackV v is.length fun vs => P .nxt (setAll st is vs)
noncomputable abbrev sSwap (k : Nat) (is : List Nat) (W : WX) : WS := fun st P => W st fun v => unpackV v k fun vs => vs.reverse.length = is.length ∧ P .nxt (setAll st is vs.reverse)
noncomputable abbrev sAppend (i : Nat) (W : WX) : WS := fun st P => appW W st i fun u => P .nxt (st.set i u)
noncomputable abbrev sReverse (i : Nat) : WS := fun st P => match getV st i with | .mints l => l.length ≤ 2 ^ 24 ∧ P .nxt (st.set i (.mints l.reverse)) | _ => False
noncomputable abbrev sAugSub (i : Nat) (op : Operator) (W1 W2 : WX) : WS := fun st P => augSubW W1 W2 op st i fun u => P .nxt (st.set i u)
end Mine
end
section
open PySem PySem.Calls PyProof.Rows PySem.W PySem.Spec PySem.SeqAt
set_option Elab.async false
namespace Mine
section
variable {a b c : Int} {l m : List Int} {xs ys : List V} {P : V → Prop} {PB : Bool → Prop} {PL : List V → Prop} {v : V} {st : List V} {W : WS} {PO : Out → List V → Prop}
theorem q_add : binV .Add (.int a) (.int b) P = P (.int (a + b)) := rfl
theorem q_sub : binV .Sub (.int a) (.int b) P = P (.int (a - b)) := rfl
theorem q_mul : binV .Mult (.int a) (.int b) P = (IntMulOk a b ∧ P (.int (a * b))) := rfl
theorem q_fdiv : binV .FloorDiv (.int a) (.int b) P = (b ≠ 0 ∧ Builtin.divisionGoesByPylong a b = false ∧ P (.int (a.fdiv b))) := rfl
theorem q_mod : binV .Mod (.int a) (.int b) P = (b ≠ 0 ∧ P (.int (a.fmod b))) := rfl
theorem q_shl : binV .LShift (.int a) (.int b) P = (0 ≤ b ∧ (Builtin.Int.intBits a : Int) + b ≤ 2 ^ 27 ∧ P (.int (a * 2 ^ b.toNat))) := rfl
theorem q_shr : binV .RShift (.int a) (.int b) P = (0 ≤ b ∧ P (.int (a.fdiv (2 ^ b.toNat)))) := rfl
theorem q_and : binV .BitAnd (.int a) (.int b) P = P (.int (Builtin.bitAnd a b)) := rfl
theorem q_or : binV .BitOr (.int a) (.int b) P = P (.int (Builtin.bitOr a b)) := rfl
theorem q_xor : binV .BitXor (.int a) (.int b) P = P (.int (Builtin.bitXor a b)) := rfl
theorem q_pow : binV .Pow (.int a) (.int b) P = (0 ≤ b ∧ (Builtin.Int.intBits a : Int) * b ≤ 2 ^ 27 ∧ P (.int (a ^ b.toNat))) := rfl
theorem q_cat : binV .Add (.ints l) (.ints m) P = (l.length + m.length ≤ 2 ^ 24 ∧ P (.ints (l ++ m))) := rfl
theorem q_catv : binV .Add (.list xs) (.list ys) P = (xs.length + ys.length ≤ 2 ^ 24 ∧ P (.list (xs ++ ys))) := rfl
theorem q_rep : binV .Mult (.ints l) (.int b) P = (-(2 ^ 63 : Int) ≤ b ∧ b < 2 ^ 63 ∧ l.length * b.toNat ≤ 2 ^ 24 ∧ P (.ints (List.replicate b.toNat l).flatten)) := rfl
theorem q_repv : binV .Mult (.list xs) (.int b) P = (-(2 ^ 63 : Int) ≤ b ∧ b < 2 ^ 63 ∧ xs.length * b.toNat ≤ 2 ^ 24 ∧ P (.list (List.replicate b.toNat xs).flatten)) := rfl
theorem q_eq : cmpV .Eq (.int a) (.int b) P = P (.bool (decide (a = b))) := rfl
theorem q_ne : cmpV .NotEq (.int a) (.int b) P = P (.bool (!decide (a = b))) := rfl
theorem q_lt : cmpV .Lt (.int a) (.int b) P = P (.bool (decide (a < b))) := rfl
theorem q_le : cmpV .LtE (.int a) (.int b) P = P (.bool (decide (a ≤ b))) := rfl
theorem q_eql : cmpV .Eq (.ints l) (.ints m) P = P (.bool (decide (l = m))) := rfl
theorem q_nel : cmpV .NotEq (.ints l) (.ints m) P = P (.bool (!decide (l = m))) := rfl
theorem q_neg : unV .USub (.int a) P = P (.int (-a)) := rfl
theorem q_inv : unV .Invert (.int a) P = P (.int (Builtin.bitNot a)) := rfl
theorem q_tri : trV (.int a) PB = PB (a != 0) := rfl
theorem q_unpt {k : Nat} : unpackV (.tup xs) k PL = (xs.length = k ∧ PL xs) := rfl
theorem q_unpi {k : Nat} : unpackV (.ints l) k PL = (l.length = k ∧ PL (l.map V.int)) := rfl
theorem q_set {i : Nat} {is : List Nat} {vs : List V} : setAll st (i :: is) (v :: vs) = setAll (st.set i v) is vs := rfl
theorem q_set0 : setAll st [] [] = st := rfl
theorem q_nxt : seqP W PO .nxt st = W st PO := rfl
theorem q_ret : seqP W PO (.ret v) st = PO (.ret v) st := rfl
theorem q_rret : retP P (.ret v) st = P v := rfl
theorem q_rnxt : retP P .nxt st = P .none := rfl
theorem q_getn {i : Nat} : getV (v :: st) (i + 1) = getV st i := rfl
theorem q_get0 : getV (v :: st) 0 = v := rfl
theorem q_pi : V.plain (.int a) = True := rfl
theorem q_pl : V.plain (.ints l) = True := rfl
theorem q_pv : V.plain (.list xs) = True := rfl
theorem q_pt : V.plain (.tup xs) = True := rfl
theorem q_pb {x : Bool} : V.plain (.bool x) = True := rfl
theorem q_pn : V.plain .none = True := rfl
theorem q_itl : itemsV (.ints l) PL = PL (l.map V.int) := rfl
theorem q_divmod : divmodT [.int a, .int b] P = (b ≠ 0 ∧ Builtin.divisionGoesByPylong a b = false ∧ P (.tup [.int (a.fdiv b), .int (a.fmod b)])) := rfl
theorem q_wn {n : Nat} {I : Nat → List V → Prop} : whileP n I PO .nxt st = ∃ m, m < n ∧ I m st := rfl
theorem q_wr {n : Nat} {I : Nat → List V → Prop} : whileP n I PO (.ret v) st = PO (.ret v) st := rfl
theorem q_ln {n : Nat} {I : Nat → List V → Prop} : loopP I n PO .nxt st = I (n + 1) st := rfl
theorem q_lr {n : Nat} {I : Nat → List V → Prop} : loopP I n PO (.ret v) st = PO (.ret v) st := rfl
theorem q_aadd : augV .Add (.int a) (.int b) P = P (.int (a + b)) := rfl
theorem q_asub : augV .Sub (.int a) (.int b) P = P (.int (a - b)) := rfl
theorem q_ashl : augV .LShift (.int a) (.int b) P = (0 ≤ b ∧ (Builtin.Int.intBits a : Int) + b ≤ 2 ^ 27 ∧ P (.int (a * 2 ^ b.toNat))) := rfl
theorem q_ashr : augV .RShift (.int a) (.int b) P = (0 ≤ b ∧ P (.int (a.fdiv (2 ^ b.toNat)))) := rfl
theorem q_aor : augV .BitOr (.int a) (.int b) P = P (.int (Builtin.bitOr a b)) := rfl
theorem q_len : lenT [.ints l] P = (l.length < 2 ^ 62 ∧ P (.int l.length)) := rfl
theorem q_lenv : lenT [.list xs] P = (xs.length < 2 ^ 62 ∧ P (.int xs.length)) := rfl
theorem q_thaw : thawV (.ints l) P = P (.mints l) := rfl
theorem q_frz : V.frz (.mints l) = .ints l := rfl
theorem q_frzv : V.frz (.mlist xs) = .list xs := rfl
theorem q_subi : subV (.ints l) (.int a) P = (0 ≤ a ∧ a.toNat < l.length ∧ a < 2 ^ 62 ∧ P (.int (l.getD a.toNat 0))) := rfl
theorem q_subv : subV (.list xs) (.int a) P = (0 ≤ a ∧ a < 2 ^ 62 ∧ ∃ v, xs[a.toNat]? = some v ∧ P v) := rfl
theorem q_subt : subV (.tup xs) (.int a) P = (0 ≤ a ∧ a < 2 ^ 62 ∧ ∃ v, xs[a.toNat]? = some v ∧ P v) := rfl
theorem q_cuti {lo hi st : Option Int} : cutV (.ints l) lo hi st P = (l.length ≤ 2 ^ 24 ∧ st ≠ some 0 ∧ P (.ints (cutL l lo hi st))) := rfl
theorem q_cutv {lo hi st : Option Int} : cutV (.list xs) lo hi st P = (xs.length ≤ 2 ^ 24 ∧ st ≠ some 0 ∧ P (.list (cutL xs lo hi st))) := rfl
theorem q_part {PO : Option Int → Prop} : intPart (.int a) PO = PO (some a) := rfl
theorem q_itv : itemsV (.list xs) PL = PL xs := rfl
theorem q_itt : itemsV (.tup xs) PL = PL xs := rfl
theorem q_rev : revT [.ints l] PL = PL (l.reverse.map V.int) := rfl
theorem q_rng1 : rangeT [.int b] PL = (Builtin.Range.small 0 b 1 = true ∧ PL ((rangeL 0 b 1).map V.int)) := rfl
theorem q_rng3 : rangeT [.int a, .int b, .int c] PL = (c ≠ 0 ∧ Builtin.divisionGoesByPylong (b - a) c = false ∧ Builtin.Range.small a b c = true ∧ PL ((rangeL a b c).map V.int)) := rfl
theorem q_rv2 {α : Type} {a b : α} : [a, b].reverse = [b, a] := rfl
theorem q_rv3 {α : Type} {a b c : α} : [a, b, c].reverse = [c, b, a] := rfl
theorem q_lst0 : listV [] = .ints [] := rfl
end
end Mine
end
section
open PySem PySem.Calls PyProof.Rows PySem.W PySem.Spec PySem.SeqAt
set_option Elab.async false
set_option maxRecDepth 10000
namespace Mine
set_option genInjectivity false in
structure Tab where
  c : Addr
  P : Addr
  pos : Pos
  qual : Str
noncomputable def CodeAt (h : Heap) (c : Addr) (q : Str) : Prop := ∃ o vs t, h.get? c = some o ∧ o.cls = .type "code" ∧ o.data = .fields vs ∧ vs[1]? = some (.str q t)
theorem CodeAt.at {h h' : Heap} {c : Addr} {q : Str} (x : CodeAt h c q) (k : ∀ o vs, h.get? c = some o → o.cls = .type "code" → o.data = .fields vs → h'.get? c = some o) : CodeAt h' c q :=
  x.imp fun o y => y.imp fun vs y => y.imp fun t y => ⟨k o vs y.1 y.2.1 y.2.2.1, y.2⟩
theorem CodeHd.at {h h' : Heap} {c P : Addr} (x : CodeHd h c P) (k : ∀ o vs, h.get? c = some o → o.cls = .type "code" → o.data = .fields vs → h'.get? c = some o) : CodeHd h' c P :=
  x.imp fun o y => y.imp fun vs y => y.imp fun _ y => y.imp fun _ y => y.imp fun _ y => y.imp fun _ y => y.imp fun _ y => y.imp fun _ y => y.imp fun _ y => ⟨k o vs y.1 y.2.1 y.2.2.1, y.2⟩
noncomputable def TabAt (h : Heap) (t : Tab) : Prop :=
  CodeHd h t.c t.P ∧ ∃ ps, h.get? t.P = some (tabObj ps) ∧ TriplesOk ps.toList ∧ (codeAmong t.pos ps.toList = none ∨ ∃ c', codeAmong t.pos ps.toList = some (.ref c') ∧ CodeAt h c' t.qual)
noncomputable def tabsOk (tabs : List Tab) (h : Heap) : Prop := ∀ t ∈ tabs, TabAt h t
theorem TabAt.at {h h' : Heap} {t : Tab} (x : TabAt h t) (kc : ∀ b o vs, h.get? b = some o → o.cls = .type "code" → o.data = .fields vs → h'.get? b = some o) (kP : ∀ o, h.get? t.P = some o → h'.get? t.P = some o) : TabAt h' t := by
  obtain ⟨a, ps, b, c, d⟩ := x
  refine ⟨CodeHd.at a (kc t.c), ps, kP _ b, c, ?_⟩
  rcases d with d | ⟨c', d, e⟩
  · exact .inl d
  · exact .inr ⟨c', d, e.at (kc c')⟩
section
variable {tabs : List Tab} {h h' : Heap}
theorem tabsOk.stays (x : tabsOk tabs h) (s : h.StaysIn h') : tabsOk tabs h' := fun t ht => (x t ht).at (fun b o _ e _ _ => s b o e) (fun o e => s _ o e)
theorem tabsOk.but {S : List Addr} (x : tabsOk tabs h) (hS : ∀ a ∈ S, a ∉ tabs.map (·.P) ∧ ∀ o, h.get? a = some o → ∀ vs, o.data = .fields vs → o.cls ≠ .type "code") (k : ∀ b o, b ∉ S → h.get? b = some o → h'.get? b = some o) : tabsOk tabs h' :=
  fun t ht => (x t ht).at (fun b o vs e hc hd => k b o (fun q => (hS b q).2 o e vs hd hc) e) (fun o e => k _ o (fun q => (hS _ q).1 (List.mem_map_of_mem ht)) e)
theorem tabsOk.alive (x : tabsOk tabs h) : ∀ g ∈ tabs.map (·.P), h.get? g ≠ none := fun g hg => by
  obtain ⟨t, ht, rfl⟩ := List.mem_map.mp hg
  obtain ⟨_, ps, b, _⟩ := x t ht
  rw [b]; simp
end
theorem nodup_map_inj {α β : Type} {f : α → β} {l : List α} (h : (l.map f).Nodup) {x y : α} (hx : x ∈ l) (hy : y ∈ l) (e : f x = f y) : x = y := by
  induction l with
  | nil => cases hx
  | cons p r ih =>
    simp only [List.map_cons, List.nodup_cons] at h
    rcases List.mem_cons.mp hx with e1 | e1 <;> rcases List.mem_cons.mp hy with e2 | e2
    · rw [e1, e2]
    · exfalso; apply h.1; rw [← e1, e]; exact List.mem_map_of_mem e2
    · exfalso; apply h.1; rw [← e2, ← e]; exact List.mem_map_of_mem e1
    · exact ih h.2 e1 e2
structure TC (C : Cx) (tabs : List Tab) : Prop where
  tb : C.Tb = tabsOk tabs
  g : C.G = tabs.map (·.P)
  nd : (tabs.map (·.P)).Nodup
structure DefMade (C : Cx) (h h' : Heap) (f : Addr) (name qual : Str) (params : Arguments) (body : List Stmt) (scope : Scope) (clos : List (Str × Addr)) (fd : FuncData) : Prop where
  gr : Gr C h h'
  isFd : ∃ doc pm c' ctv, fd = fnX name qual params body scope clos .none .none doc pm none (.ref c') ctv ∧ ∃ oc vs t, h'.get? c' = some oc ∧ oc.cls = .type "code" ∧ oc.data = .fields vs ∧ vs[1]? = some (.str qual t) ∧ c' ∉ C.G
  atF : h'.get? f = some { cls := .type "function", data := .func fd }
  new : h.get? f = none
  out : f ∉ C.G
theorem wpAny_makeFn {M : Model} {A : Around} {E : Value → Shared → Prop} {s : Shared} {name qual : Str} {params : Arguments} {body : List Stmt} {scope : Scope} {env : Env} {c P : Addr} {ps : Array Value} {pos : Pos} {firstLine : Nat} {mg : Str → Option Value}
    {clos : List (Str × Addr)} {Q : Value → Shared → Prop} (hcl : closureFor scope env = pure clos) (hne : clos.isEmpty = false) (hdoc : docOf body = none) (hge0 : env.globals = mainGlobals) (hg : s.heap.Ns mainGlobals mg) (hcode : env.code = .ref c) (C : CodeHd s.heap c P)
    (hP : s.heap.get? P = some (tabObj ps)) (ht : TriplesOk ps.toList) (hnf : codeAmong pos ps.toList = none) (hgP : mainGlobals ≠ P) (hb : s.heap.BuiltinsAt mg P)
    (h : ∀ c' ctv h' tk, Heap.ExtBut P s.heap h' → s.heap.objs.size ≤ c' → s.heap.objs.size ≤ h'.objs.size → CodeAt h' c' qual → h'.get? P = some (tabObj (ps ++ #[rawInt pos.line, rawInt pos.col, .ref c'])) →
      Q (.ref h'.objs.size) { s with heap := h'.push { cls := .type "function", data := .func (fnX name qual params body scope clos .none .none .none ((mg "__name__").getD .none) none (.ref c') ctv) }, toks := tk }) :
    wpAny M A (makeFunction name qual params (.stmts body) scope env [] [] [] pos firstLine) Q E s := by
  obtain ⟨bm, ob, hbm, hne0, _, hneP, hbo, hcls, hdict, hdata⟩ := hb
  rw [makeFunction_eq]
  simp only [List.zip_nil_right, List.filterMap_nil, List.isEmpty_nil, if_true, pure_bind]
  unfold makeTail
  rw [hcl, hge0]
  refine wpAny_bind (wpAny_pure ?_)
  simp only [hne, Bool.false_eq_true, if_false]
  have st : ∀ (o : Obj) b o', s.heap.get? b = some o' → (s.heap.push o).get? b = some o' := fun o b o' e => Heap.get?_push_of_some _ e
  refine wpAny_bind (wpAny_newTextTuple ?_)
  refine wpAny_bind (wpAny_functionCodeX hcode ((C.keeps (st _)).code (st _ _ _ hP) ht) ((C.keeps (st _)).tab (st _ _ _ hP)) hnf fun c' h' tk hx hge hlt _ hrec htb hn => ?_)
  have hg' := (hg.push _).extBut hx hgP
  have hx' : Heap.ExtBut P s.heap h' := fun b o hb' e => hx b o hb' (st _ _ _ e)
  have hge' : s.heap.objs.size ≤ c' := Nat.le_trans (by rw [Heap.size_push]; (clear hcl hne hdoc hge0 hg hcode C hP ht hnf hgP h hbm hne0 hneP hbo hcls hdict hdata st hx hge hlt hrec htb hg' hx'; lia)) hge
  refine wpAny_bind (wpAny_builtinsFor hg' hbm hne0 (hx' _ _ hneP hbo) hcls hdict hdata ?_)
  refine wpAny_bind (wpAny_nsGet hg' ?_)
  simp only [hdoc]
  refine wpAny_bind (wpAny_pure (wpAny_newObj_type (h c' _ h' tk hx' hge' (by (clear hcl hne hdoc hge0 hg hcode C hP ht hnf hgP h hbm hne0 hneP hbo hcls hdict hdata st hx hge hrec htb hg' hx'; lia)) ?_ htb.2) (by size_fits)))
  obtain ⟨_, _, _, ⟨⟨o, vs, e1, e2, e3, _⟩, _⟩⟩ := hn
  obtain ⟨c₂, o₂, vs₂, t₂, q₂, g₂, d₂, r₂⟩ := hrec
  cases q₂
  rw [e1] at g₂; cases g₂
  exact ⟨o, vs₂, t₂, e1, e2, d₂, r₂⟩
theorem def_made {C : Cx} {tabs : List Tab} (hC : TC C tabs) {t : Tab} (ht : t ∈ tabs) {A : Around} {E : Value → Shared → Prop} {s : Shared} {name : Str} {params : Arguments} {body : List Stmt} {scope : Scope} {env : Env} {firstLine : Nat}
    {clos : List (Str × Addr)} {Q : Value → Shared → Prop} (hcl : closureFor scope env = pure clos) (hne : clos.isEmpty = false) (hdoc : docOf body = none) (hge0 : env.globals = mainGlobals) (hcode : env.code = .ref t.c) (wd : Wd C s.heap) (tb : C.Tb s.heap)
    (k : ∀ f h' tk fd, DefMade C s.heap h' f name t.qual params body scope clos fd → Q (.ref f) { s with heap := h', toks := tk }) :
    wpAny (model C.prog C.w) A (makeFunction name t.qual params (.stmts body) scope env [] [] [] t.pos firstLine) Q E s := by
  have tbs := tb
  rw [hC.tb] at tbs
  obtain ⟨hd, ps, hP, hT, hc⟩ := tbs t ht
  have hPG : t.P ∈ C.G := by rw [hC.g]; exact List.mem_map_of_mem ht
  obtain ⟨mg, bm, ob, hg, b1, b2, b3, b4, b5, b6, b7, b8⟩ := wd.bm
  have hba : s.heap.BuiltinsAt mg t.P := ⟨bm, ob, b1, b2, b3, fun q => b4 (q ▸ hPG), b5, b6, b7, b8⟩
  have Gdead : ∀ a, s.heap.get? a = none → a ∉ C.G := fun a e q => C.alive _ tb a q e
  have sdead : ∀ a, s.heap.objs.size ≤ a → s.heap.get? a = none := fun a ha => Heap.get?_none_of_le ha
  rcases hc with hc | ⟨c', hc, hc'⟩
  · refine wpAny_makeFn hcl hne hdoc hge0 hg hcode hd hP hT hc (fun q => C.gG (q ▸ hPG)) hba fun c' ctv h' tk hx hge hsz hca htb => ?_
    have hpush : ∀ (o : Obj) b o', h'.get? b = some o' → (h'.push o).get? b = some o' := fun o b o' e => Heap.get?_push_of_some _ e
    refine k _ _ tk _ ⟨⟨fun b o hb e => hpush _ _ _ (hx b o (fun q => hb (q ▸ hPG)) e), fun _ => ?_⟩, ⟨_, _, c', ctv, rfl, ?_⟩, Heap.get?_push_size _ rfl, sdead _ hsz, Gdead _ (sdead _ hsz)⟩
    · rw [hC.tb]
      refine tabsOk.stays (h := h') (fun u hu => ?_) (stays_push _ _)
      by_cases hut : u.P = t.P
      · have : u = t := nodup_map_inj hC.nd hu ht hut
        subst this
        refine ⟨CodeHd.at hd fun o vs e q1 q2 => hx _ _ (fun q => by rw [q, hP] at e; cases e; cases q1) e, _, htb, ?_, .inr ⟨c', ?_, hca⟩⟩
        · simpa using TriplesOk_snoc _ _ (.ref c') _ hT
        · simpa using codeAmong_snoc (c := .ref c') _ hT hc
      · refine (tbs u hu).at (fun b o vs e q1 q2 => hx b o (fun q => ?_) e) (fun o e => hx _ o hut e)
        rw [q, hP] at e; cases e; cases q1
    · obtain ⟨o, vs, t', e1, e2, e3, e4⟩ := hca
      exact ⟨o, vs, t', hpush _ _ _ e1, e2, e3, e4, Gdead _ (sdead _ hge)⟩
  · refine makeFunction_hit hcl hge0 hg hcode hd hP hT hc hba fun ctv doc h' tk hk hsz => ?_
    have hpush : ∀ (o : Obj) b o', s.heap.get? b = some o' → (h'.push o).get? b = some o' := fun o b o' e => Heap.get?_push_of_some _ (hk _ _ e)
    refine k _ _ tk _ ⟨.of fun b o e => hpush _ _ _ e, ⟨doc, _, c', ctv, rfl, ?_⟩, Heap.get?_push_size _ rfl, sdead _ hsz, Gdead _ (sdead _ hsz)⟩
    obtain ⟨o, vs, t', e1, e2, e3, e4⟩ := hc'
    refine ⟨o, vs, t', hpush _ _ _ e1, e2, e3, e4, fun q => ?_⟩
    rw [hC.g] at q
    obtain ⟨u, hu, e⟩ := List.mem_map.mp q
    obtain ⟨_, ps', hP', _⟩ := tbs u hu
    rw [e, e1] at hP'; cases hP'; cases e2
end Mine
end
section
open PySem PySem.Calls PyProof.Rows PySem.W PySem.Spec PySem.SeqAt
set_option Elab.async false
set_option maxRecDepth 10000
namespace Mine
section
variable {C : Cx} {F : Fm} {n : Nat} {ad : Ad} {st : List V} {s : Shared}
theorem Rep.relistG (R : Rep C F ad st s) (ok : FmOk C n F) {i : Nat} {x : Str} {a : Addr} {v : V} {h' : Heap} {tk : Nat} (hi : F.names[i]? = some x) (hm : (i, a) ∈ ad.m) (rd : Rd F.env s.heap x (.ref a))
    (hs : ∀ b, b ∉ C.G → b ≠ a → ∀ o, s.heap.get? b = some o → h'.get? b = some o) (tb : C.Tb h') (hp : OwnAt h' a)
    (hv : Rd F.env h' x (.ref a) → VarOk F ad h' i x v) :
    Rep C F ad (st.set i v) { s with heap := h', toks := tk } ∧ Stp C F ad s.heap ad h' := by
  have ha : a ∈ F.own ad := mem_own_ad hm
  have nd := R.nd
  unfold Fm.own at nd
  rw [List.nodup_cons, List.nodup_append] at nd
  have ham : a ∈ ad.m.map (·.2) := List.mem_map.mpr ⟨(i, a), hm, rfl⟩
  have nL : F.env.locals ≠ a := fun e => nd.1 (e ▸ List.mem_append_right _ ham)
  have nC : ∀ c ∈ F.cells, c ≠ a := fun c hc e => nd.2.2.2 c hc a ham e
  have own : ∀ b ∈ F.own ad, b ∉ C.G := fun b hb => R.ownG ok hb
  have kU : ∀ b o, b ∉ F.U ad → s.heap.get? b = some o → h'.get? b = some o := fun b o hb e => hs b (fun q => hb (R.UG b q)) (fun q => hb (List.mem_append_left _ (q ▸ ha))) o e
  have enot : ∀ c ∈ F.env.cells.map (·.2), c ≠ a := fun c hc q => by
    subst q
    obtain ⟨v, cc⟩ := R.ec c hc
    exact (R.ads (i, c) hm).notCell cc
  have rdk : ∀ y w, Rd F.env s.heap y w → Rd F.env h' y w := fun y w r =>
    r.keep (fun o => hs _ (R.LG ok) nL o) (fun c hc o e => hs c (ok.cG c hc) (enot c hc) o e) (fun o => hs _ (by rw [ok.globals]; exact C.gG) (R.globals_ne ok ha) o)
  have R' : Rep C F ad (st.set i .unb) { s with heap := h', toks := tk } := {
    stays := fun b o hb e => hs b hb (fun q => by rw [q, R.fresh a ha] at e; cases e) o (R.stays b o hb e)
    tb := tb
    ns := by exact R.ns.imp fun _ y => y.at fun o e => hs _ (R.LG ok) nL o e
    cells := by intro c hc; exact (R.cells c hc).imp fun _ y => IsCell.at y fun o e => hs c (own c (List.mem_cons_of_mem _ (List.mem_append_left _ hc))) (nC c hc) o e
    ads := by
      intro p hpm
      by_cases q : p.2 = a
      · rw [q]; exact hp
      · exact (R.ads p hpm).at fun o => hs _ (own _ (mem_own_ad hpm)) q o
    gU := R.gU
    ec := by intro c hc; exact (R.ec c hc).imp fun _ y => IsCell.at y fun o e => hs c (ok.cG c hc) (enot c hc) o e
    fresh := R.fresh
    ux := fun u hu => by
      by_cases hg : u ∈ C.G
      · exact C.alive _ tb u hg
      · cases q : s.heap.get? u with
        | none => exact absurd q (R.ux u hu)
        | some o => show h'.get? u ≠ none; rw [hs u hg (fun e => R.apart a ha (e ▸ hu)) o q]; simp
    apart := R.apart
    nd := R.nd
    vars := by
      intro j y u h1 h2
      by_cases hj : j = i
      · subst hj
        rw [List.getElem?_set_self'] at h2
        cases q : st[j]? with
        | none => rw [q] at h2; cases h2
        | some u => rw [q] at h2; simp at h2; subst h2; trivial
      · rw [List.getElem?_set_ne (Ne.symm hj)] at h2
        have r := R.vars j y u h1 h2
        have na : ∀ b, (j, b) ∈ ad.m → b ≠ a := fun b hb e => hj (by have := Rep.freeze.nodup_snd nd.2.2.1 (e ▸ hb) hm; injection this)
        cases u with
        | unb => trivial
        | mints l => obtain ⟨b, us, e1, e2, e3, e4⟩ := r; exact ⟨b, us, e1, rdk _ _ e2, e3.at fun o => hs _ (own _ (mem_own_ad e1)) (na b e1) o, e4⟩
        | mlist l => obtain ⟨b, us, e1, e2, e3, e4⟩ := r; exact ⟨b, us, e1, rdk _ _ e2, e3.at fun o => hs _ (own _ (mem_own_ad e1)) (na b e1) o, VRs.mono kU (fun _ hb => .inl hb) _ _ e4⟩
        | mit b l => obtain ⟨w', p, e1, e2, e3, e4⟩ := r; exact ⟨w', p, e1, rdk _ _ e2, e3.at fun o => hs _ (own _ (mem_own_ad e1)) (na b e1) o, e4.mono kU (fun _ hb => .inl hb)⟩
        | _ => obtain ⟨w, e1, e2⟩ := r; exact ⟨w, rdk _ _ e1, VR.mono kU (fun _ hb => .inl hb) _ _ e2⟩ }
  refine ⟨?_, ⟨fun b o hg hb e => hs b hg (fun q => hb (q ▸ ha)) o e, fun _ h => .inl h, rfl⟩⟩
  have := R'.bind hi (v := v) (hv (rdk _ _ rd))
  rw [List.set_set] at this
  exact this
theorem lookup_append_none {K K' : Frag} {a : Addr} (h1 : ∀ p ∈ K, p.1 ≠ a) (h2 : K'.lookup a = none) : (K ++ K').lookup a = none := by
  induction K with
  | nil => exact h2
  | cons p r ih =>
    obtain ⟨b, o⟩ := p
    have hb : (a == b) = false := by
      cases q : a == b with
      | false => rfl
      | true => exact absurd (eq_of_beq q).symm (h1 (b, o) List.mem_cons_self)
    rw [List.cons_append, List.lookup_cons, hb]
    exact ih fun p hp => h1 p (List.mem_cons_of_mem _ hp)
theorem lookup_append_skip {K K' : Frag} {a : Addr} (h1 : ∀ p ∈ K, p.1 ≠ a) : (K ++ K').lookup a = K'.lookup a := by
  induction K with
  | nil => rfl
  | cons p r ih =>
    obtain ⟨b, o⟩ := p
    have hb : (a == b) = false := by
      cases q : a == b with
      | false => rfl
      | true => exact absurd (eq_of_beq q).symm (h1 (b, o) List.mem_cons_self)
    rw [List.cons_append, List.lookup_cons, hb]
    exact ih fun p hp => h1 p (List.mem_cons_of_mem _ hp)
theorem lookup_append_some {K K' : Frag} {a : Addr} {o : Obj} (h : (K ++ K').lookup a = some o) : (a, o) ∈ K ∨ K'.lookup a = some o := by
  induction K with
  | nil => exact .inr h
  | cons p r ih =>
    obtain ⟨b, o'⟩ := p
    rw [List.cons_append, List.lookup_cons] at h
    split at h
    · rename_i e; have := eq_of_beq e; subst this; injection h with h; subst h; exact .inl List.mem_cons_self
    · rcases ih h with q | q
      · exact .inl (List.mem_cons_of_mem _ q)
      · exact .inr q
theorem lookup_append_mem {K K' : Frag} {a : Addr} {o : Obj} (h : (a, o) ∈ K) : ∃ o', (a, o') ∈ K ∧ (K ++ K').lookup a = some o' := by
  induction K with
  | nil => cases h
  | cons p r ih =>
    obtain ⟨b, o'⟩ := p
    rw [List.cons_append, List.lookup_cons]
    by_cases hb : a = b
    · subst hb; simp only [beq_self_eq_true]; exact ⟨o', List.mem_cons_self, rfl⟩
    · have : (a == b) = false := by simpa using hb
      rw [this]
      rcases List.mem_cons.mp h with q | q
      · injection q with q1 q2; exact absurd q1 hb
      · obtain ⟨o2, h1, h2⟩ := ih q; exact ⟨o2, List.mem_cons_of_mem _ h1, h2⟩
noncomputable def Cx.ext (C : Cx) (news : Frag) (hG : ∀ p ∈ news, p.1 ∉ C.G) : Cx := { C with K := news ++ C.K, kG := fun g hg => lookup_append_none (fun p hp e => hG p hp (e ▸ hg)) (C.kG g hg) }
theorem ext_in {K news : Frag} {h : Heap} (h1 : ∀ p ∈ news, h.get? p.1 = some p.2) (h2 : K.In h) : (news ++ K).In h := fun a o e => by
  rcases lookup_append_some e with q | q
  · exact h1 (a, o) q
  · exact h2 a o q
theorem ext_get {K news : Frag} {h h₁ : Heap} (hc : ∀ p ∈ news, h₁.get? p.1 = some p.2) (x : (news ++ K).In h) {a : Addr} {o : Obj} (hm : (a, o) ∈ news) : h.get? a = some o := by
  obtain ⟨o', m', e⟩ := lookup_append_mem (K' := K) hm
  have q1 := hc _ hm
  have q2 := hc _ m'
  rw [q1] at q2; injection q2 with q2; subst q2
  exact x a _ e
noncomputable def Fm.inner (F : Fm) (h : Heap) (ad : Ad) : Fm := { F with h₀ := hideAll h (F.env.locals :: ad.m.map (·.2)), cells := [] }
theorem inner_own {h : Heap} {ad' : Ad} : (F.inner h ad).own ad' = F.env.locals :: ad'.m.map (·.2) := by simp [Fm.inner, Fm.own]
theorem own_in {F : Fm} {ad : Ad} : ∀ a ∈ F.env.locals :: ad.m.map (·.2), a ∈ F.own ad := fun a ha => by
  rcases List.mem_cons.mp ha with e | e
  · rw [e]; exact List.mem_cons_self
  · exact List.mem_cons_of_mem _ (List.mem_append_right _ e)
theorem Rep.inner (R : Rep C F ad st s) (ok : FmOk C n F) {news : Frag} (hG : ∀ p ∈ news, p.1 ∉ C.G) (hn : ∀ p ∈ news, s.heap.get? p.1 = some p.2) (hid : ∀ p ∈ news, p.1 ∉ F.env.locals :: ad.m.map (·.2)) :
    FmOk (C.ext news hG) n (F.inner s.heap ad) ∧ Rep (C.ext news hG) (F.inner s.heap ad) ⟨ad.m, F.cells ++ ad.ux⟩ st s := by
  have kept : ∀ b o, b ∉ C.G → F.h₀.get? b = some o → (hideAll s.heap (F.env.locals :: ad.m.map (·.2))).get? b = some o := fun b o hb e =>
    hideAll_get _ (R.stays b o hb e) fun q => by rw [R.fresh b (own_in b q)] at e; cases e
  have wd0 : Wd C (hideAll s.heap (F.env.locals :: ad.m.map (·.2))) := ok.wd.of kept
  have sub : (F.env.locals :: ad.m.map (·.2)).Sublist (F.own ad) := List.Sublist.cons_cons _ (List.sublist_append_right _ _)
  have oU : ∀ b ∈ (F.inner s.heap ad).U ⟨ad.m, F.cells ++ ad.ux⟩, b ∈ F.U ad := fun b hb => by
    unfold Fm.U at hb ⊢
    rw [inner_own] at hb
    rcases List.mem_append.mp hb with q | q
    · exact List.mem_append_left _ (own_in b q)
    · rcases List.mem_append.mp q with q | q
      · exact List.mem_append_left _ (List.mem_cons_of_mem _ (List.mem_append_left _ q))
      · exact List.mem_append_right _ q
  have nd := R.nd
  unfold Fm.own at nd
  rw [List.nodup_cons, List.nodup_append] at nd
  refine ⟨⟨ok.kind, ok.globals, ok.builtins, ⟨ext_in (fun p hp => hideAll_get _ (hn p hp) (hid p hp)) wd0.inK, wd0.g, wd0.b, wd0.nl, wd0.bm⟩, ok.a, ok.names, ok.nodup, ok.cl, ok.cn, ok.cG⟩, ?_⟩
  exact {
    stays := fun b o _ e => of_hideAll _ e
    tb := R.tb
    ns := R.ns
    cells := fun c hc => by cases hc
    ads := R.ads
    gU := fun g hg => List.mem_append_right _ (R.gU g hg)
    ec := R.ec
    fresh := fun a ha => by rw [inner_own] at ha; exact hideAll_none _ ha
    ux := fun u hu => by
      rcases List.mem_append.mp hu with q | q
      · exact R.own_alive u (List.mem_cons_of_mem _ (List.mem_append_left _ q))
      · exact R.ux u q
    apart := fun a ha hu => by
      rw [inner_own] at ha
      rcases List.mem_append.mp hu with q | q
      · rcases List.mem_cons.mp ha with e | e
        · exact nd.1 (e ▸ List.mem_append_left _ q)
        · exact nd.2.2.2 a q a e rfl
      · exact R.apart a (own_in a ha) q
    nd := by rw [inner_own]; exact R.nd.sublist sub
    vars := fun i x v h1 h2 => by
      have r := R.vars i x v h1 h2
      cases v with
      | unb => trivial
      | mints l => exact r
      | mlist l => obtain ⟨a, ws, e1, e2, e3, e4⟩ := r; exact ⟨a, ws, e1, e2, e3, e4.weaken oU⟩
      | mit a l => obtain ⟨w, p, e1, e2, e3, e4⟩ := r; exact ⟨w, p, e1, e2, e3, e4.weaken oU⟩
      | _ => obtain ⟨w, e1, e2⟩ := r; exact ⟨w, e1, e2.weaken oU⟩ }
theorem Rep.outer (R : Rep C F ad st s) (ok : FmOk C n F) {news : Frag} (hG : ∀ p ∈ news, p.1 ∉ C.G) {ad' : Ad} {st' : List V} {h' : Heap} {tk : Nat} (R' : Rep (C.ext news hG) (F.inner s.heap ad) ad' st' { s with heap := h', toks := tk }) (hu : ad'.ux = F.cells ++ ad.ux) :
    Rep C F ⟨[], ad.ux⟩ [] { s with heap := h', toks := tk } ∧ Stp C F ad s.heap ⟨[], ad.ux⟩ h' := by
  have hid : ∀ b o, b ∉ C.G → b ∉ F.env.locals :: ad.m.map (·.2) → s.heap.get? b = some o → h'.get? b = some o := fun b o hb hn e => R'.stays b o hb (hideAll_get _ e hn)
  have sub : (F.own ⟨[], ad.ux⟩).Sublist (F.own ad) := by unfold Fm.own; exact List.Sublist.cons_cons _ (List.Sublist.append (List.Sublist.refl _) (List.nil_sublist _))
  have nd := R.nd
  unfold Fm.own at nd
  rw [List.nodup_cons, List.nodup_append] at nd
  have cn : ∀ c ∈ F.cells, c ∉ F.env.locals :: ad.m.map (·.2) := fun c hc q => by
    rcases List.mem_cons.mp q with e | e
    · exact nd.1 (e ▸ List.mem_append_left _ hc)
    · exact nd.2.2.2 c hc c e rfl
  refine ⟨{
    stays := fun b o hb e => hid b o hb (fun q => by rw [R.fresh b (own_in b q)] at e; cases e) (R.stays b o hb e)
    tb := R'.tb
    ns := R'.ns
    cells := fun c hc => by
      exact (R.cells c hc).imp fun _ y => IsCell.at y fun o e => hid c o (R.ownG ok (List.mem_cons_of_mem _ (List.mem_append_left _ hc))) (cn c hc) e
    ads := fun p hp => by cases hp
    gU := R.gU
    ec := R'.ec
    fresh := fun a ha => R.fresh a (sub.subset ha)
    ux := fun u hq => R'.ux u (by rw [hu]; exact List.mem_append_right _ hq)
    apart := fun a ha => R.apart a (sub.subset ha)
    nd := R.nd.sublist sub
    vars := fun i x v h1 h2 => by simp at h2 }, ⟨fun b o hb ho e => hid b o hb (fun q => ho (own_in b q)) e, fun a ha => .inl (sub.subset ha), rfl⟩⟩
end
end Mine
end
section
open PySem PySem.Calls PyProof.Rows PySem.W PySem.Spec PySem.SeqAt
set_option Elab.async false
set_option maxRecDepth 10000
namespace Mine
section
variable {C : Cx} {F : Fm} {n : Nat} {ad : Ad} {st : List V} {s : Shared}
noncomputable def cloFm (A : Around) (fd : FuncData) (f L : Addr) (h₀ : Heap) (names : List Str) : Fm :=
  { A := A.deeper (callEnv fd L f), env := callEnv fd L f, h₀ := h₀, cells := [], names := names }
structure CloOk (C : Cx) (f : Addr) (fd : FuncData) (body : List Stmt) (k : Nat) (names : List Str) : Prop where
  at_ : ∀ h, C.K.In h → h.get? f = some { cls := .type "function", data := .func fd }
  code : ∀ h, C.K.In h → h.CodeRec fd.code fd.qualname
  body : fd.body = .stmts body
  glob : fd.globals = mainGlobals
  blt : fd.builtins = builtinsNs
  kind : fd.scope.kind = .function
  co : fd.scope.isCoroutine = false
  gen : fd.scope.isGenerator = false
  bind : ∀ ws : List Value, ws.length = k → bindArgs fd ⟨ws, []⟩ = pure ((names.take k).zip ws)
  kinds : ∀ x ∈ names.take k, fd.scope.names.lookup x = some .local
  nocell : ∀ x ∈ fd.scope.names, x.2 ≠ .cell
  len : k ≤ names.length
  okn : ∀ x ∈ names, okName x = true
  nodup : names.Nodup
  cells : ∀ h, C.K.In h → ∀ c ∈ fd.closure.map (·.2), ∃ v, h.IsCell c v
  cnd : (fd.closure.map (·.2)).Nodup
  cG : ∀ c ∈ fd.closure.map (·.2), c ∉ C.G
theorem rev_lookup {xs : List Str} {ws : List Value} (hnd : xs.Nodup) (hl : xs.length = ws.length) {x : Str} {w : Value} (hm : (x, w) ∈ xs.zip ws) : (xs.zip ws).reverse.lookup x = some w := by
  have key : ∀ (l : List (Str × Value)), (l.map (·.1)).Nodup → (x, w) ∈ l → l.lookup x = some w := by
    intro l
    induction l with
    | nil => intro _ h; cases h
    | cons p r ih =>
      intro h1 h2
      obtain ⟨y, u⟩ := p
      simp only [List.map_cons, List.nodup_cons] at h1
      rw [List.lookup_cons]
      rcases List.mem_cons.mp h2 with e | e
      · injection e with e1 e2; subst e1; subst e2; simp
      · have : x ≠ y := fun q => h1.1 (q ▸ List.mem_map.mpr ⟨(x, w), e, rfl⟩)
        have : (x == y) = false := by simpa using this
        rw [this]; exact ih h1.2 e
  refine key _ ?_ (List.mem_reverse.mpr hm)
  rw [List.map_reverse, List.map_fst_zip (by (clear hnd hm key; lia))]
  show List.Pairwise _ _
  rw [List.pairwise_reverse]; exact hnd.imp Ne.symm
theorem clo_gen {f : Addr} {fd : FuncData} {body : List Stmt} {k : Nat} {names : List Str} {W : WS} (ok : CloOk C f fd body k names)
    (hb : ∀ A L h₀, FmOk C n (cloFm A fd f L h₀ names) → ExB C (cloFm A fd f L h₀ names) body W)
    {A : Around} {U : List Addr} {vs : List V} {ws : List Value} {mm : List (Nat × Addr)} {tail : List V} {j : Nat} {PO : Out → List V → Prop} {Q : Value → Shared → Prop} {E : Value → Shared → Prop}
    (hA : AOk (n + 1) A) (wd : Wd C (hideAll s.heap (mm.map (·.2)))) (tb : C.Tb s.heap) (al : ∀ u ∈ U, s.heap.get? u ≠ none) (gU : ∀ g ∈ C.G, g ∈ U)
    (mU : ∀ a ∈ mm.map (·.2), a ∉ U) (mn : (mm.map (·.2)).Nodup) (ma : ∀ p ∈ mm, OwnAt s.heap p.2) (r : VRs (mm.map (·.2) ++ U) s.heap vs ws) (hlen : vs.length = k)
    (tl : ∀ L h₁ i x v, s.heap.StaysIn h₁ → C.K.In h₁ → names[k + j + i]? = some x → tail[i]? = some v → VarOk (cloFm A fd f L (hideAll s.heap (mm.map (·.2))) names) ⟨mm, U⟩ h₁ (k + j + i) x v)
    (hW : W (vs ++ (List.replicate j .unb ++ tail)) PO)
    (kk : ∀ L h₀ o st' ad' h' tk fl, PO o st' → ad'.ux = U → h₀ = hideAll s.heap (mm.map (·.2)) → Rep C (cloFm A fd f L h₀ names) ad' st' { s with heap := h', toks := tk } → FmOk C n (cloFm A fd f L h₀ names) → FlowIs ((cloFm A fd f L h₀ names).U ad') h' o fl →
      Q (match fl with | .ret v => v | _ => .none) { s with heap := h', toks := tk }) :
    wpAny (model C.prog C.w) A (call (.ref f) ws) Q E s := by
  have hwl : ws.length = k := by rw [r.length]; exact hlen
  have inK : C.K.In s.heap := fun a o e => of_hideAll _ (wd.inK a o e)
  have nl : s.heap.NoLimit := wd.nl.at fun o e => of_hideAll _ e
  refine wpAny_call (codeAny_call_def (by have := hA.depth; simp only [recursionLimit]; omega) (ok.at_ _ inK) rfl nl (ok.code _ inK) ok.body (.of_eq (ok.bind ws hwl)) ok.nocell (fun x hx => ?_) (fun h₁ hns keep => ?_) ok.co ok.gen ok.kind)
  · exact ok.kinds x.1 (List.of_mem_zip (a := x.1) (b := x.2) hx).1
  have hs₀ : s.heap.get? s.heap.objs.size = none := dead_size _
  have hidL : (hideAll s.heap (mm.map (·.2))).get? s.heap.objs.size = none := by
    cases q : (hideAll s.heap (mm.map (·.2))).get? s.heap.objs.size with
    | none => rfl
    | some o => rw [of_hideAll _ q] at hs₀; cases hs₀
  have Lm : s.heap.objs.size ∉ mm.map (·.2) := fun q => by
    obtain ⟨p, hp, e⟩ := List.mem_map.mp q
    exact (ma p hp).alive (e ▸ hs₀)
  have inK₁ : C.K.In h₁ := fun a o e => keep a o (inK a o e)
  have hFok : FmOk C n (cloFm A fd f s.heap.objs.size (hideAll s.heap (mm.map (·.2))) names) := {
    kind := ok.kind
    globals := ok.glob
    builtins := ok.blt
    wd := wd
    a := ⟨hA.handled, by have := hA.depth; show A.depth + 1 + n ≤ 990; omega, by have := hA.units; show A.units + 3 + 10 * n ≤ 9800; omega⟩
    names := ok.okn
    nodup := ok.nodup
    cl := fun q => by
      obtain ⟨v, o, e, _⟩ := ok.cells _ inK _ q
      rw [show (cloFm A fd f s.heap.objs.size (hideAll s.heap (mm.map (·.2))) names).env.locals = s.heap.objs.size from rfl, hs₀] at e
      cases e
    cn := ok.cnd
    cG := ok.cG }
  have own_eq : (cloFm A fd f s.heap.objs.size (hideAll s.heap (mm.map (·.2))) names).own ⟨mm, U⟩ = s.heap.objs.size :: mm.map (·.2) := rfl
  have ownd : ∀ a ∈ s.heap.objs.size :: mm.map (·.2), (hideAll s.heap (mm.map (·.2))).get? a = none := fun a ha => by
    rcases List.mem_cons.mp ha with e | e
    · rw [e]; exact hidL
    · exact hideAll_none _ e
  have R : Rep C (cloFm A fd f s.heap.objs.size (hideAll s.heap (mm.map (·.2))) names) ⟨mm, U⟩ (vs ++ (List.replicate j .unb ++ tail)) { s with heap := h₁, toks := s.toks + ((names.take k).zip ws).length } := {
    stays := fun b o _ e => keep b o (of_hideAll _ e)
    tb := C.stays _ _ tb keep
    ns := ⟨_, hns⟩
    cells := fun c hc => by cases hc
    ads := fun p hp => (ma p hp).at fun o e => keep _ o e
    gU := gU
    ec := fun c hc => ok.cells _ inK₁ c hc
    fresh := fun a ha => ownd a ha
    ux := fun u hu => by
      cases q : s.heap.get? u with
      | none => exact absurd q (al u hu)
      | some o => show h₁.get? u ≠ none; rw [keep u o q]; simp
    apart := fun a ha hu => by
      rcases List.mem_cons.mp ha with e | e
      · exact al a hu (e ▸ hs₀)
      · exact mU a e hu
    nd := by rw [own_eq, List.nodup_cons]; exact ⟨Lm, mn⟩
    vars := fun i x v h1 h2 => by
      by_cases hi : i < vs.length
      · rw [List.getElem?_append_left hi] at h2
        obtain ⟨w, hw, hvr⟩ := r.get h2
        have h1' : (names.take k)[i]? = some x := by rw [List.getElem?_take_of_lt (by omega)]; exact h1
        have hz : (x, w) ∈ (names.take k).zip ws := zip_mem h1' hw
        refine VarOk.of (w := w) ?_ (VR.mono (fun b o _ e => keep b o e) (fun b hb => ?_) v w hvr)
        · have hk := ok.kinds x (List.mem_of_getElem? h1')
          have hk' : (callEnv fd s.heap.objs.size f).kindOf x = some .local := hk
          show Rd (callEnv fd s.heap.objs.size f) h₁ x w
          unfold Rd; rw [hk']
          refine ⟨_, hns, rev_lookup (ok.nodup.sublist (List.take_sublist _ _)) (by rw [List.length_take]; have := ok.len; (clear ok hb hA wd tb al gU mU mn ma r hlen tl hW kk inK nl hns keep hs₀ hidL Lm inK₁ hFok own_eq ownd h1 h2 hi hw hvr h1' hz hk hk'; lia)) hz⟩
        · unfold Fm.U at hb
          rw [own_eq] at hb
          rcases List.mem_append.mp hb with q | q
          · rcases List.mem_cons.mp q with e | e
            · exact .inr (e ▸ hs₀)
            · exact .inl (List.mem_append_left _ e)
          · exact .inl (List.mem_append_right _ q)
      · rw [List.getElem?_append_right (by omega)] at h2
        by_cases hi2 : i - vs.length < j
        · rw [List.getElem?_append_left (by simpa using hi2), List.getElem?_replicate] at h2
          split at h2 <;> first | cases h2; done | (injection h2 with h2; subst h2; trivial)
        · rw [List.getElem?_append_right (by simpa using hi2), List.length_replicate] at h2
          have ei : i = k + j + (i - vs.length - j) := by (clear ok hb hA wd tb al gU mU mn ma r tl hW kk inK nl hns keep hs₀ hidL Lm inK₁ hFok own_eq ownd h1 h2; lia)
          rw [ei] at h1 ⊢
          exact tl _ h₁ _ x v keep inK₁ h1 h2 }
  refine hb A s.heap.objs.size _ hFok ⟨mm, U⟩ _ _ _ _ _ hW R fun o st' ad' h' tk' fl hp sp R' hf => ?_
  exact kk _ _ o st' ad' h' tk' fl hp sp.ux rfl R' hFok hf
theorem PC.clo {f : Addr} {fd : FuncData} {body : List Stmt} {k : Nat} {names : List Str} {W : WS} (ok : CloOk C f fd body k names) (j : Nat) (tail : List Int)
    (tl : ∀ L h i x v, C.K.In h → names[k + j + i]? = some x → tail[i]? = some v → ∃ t, Rd (callEnv fd L f) h x (.int v t))
    (hb : ∀ A L h₀, FmOk C n (cloFm A fd f L h₀ names) → ExB C (cloFm A fd f L h₀ names) body W) :
    PC C (n + 1) (.ref f) (fun vs P => vs.length = k ∧ W (vs ++ (List.replicate j .unb ++ tail.map V.int)) (retP P)) := by
  intro A U s vs ws P Q E hA wd tb al gU r hT kk
  refine clo_gen (mm := []) ok hb hA wd tb al gU (fun a ha => by cases ha) List.nodup_nil (fun p hp => by cases hp) r hT.1 (fun L h₁ i x v _ inK h1 h2 => ?_) hT.2 fun L h₀ o st' ad' h' tk fl hp hu e R' okF hf => ?_
  · rw [List.getElem?_map] at h2
    cases q : tail[i]? with
    | none => rw [q] at h2; cases h2
    | some u =>
      rw [q] at h2; injection h2 with h2; subst h2
      obtain ⟨t, rd⟩ := tl L h₁ i x u inK h1 q
      exact ⟨_, rd, by simp [VR]⟩
  · have g : Gr C s.heap h' := ⟨fun b o hg e' => R'.stays b o hg (by show h₀.get? b = some o; rw [e]; exact e'), fun _ => R'.tb⟩
    have hU : ∀ b ∈ U, b ∈ (cloFm A fd f L h₀ names).U ad' := fun b hb => List.mem_append_right _ (by rw [hu]; exact hb)
    cases o with
    | ret v => simp only [FlowIs] at hf; obtain ⟨w, rfl, hv⟩ := hf; exact kk w v h' tk hp g (hv.weaken hU)
    | nxt => simp only [FlowIs] at hf; subst hf; exact kk .none .none h' tk hp g (by simp [VR])
    | brk => exact hp.elim
    | cnt => exact hp.elim
noncomputable def V.isNone : V → Prop
  | .none => True
  | _ => False
noncomputable def LI (h : Heap) (a : Addr) (ds : List Int) : Prop := ∃ ws, h.PlainList a ws.toArray ∧ IntsAre ws ds
noncomputable def PCM (C : Cx) (n : Nat) (f : Value) (la : Addr) (T : List V → List Int → (V → List Int → Prop) → Prop) : Prop :=
  ∀ (A : Around) (U : List Addr) (s : Shared) (vs : List V) (ws : List Value) (ds : List Int) (P : V → List Int → Prop) (Q : Value → Shared → Prop) (E : Value → Shared → Prop),
    AOk n A → Wd C (hideAll s.heap [la]) → C.Tb s.heap → (∀ u ∈ U, s.heap.get? u ≠ none) → (∀ g ∈ C.G, g ∈ U) → la ∉ U → LI s.heap la ds → VRs (la :: U) s.heap vs ws → T vs ds P →
    (∀ w v ds' h' tk, P v ds' → (∀ b o, b ∉ C.G → b ≠ la → s.heap.get? b = some o → h'.get? b = some o) → C.Tb h' → LI h' la ds' → VR (la :: U) h' v w → Q w { s with heap := h', toks := tk }) →
    wpAny (model C.prog C.w) A (call f ws) Q E s
theorem PCM.le {n m : Nat} {f : Value} {la : Addr} {T : List V → List Int → (V → List Int → Prop) → Prop} (x : PCM C n f la T) (h : n ≤ m) : PCM C m f la T :=
  fun A U s vs ws ds P Q E a => x A U s vs ws ds P Q E (a.le h)
theorem PCM.mono {f : Value} {la : Addr} {T T' : List V → List Int → (V → List Int → Prop) → Prop} (x : PCM C n f la T) (h : ∀ vs ds P, T' vs ds P → T vs ds P) : PCM C n f la T' :=
  fun A U s vs ws ds P Q E a wd tb al gU l li r hT k => x A U s vs ws ds P Q E a wd tb al gU l li r (h vs ds P hT) k
theorem PCM.clo {f : Addr} {fd : FuncData} {body : List Stmt} {k : Nat} {names : List Str} {W : WS} {la : Addr} (ok : CloOk C f fd body k names) (j : Nat) (tail : List Int) {y : Str} (hy : names[k + j + tail.length]? = some y)
    (tl : ∀ L h i x v, C.K.In h → names[k + j + i]? = some x → tail[i]? = some v → ∃ t, Rd (callEnv fd L f) h x (.int v t))
    (rl : ∀ L h, C.K.In h → Rd (callEnv fd L f) h y (.ref la)) (ul : ∀ L h w, C.K.In h → Rd (callEnv fd L f) h y w → w = .ref la)
    (hb : ∀ A L h₀, FmOk C n (cloFm A fd f L h₀ names) → ExB C (cloFm A fd f L h₀ names) body W) :
    PCM C (n + 1) (.ref f) la (fun vs ds P => vs.length = k ∧ W (vs ++ (List.replicate j .unb ++ (tail.map V.int ++ [.mints ds]))) (fun o st' => ∃ ds', st'[k + j + tail.length]? = some (.mints ds') ∧ retP (fun v => P v ds') o st')) := by
  intro A U s vs ws ds P Q E hA wd tb al gU hla li r hT kk
  obtain ⟨wl, hpl, hin⟩ := li
  refine clo_gen (mm := [(k + j + tail.length, la)]) ok hb hA wd tb al gU (fun a ha => by simp at ha; subst ha; exact hla) (by simp) (fun p hp => ?_) r hT.1 (fun L h₁ i x v keep inK h1 h2 => ?_) hT.2 fun L h₀ o st' ad' h' tk fl hp hu e R' okF hf => ?_
  · simp at hp; subst hp; exact .inl ⟨_, hpl⟩
  · by_cases hi : i < tail.length
    · rw [List.getElem?_append_left (by simpa using hi), List.getElem?_map] at h2
      cases q : tail[i]? with
      | none => rw [q] at h2; cases h2
      | some u =>
        rw [q] at h2; injection h2 with h2; subst h2
        obtain ⟨t, rd⟩ := tl L h₁ i x u inK h1 q
        exact ⟨_, rd, by simp [VR]⟩
    · rw [List.getElem?_append_right (by simpa using hi), List.length_map] at h2
      have hi' : i = tail.length := by
        rcases Nat.lt_or_ge (i - tail.length) 1 with q | q
        · (clear ok hy tl rl ul hb hA wd tb al gU hla r hT kk hpl hin keep inK h1 h2; lia)
        · rw [List.getElem?_eq_none (by simpa using q)] at h2; cases h2
      subst hi'
      simp at h2
      subst h2
      rw [hy] at h1; injection h1 with h1; subst h1
      exact ⟨la, wl, List.mem_singleton.mpr rfl, rl L h₁ inK, hpl.at fun o e => keep _ o e, hin⟩
  · obtain ⟨ds', hs', hr⟩ := hp
    have inK' : C.K.In h' := (R'.wd okF).inK
    obtain ⟨a, ws', e1, e2, e3, e4⟩ := R'.vars _ y (.mints ds') hy hs'
    have ea := ul L h' _ inK' e2
    injection ea with ea; subst ea
    have keep : ∀ b o, b ∉ C.G → b ≠ a → s.heap.get? b = some o → h'.get? b = some o := fun b o hg hb e' => R'.stays b o hg (by show h₀.get? b = some o; rw [e]; exact hideAll_get _ e' (by simpa using hb))
    have hU : ∀ b ∈ a :: U, b ∈ (cloFm A fd f L h₀ names).U ad' := fun b hb => by
      rcases List.mem_cons.mp hb with q | q
      · rw [q]; exact List.mem_append_left _ (mem_own_ad e1)
      · exact List.mem_append_right _ (by rw [hu]; exact q)
    cases o with
    | ret v => simp only [FlowIs] at hf; obtain ⟨w, rfl, hv⟩ := hf; exact kk w v ds' h' tk hr keep R'.tb ⟨ws', e3, e4⟩ (hv.weaken hU)
    | nxt => simp only [FlowIs] at hf; subst hf; exact kk .none .none ds' h' tk hr keep R'.tb ⟨ws', e3, e4⟩ (by simp [VR])
    | brk => exact hr.elim
    | cnt => exact hr.elim
end
end Mine
end
section
open PySem PySem.Calls PyProof.Rows PySem.W PySem.Spec PySem.SeqAt
set_option Elab.async false
set_option maxRecDepth 10000
namespace Mine
section
variable {C : Cx} {F : Fm} {n : Nat} {ad : Ad} {st : List V} {s : Shared}
theorem EvX.callK (ok : FmOk C n F) {x : Str} {f : Value} {args : List Expr} {p pos : Pos} {Wa : WXs} {T : List V → (V → Prop) → Prop} {m : Nat} (hx : okName x = true) (rd : ∀ h, C.K.In h → Rd F.env h x f) (hk : KeepOk C f)
    (ha : EvXs C F args Wa) (hT : PC C m f T) (hm : m ≤ n) : EvX C F (.Call (.Name x p) args [] pos) (fun st P => Wa st fun vs => T vs P) := by
  intro ad st s P Q E hW R k
  show wpAny _ F.A (eval (.Name x p) F.env >>= fun f => callWith pos f [] (backTo pos (starEach args F.env)) (backToKw pos [])) Q E s
  refine wpAny_bind (wpAny_Name (wp_load_rd ok.kind hx (rd _ (R.wd ok).inK) ?_) (okName_debug hx))
  refine callWith_of (P := Wd C) (by rw [ha.1 pos]; rfl) (fun h w => keep_looks hk h w) (evalArgs_all (ha.1 pos) ?_)
  refine ha.2 pos ad st s _ _ _ hW R fun ws vs h₁ t₁ hT' g₁ r₁ => ?_
  have R' := R.grow ok g₁ (tk := t₁)
  refine ⟨R'.wd ok, ?_⟩
  refine hT F.A (F.U ad) _ vs ws P Q E (ok.a.le hm) (R'.wd ok) R'.tb R'.U_alive R.UG r₁ hT' fun w v h' tk hp g' hv => ?_
  exact k w v h' tk hp (g₁.trans g') hv
theorem EvX.subK (ok : FmOk C n F) {x : Str} {p : Pos} {slice : Expr} {pos : Pos} {W2 : WX} {l : Addr} {ds : List Int} (hx : okName x = true) (rd : ∀ h, C.K.In h → Rd F.env h x (.ref l)) (hl : ∀ h, C.K.In h → LI h l ds) (h2 : EvX C F slice W2) (hs : notSlice slice = true) :
    EvX C F (.Subscript (.Name x p) slice pos) (fun st P => W2 st fun b => subV (.ints ds) b P) := by
  intro ad st s P Q E hW R k
  refine Subscript_ (wpAny_Name (wp_load_rd ok.kind hx (rd _ (R.wd ok).inK) ?_) (okName_debug hx))
  refine h2 ad st s _ _ _ hW R fun wb b h₂ t₂ hb g₂ r₂ => ?_
  obtain ⟨ws, e3, e4⟩ := hl h₂ ((R.grow ok g₂ (tk := t₂)).wd ok).inK
  cases b with
  | int j =>
    simp only [VR] at r₂; obtain ⟨t, rfl⟩ := r₂
    obtain ⟨h0, h1, h3, h4⟩ := hb
    obtain ⟨u, hu⟩ := ints_at e4 h1
    exact tail_any (s := { s with heap := h₂, toks := t₂ }) e3.isList.typeIs slot_list_getitem.lookup (wpAny_getItem_list e3.isList h0 (by (clear ok hx rd hl h2 hs hW R k g₂ e3 e4 h1 h4 hu; omega)) (by simpa using hu) (k _ _ h₂ t₂ h4 g₂ (by simp [VR]))) (subscripted_plain hs)
  | _ => exact hb.elim
theorem EvX.ifExp (ok : FmOk C n F) {t a b : Expr} {pos : Pos} {W : WC} {W1 W2 : WX} (ht : EvC C F t W) (h1 : EvX C F a W1) (h2 : EvX C F b W2) :
    EvX C F (.IfExp t a b pos) (fun st P => W st fun c => (c = true → W1 st P) ∧ (c = false → W2 st P)) := by
  intro ad st s P Q E hW R k
  refine wpAny_IfExp (ht ad st s _ _ _ hW R fun c h₁ t₁ hP g₁ => ?_)
  cases c with
  | true => exact h1 ad st _ _ _ _ (hP.1 rfl) (R.grow ok g₁) fun w v h' tk hp g hv => k w v h' tk hp (g₁.trans g) hv
  | false => exact h2 ad st _ _ _ _ (hP.2 rfl) (R.grow ok g₁) fun w v h' tk hp g hv => k w v h' tk hp (g₁.trans g) hv
noncomputable def setSubW (W1 W2 : WX) (st : List V) (i : Nat) (P : V → Prop) : Prop := match getV st i with
  | .mints l => W2 st fun v => W1 st fun j => match v, j with
      | .int c, .int j => 0 ≤ j ∧ j.toNat < l.length ∧ j < 2 ^ 62 ∧ P (.mints (l.set j.toNat c))
      | _, _ => False
  | _ => False
theorem ExS.setSub (ok : FmOk C n F) {x : Str} {p spos pos : Pos} {idx e : Expr} {W1 W2 : WX} (i : Nat) (hi : F.names[i]? = some x) (h1 : EvX C F idx W1) (h2 : EvX C F e W2) (hc : notComp e = true) :
    ExS C F (.Assign [.Subscript (.Name x p) idx spos] e pos) (fun st P => setSubW W1 W2 st i fun u => P .nxt (st.set i u)) := by
  intro ad st s P Q E hW R k
  have hx := ok.names x (List.mem_of_getElem? hi)
  unfold setSubW at hW
  split at hW
  · rename_i l hv
    obtain ⟨a, ws, e1, e2, e3, e4⟩ := R.mints hi hv
    refine wpAny_Assign_Subscript (h2 ad st s _ _ _ hW R fun wv v h₁ t₁ hW1 g₁ r₁ => ?_) (swaps_no hc)
    have R1 := R.grow ok g₁ (tk := t₁)
    refine wpAny_Name (wp_load_rd ok.kind hx (e2.gr ok (R.LG ok) g₁) ?_) (okName_debug hx)
    refine h1 ad st _ _ _ _ hW1 R1 fun wj j h₂ t₂ hP g₂ r₂ => ?_
    have R2 := R1.grow ok g₂ (tk := t₂)
    split at hP
    · rename_i c j
      simp only [VR] at r₁ r₂; obtain ⟨tc, rfl⟩ := r₁; obtain ⟨tj, rfl⟩ := r₂
      obtain ⟨hj0, hj1, hj2, hP⟩ := hP
      obtain ⟨m, e3m⟩ := e3.at (h' := h₂) fun o e => (g₁.trans g₂).keep a o (R.ownG ok (mem_own_ad e1)) e
      refine ki_setAt (s := { s with heap := h₂, toks := t₂ }) (items := ws.toArray) e3m hj0 (by (clear ok hi h1 h2 hc R k hx hv hW e1 e2 e3 e4 g₁ R1 g₂ R2 hW1 hj1 hP e3m; omega)) (by have := e4.length; simp; (clear ok hi h1 h2 hc R k hx hv hW e1 e2 e3 e4 g₁ R1 g₂ R2 hW1 hP e3m; lia)) ?_
      have hp' : (h₂.update a (Obj.mapSeq (·.setIfInBounds j.toNat (.int c tc)))).PlainList a (ws.set j.toNat (.int c tc)).toArray := by
        refine ⟨m, ?_⟩
        rw [Heap.get?_update_self _ e3m rfl]
        simp [Obj.mapSeq]
      obtain ⟨R3, sp⟩ := R2.relist ok (tk := t₂) (v := .mints (l.set j.toNat c)) hi e1 (e2.gr ok (R.LG ok) (g₁.trans g₂)) (same_of (Heap.SameBut.update ..)) (.inl ⟨_, hp'⟩) fun rd _ => ⟨a, _, e1, rd, hp', IntsAre.set e4 _ _ _⟩
      exact k .nxt _ ad _ t₂ _ hP (Stp.trans (.of (g₁.trans g₂)) sp fun a ha => R3.ownG ok ha) R3 rfl
    · exact hP.elim
  · exact hW.elim
theorem ExS.callM (ok : FmOk C n F) {x y : Str} {f : Value} {la : Addr} {args : List Expr} {p pos pos' : Pos} {Wa : WXs} {T : List V → List Int → (V → List Int → Prop) → Prop} {m : Nat} (i : Nat) (hi : F.names[i]? = some y) (hx : okName x = true)
    (rd : ∀ h, C.K.In h → Rd F.env h x f) (hk : KeepOk C f) (ul : ∀ h w, C.K.In h → Rd F.env h y w → w = .ref la) (ha : EvXs C F args Wa) (hT : PCM C m f la T) (hm : m ≤ n) :
    ExS C F (.Expr (.Call (.Name x p) args [] pos) pos') (fun st P => match getV st i with
      | .mints ds => Wa st fun vs => T vs ds fun v ds' => v.isNone ∧ P .nxt (st.set i (.mints ds'))
      | _ => False) := by
  intro ad st s P Q E hW R k
  refine wpAny_Expr ?_ (interactive_no ok) (swaps_no rfl)
  split at hW
  · rename_i ds hv
    obtain ⟨a, wl, e1, e2, e3, e4⟩ := R.mints hi hv
    have ea := ul _ _ (R.wd ok).inK e2
    injection ea with ea; subst ea
    have ao : a ∈ F.own ad := mem_own_ad e1
    show wpAny _ F.A (eval (.Name x p) F.env >>= fun f => callWith pos f [] (backTo pos (starEach args F.env)) (backToKw pos [])) _ E s
    refine wpAny_bind (wpAny_Name (wp_load_rd ok.kind hx (rd _ (R.wd ok).inK) ?_) (okName_debug hx))
    refine callWith_of (P := Wd C) (by rw [ha.1 pos]; rfl) (fun h w => keep_looks hk h w) (evalArgs_all (ha.1 pos) ?_)
    refine ha.2 pos ad st s _ _ _ hW R fun ws vs h₁ t₁ hT' g₁ r₁ => ?_
    have R1 := R.grow ok g₁ (tk := t₁)
    refine ⟨R1.wd ok, ?_⟩
    have memU : ∀ b ∈ a :: (F.U ad).filter (fun b => b != a), b ∈ F.U ad := fun b hb => by
      rcases List.mem_cons.mp hb with q | q
      · rw [q]; exact List.mem_append_left _ ao
      · exact (List.mem_filter.mp q).1
    refine hT F.A ((F.U ad).filter (fun b => b != a)) _ vs ws ds _ _ E (ok.a.le hm) ?_ R1.tb (fun u hu => R1.U_alive u (List.mem_filter.mp hu).1) (fun g hg => List.mem_filter.mpr ⟨R.UG g hg, ?_⟩) (fun q => by have := (List.mem_filter.mp q).2; simp at this)
      ⟨wl, e3.at fun o e => g₁.keep a o (R.ownG ok ao) e, e4⟩ (r₁.weaken memU) hT' fun w v ds' h' tk hp keep tb li hv' => ?_
    · exact ok.wd.of fun b o hb e => hideAll_get _ (R1.stays b o hb e) (by simp; intro q; rw [q, R.fresh a ao] at e; cases e)
    · simp; intro q; exact R.ownG ok ao (q ▸ hg)
    · obtain ⟨hn, hp⟩ := hp
      cases v <;> try exact hn.elim
      simp only [VR] at hv'; subst hv'
      obtain ⟨wl', hpl, hin⟩ := li
      obtain ⟨R2, sp⟩ := R1.relistG ok (tk := tk) (v := .mints ds') hi e1 (e2.gr ok (R.LG ok) g₁) (fun b hb hne o e => keep b o hb hne e) tb (.inl ⟨_, hpl⟩) fun rd => ⟨a, _, e1, rd, hpl, hin⟩
      exact k .nxt _ ad h' tk _ hp (Stp.trans (.of g₁) sp fun a ha => R2.ownG ok ha) R2 rfl
  · exact hW.elim
end
end Mine
end
section
open PySem PySem.Calls PyProof.Rows PySem.W PySem.Spec PySem.SeqAt
set_option Elab.async false
set_option maxRecDepth 10000
namespace Mine
section
variable {C : Cx} {F : Fm} {n : Nat} {ad : Ad} {st : List V} {s : Shared}
theorem own_data (R : Rep C F ad st s) {a : Addr} (ha : a ∈ F.env.locals :: F.cells) {o : Obj} (e : s.heap.get? a = some o) : (∀ fd, o.data ≠ .func fd) ∧ (∀ vs, o.data ≠ .fields vs) := by
  rcases List.mem_cons.mp ha with rfl | ha
  · obtain ⟨m, o', es, ep, e', d, _⟩ := R.ns
    rw [e'] at e; injection e with e; subst e
    rw [d]; exact ⟨(by intro fd h; cases h), (by intro fd h; cases h)⟩
  · obtain ⟨v, o', e', d⟩ := R.cells a ha
    rw [e'] at e; injection e with e; subst e
    rw [d]; exact ⟨(by intro fd h; cases h), (by intro fd h; cases h)⟩
theorem hid_data (R : Rep C F ad st s) {a : Addr} {o : Obj} (e : s.heap.get? a = some o) (hd : (∃ fd, o.data = .func fd) ∨ (∃ vs, o.data = .fields vs ∧ o.cls = .type "code") ∨ (∃ v, o.data = .cell v)) : a ∉ F.env.locals :: ad.m.map (·.2) := by
  intro ha
  rcases List.mem_cons.mp ha with rfl | ha
  · obtain ⟨m, o', es, ep, e', d, _⟩ := R.ns
    rw [e'] at e; injection e with e; subst e
    rcases hd with ⟨_, q⟩ | ⟨_, q, _⟩ | ⟨_, q⟩ <;> (rw [d] at q; cases q)
  · obtain ⟨p, hp, rfl⟩ := List.mem_map.mp ha
    obtain ⟨o', e', q'⟩ := (R.ads p hp).obj
    rw [e'] at e; injection e with e; subst e
    rcases hd with ⟨_, q⟩ | ⟨_, q, qc⟩ | ⟨_, q⟩
    · rcases q' with ⟨_, _, _, z⟩ | ⟨_, _, z⟩ <;> (rw [z] at q; cases q)
    · rcases q' with ⟨_, _, c, z⟩ | ⟨_, c, z⟩
      · rw [z] at q; cases q
      · rw [c] at qc; simp at qc
    · rcases q' with ⟨_, _, _, z⟩ | ⟨_, _, z⟩ <;> (rw [z] at q; cases q)
theorem ex_nest {tabs : List Tab} (hC : TC C tabs) {t : Tab} (ht : t ∈ tabs) (ok : FmOk C n F) (R : Rep C F ad st s) {name : Str} {params : Arguments} {body : List Stmt} {scope : Scope} {pos : Pos} {clos : List (Str × Addr)} {i : Nat} {Q : Flow → Shared → Prop} {E : Value → Shared → Prop}
    (hd0 : params.defaults = []) (hk0 : params.kw_defaults = []) (ha : annTrees params none F.env = []) (hcl : closureFor scope F.env = pure clos) (hne : clos.isEmpty = false) (hdoc : docOf body = none) (hcode : F.env.code = .ref t.c)
    (hq : qualnameIn F.env name name = t.qual) (hpos : pos = t.pos) (hi : F.names[i]? = some name) (so : StoreOk F name) (hu : ∀ v, st[i]? = some v → v = .unb)
    (k : ∀ f c' oc fd h' tk, Rep C F ad st { s with heap := h', toks := tk } → Stp C F ad s.heap ad h' → Rd F.env h' name (.ref f) → h'.get? f = some { cls := .type "function", data := .func fd } →
      (∃ doc pm ctv, fd = fnX name t.qual params body scope clos .none .none doc pm none (.ref c') ctv) → h'.get? c' = some oc → (oc.cls = .type "code" ∧ ∃ vs t', oc.data = .fields vs ∧ vs[1]? = some (.str t.qual t')) → f ∉ C.G → c' ∉ C.G → Q .next { s with heap := h', toks := tk }) :
    wpAny (model C.prog C.w) F.A (exec (.FunctionDef name params body [] none [] scope none name pos) F.env) Q E s := by
  refine nestDef_K hd0 hk0 ha ?_
  rw [hq, hpos]
  refine def_made hC ht hcl hne hdoc ok.globals hcode (R.wd ok) R.tb fun f h₁ tk₁ fd dm => ?_
  obtain ⟨doc, pm, c', ctv, hfd, oc, vs, t', e1, e1c, e2, e3, e4⟩ := dm.isFd
  have R1 := R.grow ok dm.gr (tk := tk₁)
  refine R1.store0 ok hi hu so fun h₂ tk₂ R2 rd keep => ?_
  have kf : h₂.get? f = some { cls := .type "function", data := .func fd } := keep _ _ (fun q => (own_data R1 q dm.atF).1 _ rfl) dm.atF
  have kc : h₂.get? c' = some oc := keep _ _ (fun q => (own_data R1 q e1).2 _ e2) e1
  refine k f c' oc fd h₂ tk₂ R2 (Stp.trans (.of dm.gr) ⟨fun b o hb hn e => keep b o (fun q => hn ?_) e, fun a ha => .inl ha, rfl⟩ fun a ha => R2.ownG ok ha) rd kf ⟨doc, pm, ctv, hfd⟩ kc ⟨e1c, vs, t', e2, e3⟩ dm.out e4
  rcases List.mem_cons.mp q with e | e
  · rw [e]; exact List.mem_cons_self
  · exact List.mem_cons_of_mem _ (List.mem_append_left _ e)
noncomputable def paramsOf : Stmt → Arguments
  | .FunctionDef _ p _ _ _ _ _ _ _ _ => p
  | _ => ⟨[], [], none, [], [], none, []⟩
noncomputable def posOf : Stmt → Pos
  | .FunctionDef _ _ _ _ _ _ _ _ _ p => p
  | _ => ⟨0, 0, 0, 0⟩
noncomputable def subAt (p : Program) (i j : Nat) : Stmt := (bodyOf (defAt p i)).getD j (.Pass ⟨0, 0, 0, 0⟩)
end
end Mine
end
section
open PySem PySem.Calls PyProof.Rows PySem.W PySem.Spec PySem.SeqAt
set_option Elab.async false
namespace Mine
noncomputable abbrev wSubK (ds : List Int) (W2 : WX) : WX := fun st P => W2 st fun b => subV (.ints ds) b P
noncomputable abbrev wIf (W : WC) (W1 W2 : WX) : WX := fun st P => W st fun c => (c = true → W1 st P) ∧ (c = false → W2 st P)
noncomputable abbrev sSetSub (i : Nat) (W1 W2 : WX) : WS := fun st P => setSubW W1 W2 st i fun u => P .nxt (st.set i u)
noncomputable abbrev sCallM (i : Nat) (T : List V → List Int → (V → List Int → Prop) → Prop) (Wa : WXs) : WS := fun st P => match getV st i with
      | .mints ds => Wa st fun vs => T vs ds fun v ds' => v.isNone ∧ P .nxt (st.set i (.mints ds'))
      | _ => False
theorem stores_clo {A : Around} {fd : FuncData} {f L : Addr} {h₀ : Heap} {names : List Str} {k : Nat} (h : ((names.take k).all fun x => fd.scope.names.lookup x == some .local) = true) : ∀ x ∈ names.take k, StoreOk (cloFm A fd f L h₀ names) x := by
  intro x hx
  have := List.all_eq_true.mp h x hx
  exact .inl (beq_iff_eq.mp this)
end Mine
end
section
open PySem PySem.Calls PyProof.Rows PySem.W PySem.Spec PySem.SeqAt
set_option Elab.async false
set_option maxRecDepth 10000
namespace Mine
section
variable {C : Cx} {env : Env} {h : Heap} {x : Str} {w v : Value} {c : Addr}
theorem Rd.cell (hk : env.kindOf x = some .cell) (hc : env.cells.lookup x = some c) (r : Rd env h x w) : h.IsCell c (some w) := by
  unfold Rd at r; rw [hk] at r; obtain ⟨c', e, i⟩ := r; rw [hc] at e; injection e with e; subst e; exact i
theorem Rd.ofCell (hk : env.kindOf x = some .cell) (hc : env.cells.lookup x = some c) (i : h.IsCell c (some w)) : Rd env h x w := by
  unfold Rd; rw [hk]; exact ⟨c, hc, i⟩
theorem Rd.ofFree (hk : env.kindOf x = some .free) (hc : env.cells.lookup x = some c) (i : h.IsCell c (some w)) : Rd env h x w := by
  unfold Rd; rw [hk]; exact ⟨c, hc, i⟩
theorem Rd.free (hk : env.kindOf x = some .free) (hc : env.cells.lookup x = some c) (r : Rd env h x w) : h.IsCell c (some w) := by
  unfold Rd at r; rw [hk] at r; obtain ⟨c', e, i⟩ := r; rw [hc] at e; injection e with e; subst e; exact i
theorem IsCell.uniq (a : h.IsCell c (some w)) (b : h.IsCell c (some v)) : w = v := by
  obtain ⟨o, e, d⟩ := a; obtain ⟨o', e', d'⟩ := b
  rw [e] at e'; injection e' with e'; subst e'; rw [d] at d'; injection d' with d'; injection d'
theorem GN.ext {news : Frag} {hG : ∀ p ∈ news, p.1 ∉ C.G} (hm : ∀ p ∈ news, p.1 ≠ mainGlobals) {f : Value} (g : GN C x f) : GN (C.ext news hG) x f := by
  have e : nsIn (C.ext news hG).K mainGlobals x = nsIn C.K mainGlobals x := by
    unfold nsIn
    rw [show (C.ext news hG).K.lookup mainGlobals = C.K.lookup mainGlobals from lookup_append_skip hm]
  obtain ⟨g1, g2⟩ := g
  refine ⟨g1, ?_⟩
  rw [e]; exact g2
end
end Mine
end
section
open PySem PySem.Calls PyProof.Rows PySem.W PySem.Spec PySem.SeqAt
set_option Elab.async false
set_option maxRecDepth 10000
namespace Mine
noncomputable def slotsLike (h : Heap) (p : Addr × Obj) : Prop := ∃ sl, h.get? p.1 = some { p.2 with slots := sl }
structure FrL (C : Cx) (l : List (Addr × Obj)) : Prop where
  k : ∀ p ∈ l, C.K.lookup p.1 = none
  g : ∀ p ∈ l, p.1 ≠ mainGlobals
  b : ∀ p ∈ l, p.1 ≠ builtinsNs
  c : ∀ p ∈ l, p.1 ≠ cStatics
noncomputable def frC (C : Cx) (l : List (Addr × Obj)) (hl : FrL C l) : Cx := { C with
  G := l.map (·.1)
  Tb := fun h => ∀ p ∈ l, slotsLike h p
  stays := fun h h' t s p hp => let ⟨sl, e⟩ := t p hp; ⟨sl, s _ _ e⟩
  but := fun h h' S t hS k p hp => let ⟨sl, e⟩ := t p hp; ⟨sl, k _ _ (fun q => (hS _ q).1 (List.mem_map_of_mem hp)) e⟩
  alive := fun h t g hg => by obtain ⟨p, hp, rfl⟩ := List.mem_map.mp hg; obtain ⟨sl, e⟩ := t p hp; rw [e]; simp
  kG := fun g hg => by obtain ⟨p, hp, rfl⟩ := List.mem_map.mp hg; exact hl.k p hp
  gG := fun hg => by obtain ⟨p, hp, e⟩ := List.mem_map.mp hg; exact hl.g p hp e
  bG := fun hg => by obtain ⟨p, hp, e⟩ := List.mem_map.mp hg; exact hl.b p hp e
  cG := fun hg => by obtain ⟨p, hp, e⟩ := List.mem_map.mp hg; exact hl.c p hp e }
noncomputable def FramesAre (outer : List Env) (l : List (Addr × Obj)) : Prop := outer.map (·.frame) = l.map (fun p => some p.1) ∧ ∀ env ∈ outer, env.scope.kind ≠ .module
noncomputable def ZF (l : List (Addr × Obj)) (A : Around) : Prop := ∃ outer, A.frames = some outer ∧ FramesAre outer l ∧ ∀ p ∈ l, ∀ vs, p.2.data ≠ .fields vs
section
variable {C : Cx} {F : Fm} {n : Nat} {ad : Ad} {st : List V} {s : Shared}
theorem Ns.slots {h h' : Heap} {a : Addr} {m : Str → Option Value} (x : h.Ns a m) (k : ∀ o, h.get? a = some o → ∃ sl, h'.get? a = some { o with slots := sl }) : h'.Ns a m :=
  x.elim fun o y => y.elim fun es y => y.elim fun ep y => (k o y.1).elim fun sl e' => ⟨_, es, ep, e', y.2⟩
theorem Rep.reslot (R : Rep C F ad st s) (ok : FmOk C n F) {h' : Heap} {tk : Nat}
    (hs : ∀ b, b ∉ C.G → b ≠ F.env.locals → ∀ o, s.heap.get? b = some o → h'.get? b = some o) (hL : ∀ o, s.heap.get? F.env.locals = some o → ∃ sl, h'.get? F.env.locals = some { o with slots := sl }) (tb : C.Tb h') :
    Rep C F ad st { s with heap := h', toks := tk } ∧ Stp C F ad s.heap ad h' := by
  have nd := R.nd
  unfold Fm.own at nd
  rw [List.nodup_cons, List.nodup_append] at nd
  have Lo : F.env.locals ∈ F.own ad := List.mem_cons_self
  have own : ∀ b ∈ F.own ad, b ∉ C.G := fun b hb => R.ownG ok hb
  have nC : ∀ c ∈ F.cells, c ≠ F.env.locals := fun c hc e => nd.1 (e ▸ List.mem_append_left _ hc)
  have nA : ∀ p ∈ ad.m, p.2 ≠ F.env.locals := fun p hp e => nd.1 (e ▸ List.mem_append_right _ (List.mem_map_of_mem hp))
  have enot : ∀ c ∈ F.env.cells.map (·.2), c ≠ F.env.locals := fun c hc e => ok.cl (e ▸ hc)
  have kU : ∀ b o, b ∉ F.U ad → s.heap.get? b = some o → h'.get? b = some o := fun b o hb e => hs b (fun q => hb (R.UG b q)) (fun q => hb (List.mem_append_left _ (q ▸ Lo))) o e
  have rdk : ∀ y w, Rd F.env s.heap y w → Rd F.env h' y w := by
    intro y w r
    unfold Rd at r ⊢
    split at r
    · obtain ⟨m, a, b⟩ := r; exact ⟨m, Ns.slots a hL, b⟩
    · obtain ⟨c, a, ⟨o, e, d⟩⟩ := r; have hc := List.mem_map_of_mem (f := (·.2)) (lookup_mem a); exact ⟨c, a, o, hs c (ok.cG c hc) (enot c hc) o e, d⟩
    · obtain ⟨c, a, ⟨o, e, d⟩⟩ := r; have hc := List.mem_map_of_mem (f := (·.2)) (lookup_mem a); exact ⟨c, a, o, hs c (ok.cG c hc) (enot c hc) o e, d⟩
    · exact r.imp fun _ y => y.imp (fun z => z.at fun o e => hs _ (by rw [ok.globals]; exact C.gG) (R.globals_ne ok Lo) o e) id
    · exact r.elim
  refine ⟨{
    stays := fun b o hb e => hs b hb (fun q => by rw [q, R.fresh _ Lo] at e; cases e) o (R.stays b o hb e)
    tb := tb
    ns := by obtain ⟨m, q⟩ := R.ns; exact ⟨m, Ns.slots q hL⟩
    cells := by intro c hc; exact (R.cells c hc).imp fun _ y => IsCell.at y fun o e => hs c (own c (List.mem_cons_of_mem _ (List.mem_append_left _ hc))) (nC c hc) o e
    ads := fun p hp => (R.ads p hp).at fun o => hs _ (own _ (mem_own_ad hp)) (nA p hp) o
    gU := R.gU
    ec := by intro c hc; exact (R.ec c hc).imp fun _ y => IsCell.at y fun o e => hs c (ok.cG c hc) (enot c hc) o e
    fresh := R.fresh
    ux := fun u hu => by
      by_cases hg : u ∈ C.G
      · exact C.alive _ tb u hg
      · cases q : s.heap.get? u with
        | none => exact absurd q (R.ux u hu)
        | some o => show h'.get? u ≠ none; rw [hs u hg (fun e => R.apart _ Lo (e ▸ hu)) o q]; simp
    apart := R.apart
    nd := R.nd
    vars := by
      intro j y u h1 h2
      have r := R.vars j y u h1 h2
      cases u with
      | unb => trivial
      | mints l => obtain ⟨b, us, e1, e2, e3, e4⟩ := r; exact ⟨b, us, e1, rdk _ _ e2, e3.at fun o => hs _ (own _ (mem_own_ad e1)) (nA _ e1) o, e4⟩
      | mlist l => obtain ⟨b, us, e1, e2, e3, e4⟩ := r; exact ⟨b, us, e1, rdk _ _ e2, e3.at fun o => hs _ (own _ (mem_own_ad e1)) (nA _ e1) o, VRs.mono kU (fun _ hb => .inl hb) _ _ e4⟩
      | mit b l => obtain ⟨w', p, e1, e2, e3, e4⟩ := r; exact ⟨w', p, e1, rdk _ _ e2, e3.at fun o => hs _ (own _ (mem_own_ad e1)) (nA _ e1) o, e4.mono kU (fun _ hb => .inl hb)⟩
      | _ => obtain ⟨w, e1, e2⟩ := r; exact ⟨w, rdk _ _ e1, VR.mono kU (fun _ hb => .inl hb) _ _ e2⟩ },
    ⟨fun b o hg hb e => hs b hg (fun q => hb (q ▸ Lo)) o e, fun _ h => .inl h, rfl⟩⟩
structure Under (C : Cx) (L : Addr) (h : Heap) (C2 : Cx) : Prop where
  prog : C2.prog = C.prog
  w : C2.w = C.w
  wd : Wd C2 h
  tb : C2.Tb h
  gU : ∀ g ∈ C2.G, g = L ∨ g ∈ C.G
  back : ∀ h', Gr C2 h h' → (∀ b, b ∉ C.G → b ≠ L → ∀ o, h.get? b = some o → h'.get? b = some o) ∧ C.Tb h' ∧ (∀ o, h.get? L = some o → ∃ sl, h'.get? L = some { o with slots := sl })
theorem call_under (ok : FmOk C n F) (R : Rep C F ad st s) {f : Value} {m : Nat} {T : List V → (V → Prop) → Prop} {Z : Around → Prop} {C2 : Cx} (un : Under C F.env.locals s.heap C2) (hT : PCA Z C2 m f T) (hz : Z F.A) (hm : m ≤ n)
    {vs : List V} {ws : List Value} {P : V → Prop} {Q : Value → Shared → Prop} {E : Value → Shared → Prop} (r : VRs (F.U ad) s.heap vs ws) (hP : T vs P)
    (k : ∀ w v h' tk, P v → Rep C F ad st { s with heap := h', toks := tk } → Stp C F ad s.heap ad h' → VR (F.U ad) h' v w → Q w { s with heap := h', toks := tk }) :
    wpAny (model C.prog C.w) F.A (call f ws) Q E s := by
  rw [← un.prog, ← un.w]
  refine hT F.A (F.U ad) s vs ws P Q E hz (ok.a.le hm) un.wd un.tb R.U_alive (fun g hg => ?_) r hP fun w v h' tk hp g hv => ?_
  · rcases un.gU g hg with q | q
    · rw [q]; exact List.mem_append_left _ List.mem_cons_self
    · exact R.UG g q
  · obtain ⟨k1, k2, k3⟩ := un.back h' g
    obtain ⟨R', sp⟩ := R.reslot ok (tk := tk) k1 k3 k2
    exact k w v h' tk hp R' sp hv
theorem Under.first (ok : FmOk C n F) (R : Rep C F ad st s) : ∃ o, ∃ hl : FrL C [(F.env.locals, o)], Under C F.env.locals s.heap (frC C [(F.env.locals, o)] hl) ∧ ∀ vs, o.data ≠ .fields vs := by
  obtain ⟨m, o, es, ep, e, d, r⟩ := R.ns
  have Lo : F.env.locals ∈ F.own ad := List.mem_cons_self
  have wd := R.wd ok
  have ne : ∀ {x : Addr} {mx}, F.h₀.Ns x mx → F.env.locals ≠ x := fun {x mx} q z => by obtain ⟨o', _, _, e', _⟩ := q; rw [← z, R.fresh _ Lo] at e'; cases e'
  have hl : FrL C [(F.env.locals, o)] := {
    k := fun p hp => by
      rw [List.mem_singleton.mp hp]
      cases q : C.K.lookup F.env.locals with
      | none => rfl
      | some o' => have := ok.wd.inK _ _ q; rw [R.fresh _ Lo] at this; cases this
    g := fun p hp => by rw [List.mem_singleton.mp hp]; obtain ⟨mg, q⟩ := ok.wd.g; exact ne q
    b := fun p hp => by rw [List.mem_singleton.mp hp]; obtain ⟨mb, q, _⟩ := ok.wd.b; exact ne q
    c := fun p hp => by rw [List.mem_singleton.mp hp]; obtain ⟨mc, q, _⟩ := ok.wd.nl; exact ne q }
  refine ⟨o, hl, ⟨rfl, rfl, ⟨wd.inK, wd.g, wd.b, wd.nl, ?_⟩, fun p hp => ?_, fun g hg => ?_, fun h' g => ⟨fun b hb hn o' e' => ?_, ?_, fun o' e' => ?_⟩⟩, fun vs q => by rw [d] at q; cases q⟩
  · obtain ⟨mg, bm, ob, q1, q2, q3, q4, q5, q6, q7, q8, q9⟩ := wd.bm
    refine ⟨mg, bm, ob, q1, q2, q3, q4, fun z => ?_, q6, q7, q8, q9⟩
    have z : bm = F.env.locals := by simpa [frC] using z
    rw [z, e] at q6; injection q6 with q6; subst q6; rw [d] at q9; cases q9
  · rw [List.mem_singleton.mp hp]; exact ⟨o.slots, e⟩
  · exact .inl (by simpa [frC] using hg)
  · exact g.keep b o' (by simpa [frC] using hn) e'
  · refine C.but s.heap h' [F.env.locals] R.tb (fun a ha => ⟨by rw [List.mem_singleton.mp ha]; exact R.LG ok, ?_⟩) fun b o' hb e' => g.keep b o' (by simpa [frC] using hb) e'
    intro o' e' vs q
    rw [List.mem_singleton.mp ha, e] at e'; injection e' with e'; subst e'; rw [d] at q; cases q
  · rw [e] at e'; injection e' with e'; subst e'
    exact g.tb (fun p hp => by rw [List.mem_singleton.mp hp]; exact ⟨o.slots, e⟩) (F.env.locals, o) (List.mem_singleton.mpr rfl)
end
end Mine
end
section
open PySem PySem.Calls PyProof.Rows PySem.W PySem.Spec PySem.SeqAt
set_option Elab.async false
set_option maxRecDepth 10000
namespace Mine
section
variable {C : Cx} {F : Fm} {n : Nat} {ad : Ad} {st : List V} {s : Shared}
theorem Under.next {l : List (Addr × Obj)} {hl : FrL C l} (ok : FmOk (frC C l hl) n F) (R : Rep (frC C l hl) F ad st s) :
    ∃ o, ∃ hl2 : FrL C ((F.env.locals, o) :: l), Under (frC C l hl) F.env.locals s.heap (frC C ((F.env.locals, o) :: l) hl2) ∧ ∀ vs, o.data ≠ .fields vs := by
  obtain ⟨m, o, es, ep, e, d, r⟩ := R.ns
  have Lo : F.env.locals ∈ F.own ad := List.mem_cons_self
  have wd := R.wd ok
  have ne : ∀ {x : Addr} {mx}, F.h₀.Ns x mx → F.env.locals ≠ x := fun {x mx} q z => by obtain ⟨o', _, _, e', _⟩ := q; rw [← z, R.fresh _ Lo] at e'; cases e'
  have hl2 : FrL C ((F.env.locals, o) :: l) := {
    k := fun p hp => by
      rcases List.mem_cons.mp hp with q | q
      · rw [q]
        cases q : C.K.lookup F.env.locals with
        | none => rfl
        | some o' => have := ok.wd.inK _ _ q; rw [R.fresh _ Lo] at this; cases this
      · exact hl.k p q
    g := fun p hp => by
      rcases List.mem_cons.mp hp with q | q
      · rw [q]; obtain ⟨mg, q⟩ := ok.wd.g; exact ne q
      · exact hl.g p q
    b := fun p hp => by
      rcases List.mem_cons.mp hp with q | q
      · rw [q]; obtain ⟨mb, q, _⟩ := ok.wd.b; exact ne q
      · exact hl.b p q
    c := fun p hp => by
      rcases List.mem_cons.mp hp with q | q
      · rw [q]; obtain ⟨mc, q, _⟩ := ok.wd.nl; exact ne q
      · exact hl.c p q }
  have tb2 : (frC C ((F.env.locals, o) :: l) hl2).Tb s.heap := fun p hp => by
    rcases List.mem_cons.mp hp with q | q
    · rw [q]; exact ⟨o.slots, e⟩
    · exact R.tb p q
  refine ⟨o, hl2, ⟨rfl, rfl, ⟨wd.inK, wd.g, wd.b, wd.nl, ?_⟩, tb2, fun g hg => ?_, fun h' g => ⟨fun b hb hn o' e' => ?_, fun p hp => ?_, fun o' e' => ?_⟩⟩, fun vs q => by rw [d] at q; cases q⟩
  · obtain ⟨mg, bm, ob, q1, q2, q3, q4, q5, q6, q7, q8, q9⟩ := wd.bm
    refine ⟨mg, bm, ob, q1, q2, q3, q4, fun z => ?_, q6, q7, q8, q9⟩
    rcases List.mem_cons.mp (show bm ∈ F.env.locals :: l.map (·.1) from z) with z | z
    · rw [z, e] at q6; injection q6 with q6; subst q6; rw [d] at q9; cases q9
    · exact q5 z
  · exact List.mem_cons.mp (show g ∈ F.env.locals :: l.map (·.1) from hg)
  · exact g.keep b o' (fun z => (List.mem_cons.mp (show b ∈ F.env.locals :: l.map (·.1) from z)).elim hn hb) e'
  · exact g.tb tb2 p (List.mem_cons_of_mem _ hp)
  · rw [e] at e'; injection e' with e'; subst e'
    exact g.tb tb2 (F.env.locals, o) List.mem_cons_self
noncomputable def PCX (C : Cx) (n : Nat) (f : Value) (T : List V → (V → Prop) → Prop) : Prop := ∀ l hl, PCA (ZF l) (frC C l hl) n f T
noncomputable def UnX (C : Cx) (F : Fm) (m : Nat) (f : Value) (T : List V → (V → Prop) → Prop) : Prop :=
  ∀ (ad : Ad) (st : List V) (s : Shared), Rep C F ad st s → ∃ (C2 : Cx) (Z : Around → Prop), Under C F.env.locals s.heap C2 ∧ Z F.A ∧ PCA Z C2 m f T
theorem un_first {m : Nat} {f : Value} {T : List V → (V → Prop) → Prop} (ok : FmOk C n F) (hf : F.env.frame = some F.env.locals) (hfr : F.A.frames = some [F.env]) (h : PCX C m f T) : UnX C F m f T := by
  intro ad st s R
  obtain ⟨o, hl, un, nf⟩ := Under.first ok R
  refine ⟨_, _, un, ⟨[F.env], hfr, ⟨by simp [hf], fun env he => ?_⟩, fun p hp => ?_⟩, h _ hl⟩
  · rw [List.mem_singleton.mp he, ok.kind]; simp
  · rw [List.mem_singleton.mp hp]; exact nf
theorem eval_callX (ok : FmOk C n F) {x : Str} {f : Value} {args : List Expr} {p pos : Pos} {Wa : WXs} {T : List V → (V → Prop) → Prop} {m : Nat} (g : GN C x f) (hx : F.env.kindOf x = some .globalImplicit) (hk : KeepOk C f) (ha : EvXs C F args Wa) (hT : UnX C F m f T) (hm : m ≤ n)
    (R : Rep C F ad st s) {P : V → Prop} {Q : Value → Shared → Prop} {E : Value → Shared → Prop} (hW : Wa st fun vs => T vs P)
    (k : ∀ w v h' tk, P v → Rep C F ad st { s with heap := h', toks := tk } → Stp C F ad s.heap ad h' → VR (F.U ad) h' v w → Q w { s with heap := h', toks := tk }) :
    wpAny (model C.prog C.w) F.A (eval (.Call (.Name x p) args [] pos) F.env) Q E s := by
  show wpAny _ F.A (eval (.Name x p) F.env >>= fun f => callWith pos f [] (backTo pos (starEach args F.env)) (backToKw pos [])) Q E s
  refine wpAny_bind (name_gn ok.kind ok.globals ok.builtins hx (R.wd ok) g ?_)
  refine callWith_of (P := Wd C) (by rw [ha.1 pos]; rfl) (fun h w => keep_looks hk h w) (evalArgs_all (ha.1 pos) ?_)
  refine ha.2 pos ad st s _ _ _ hW R fun ws vs h₁ t₁ hT' g₁ r₁ => ?_
  have R' := R.grow ok g₁ (tk := t₁)
  refine ⟨R'.wd ok, ?_⟩
  obtain ⟨C2, Z, un, hz, hc⟩ := hT _ _ _ R'
  refine call_under ok R' un hc hz hm r₁ hT' fun w v h' tk hp R2 sp hv => ?_
  exact k w v h' tk hp R2 (Stp.trans (.of g₁) sp fun a ha => R2.ownG ok ha) hv
theorem ExS.assignX (ok : FmOk C n F) {y x : Str} {f : Value} {args : List Expr} {py p cpos pos : Pos} {Wa : WXs} {T : List V → (V → Prop) → Prop} {m : Nat} (i : Nat) (hi : F.names[i]? = some y) (so : StoreOk F y) (g : GN C x f) (hx : F.env.kindOf x = some .globalImplicit) (hk : KeepOk C f) (ha : EvXs C F args Wa) (hT : UnX C F m f T) (hm : m ≤ n) :
    ExS C F (.Assign [.Name y py] (.Call (.Name x p) args [] cpos) pos) (fun st P => Wa st fun vs => T vs fun v => P .nxt (st.set i v)) := by
  intro ad st s P Q E hW R k
  refine wpAny_Assign_Name (eval_callX ok g hx hk ha hT hm R hW fun w v h₁ t₁ hp R1 sp r₁ => ?_) (swaps_no rfl)
  exact R1.store ok hi so r₁ fun h' tk R' kp => k .nxt _ _ h' tk .next hp (Stp.trans sp (.drop kp) fun a ha => R'.ownG ok ha) R' rfl
end
end Mine
end
section
open PySem PySem.Calls PyProof.Rows PySem.W PySem.Spec PySem.SeqAt
set_option Elab.async false
set_option maxRecDepth 10000
namespace Mine
section
variable {prog : Program} {w₀ : World} {A : Around} {E : Value → Shared → Prop} {s : Shared}
theorem ItAt.typeIs {it : Addr} {w : Value} {p : Nat} (x : ItAt s.heap it w p) : s.TypeIs (.ref it) "list_iterator" := let ⟨o, e, c, _⟩ := x; ⟨o, e, c⟩
theorem call_next {it : Addr} {w : Value} {p : Nat} {Q : Value → Shared → Prop} (hit : ItAt s.heap it w p)
    (h : wpAny (model prog w₀) A.in1 (callSpecial? (.ref it) (Str.ofString "__next__")) (fun v s' => ∃ x, v = some x ∧ Q x s') E s) : wpAny (model prog w₀) A (call (.builtin "next") [.ref it]) Q E s := by
  refine call_function_entry (by decide +kernel) (by decide +kernel) kdk_entry_next (kdk_args_next _) ?_
  unfold Builtin.«next»
  refine wpAny_bind (m := someArgs "next" 1 2 _) (wpAny_of_eq (a := [Value.ref it]) (by first | rfl | kernel_rfl!) ?_)
  dsimp only
  refine wpAny_bind (wpAny_specialOf (name := Str.ofString "__next__") hit.typeIs slot_listiter_next.lookup ?_)
  refine wpAny_ite_split (fun hab => absurd hab (by decide)) (fun _ => ?_)
  refine wpAny_bind (wpAny_mono h (fun v s' h' => ?_) fun _ _ x => x)
  obtain ⟨x, rfl, hq⟩ := h'
  exact wpAny_pure ⟨_, rfl, hq⟩
theorem next_item {it l : Addr} {p : Nat} {items : Array Value} {x : Value} {Q : Value → Shared → Prop} (hit : ItAt s.heap it (.ref l) p) (hl : s.heap.IsList l items) (hx : items[p]? = some x)
    (hQ : ∀ h', ItAt h' it (.ref l) (p + 1) → Heap.SameBut it s.heap h' → Q x { s with heap := h' }) :
    wpAny (model prog w₀) A (call (.builtin "next") [.ref it]) Q E s := by
  refine call_next hit ?_
  obtain ⟨o, ho, hc, hd⟩ := id hit
  obtain ⟨ol, hol, _, nl, hdl⟩ := hl
  refine wpAny_callSpecial?_slot (name := Str.ofString "__next__") hit.typeIs slot_listiter_next
    (wpAny_call_entry slot_listiter_next hit.typeIs entry_listiter_next ?_ (args_listiter_next _))
  show wpAny _ _ (field (.ref it) 0 >>= _) _ _ s
  refine wpAny_bind (wpAny_field ho hd (x := .ref l) rfl ?_)
  show wpAny _ _ (if (Value.ref l == Value.none) = true then _ else _) _ _ s
  rw [if_neg (show ¬ ((Value.ref l == Value.none) = true) from Bool.false_ne_true)]
  show wpAny _ _ (field (.ref it) 1 >>= _) _ _ s
  refine wpAny_bind (wpAny_field ho hd (x := .int p 0) rfl ?_)
  show wpAny _ _ (seqItems? (.ref l) >>= _) _ _ s
  refine wpAny_bind (wpAny_seqItems hol hdl ?_)
  simp only [Int.toNat_natCast, hx]
  refine wpAny_bind (wpAny_setField ho hd (by simp) (wpAny_pure ⟨x, rfl, x, rfl, hQ _ ?_ (Heap.SameBut.update ..)⟩))
  exact ⟨_, Heap.get?_update_self _ ho (Obj.isFreed_of_fields (Obj.data_mapFields hd _)), (Obj.cls_mapFields ..).trans hc, by
    rw [Obj.data_mapFields hd]; simp [rawInt]⟩
theorem stop_made {α : Type} {B : Around} (hh : B.handled = none) {Q : α → Shared → Prop} (hE : ∀ h' e, Heap.MadeExcOf s.heap h' e (.type "StopIteration") [] → E (.ref e) { s with heap := h' }) :
    wpAny (model prog w₀) B (Builtin.SmallTypes.stopIteration : Sem α) Q E s := by
  show wpAny _ _ (newExc (.type "StopIteration") [] >>= _) _ _ _
  refine wpAny_bind ?_
  simp only [newExc, newTuple]
  refine wpAny_bind (wpAny_newObj_type ?_ (by size_fits))
  refine wpAny_bind (m := firstArgMember _ _) (wpAny_of_eq (a := Value.none) (by first | rfl | (simp only [firstArgMember]; rfl)) ?_)
  refine wpAny_newObj_type ?_ (by size_fits)
  simp only [raiseNew]
  refine wpAny_bind (wpAny_handled ?_)
  rw [hh]
  refine wpAny_bind (wpAny_pure (wpAny_throw ?_))
  refine hE _ _ ⟨fun b o e => Heap.get?_push_of_some _ (Heap.get?_push_of_some _ e), Heap.get?_none_of_le (by rw [Heap.size_push]; (clear hh hE; lia)), s.heap.objs.size, Heap.get?_push_size _ rfl, Heap.get?_none_of_le (Nat.le_refl _), Heap.get?_push_of_some _ (Heap.get?_push_size _ rfl)⟩
theorem next_end {it l : Addr} {p : Nat} {items : Array Value} {Q : Value → Shared → Prop} (hh : A.handled = none) (hit : ItAt s.heap it (.ref l) p) (hl : s.heap.IsList l items) (hx : items[p]? = none)
    (hE : ∀ h₁ h' e, ItAt h₁ it .none p → Heap.SameBut it s.heap h₁ → Heap.MadeExcOf h₁ h' e (.type "StopIteration") [] → E (.ref e) { s with heap := h' }) :
    wpAny (model prog w₀) A (call (.builtin "next") [.ref it]) Q E s := by
  refine call_next hit ?_
  obtain ⟨o, ho, hc, hd⟩ := id hit
  obtain ⟨ol, hol, _, nl, hdl⟩ := hl
  refine wpAny_callSpecial?_slot (name := Str.ofString "__next__") hit.typeIs slot_listiter_next
    (wpAny_call_entry slot_listiter_next hit.typeIs entry_listiter_next ?_ (args_listiter_next _))
  show wpAny _ _ (field (.ref it) 0 >>= _) _ _ s
  refine wpAny_bind (wpAny_field ho hd (x := .ref l) rfl ?_)
  show wpAny _ _ (if (Value.ref l == Value.none) = true then _ else _) _ _ s
  rw [if_neg (show ¬ ((Value.ref l == Value.none) = true) from Bool.false_ne_true)]
  show wpAny _ _ (field (.ref it) 1 >>= _) _ _ s
  refine wpAny_bind (wpAny_field ho hd (x := .int p 0) rfl ?_)
  show wpAny _ _ (seqItems? (.ref l) >>= _) _ _ s
  refine wpAny_bind (wpAny_seqItems hol hdl ?_)
  simp only [Int.toNat_natCast, hx]
  refine wpAny_bind (wpAny_rule (wpAny_bind (wpAny_setField ho hd (by simp) ?_)))
  refine stop_made (s := { s with heap := s.heap.update it (Obj.mapFields (·.setIfInBounds 0 .none)) }) (show A.in1.in1.handled = none from hh) fun h' e me => hE _ h' e ?_ (Heap.SameBut.update ..) me
  exact ⟨_, Heap.get?_update_self _ ho (Obj.isFreed_of_fields (Obj.data_mapFields hd _)), (Obj.cls_mapFields ..).trans hc, by
    rw [Obj.data_mapFields hd]; simp⟩
theorem next_gone {it : Addr} {p : Nat} {Q : Value → Shared → Prop} (hh : A.handled = none) (hit : ItAt s.heap it .none p)
    (hE : ∀ h' e, Heap.MadeExcOf s.heap h' e (.type "StopIteration") [] → E (.ref e) { s with heap := h' }) :
    wpAny (model prog w₀) A (call (.builtin "next") [.ref it]) Q E s := by
  refine call_next hit ?_
  obtain ⟨o, ho, hc, hd⟩ := id hit
  refine wpAny_callSpecial?_slot (name := Str.ofString "__next__") hit.typeIs slot_listiter_next
    (wpAny_call_entry slot_listiter_next hit.typeIs entry_listiter_next ?_ (args_listiter_next _))
  show wpAny _ _ (field (.ref it) 0 >>= _) _ _ s
  refine wpAny_bind (wpAny_field ho hd (x := .none) rfl ?_)
  show wpAny _ _ (if (Value.none == Value.none) = true then _ else _) _ _ s
  rw [if_pos (show ((Value.none == Value.none) = true) from rfl)]
  exact wpAny_bind (wpAny_rule (wpAny_bind (stop_made (show A.in1.in1.handled = none from hh) hE)))
end
end Mine
end
section
open PySem PySem.Calls PyProof.Rows PySem.W PySem.Spec PySem.SeqAt
set_option Elab.async false
set_option maxRecDepth 10000
namespace Mine
noncomputable abbrev WSX := List V → (Out → List V → Prop) → (List V → Prop) → Prop
noncomputable abbrev PostE (X : Heap → Heap → Addr → Prop) (C : Cx) (F : Fm) (ad : Ad) (s : Shared) (PE : List V → Prop) (E : Value → Shared → Prop) : Prop :=
  ∀ st' ad' h₁ tk h' tk' e, PE st' → Stp C F ad s.heap ad' h₁ → Rep C F ad' st' { s with heap := h₁, toks := tk } → X h₁ h' e → E (.ref e) { s with heap := h', toks := tk' }
noncomputable def ExSX (X : Heap → Heap → Addr → Prop) (C : Cx) (F : Fm) (x : Stmt) (W : WSX) : Prop :=
  ∀ (ad : Ad) (st : List V) (s : Shared) (P : Out → List V → Prop) (PE : List V → Prop) (Q : Flow → Shared → Prop) (E : Value → Shared → Prop), W st P PE → Rep C F ad st s → Post C F ad s P Q → PostE X C F ad s PE E →
    wpAny (model C.prog C.w) F.A (exec x F.env) Q E s
noncomputable def ExBX (X : Heap → Heap → Addr → Prop) (C : Cx) (F : Fm) (x : List Stmt) (W : WSX) : Prop :=
  ∀ (ad : Ad) (st : List V) (s : Shared) (P : Out → List V → Prop) (PE : List V → Prop) (Q : Flow → Shared → Prop) (E : Value → Shared → Prop), W st P PE → Rep C F ad st s → Post C F ad s P Q → PostE X C F ad s PE E →
    wpAny (model C.prog C.w) F.A (execs x F.env) Q E s
noncomputable def XCl (X : Heap → Heap → Addr → Prop) (C : Cx) (F : Fm) : Prop := ∀ (s : Shared) (h₁ : Heap) (e : Addr) (E : Value → Shared → Prop), X h₁ s.heap e → (∀ h', X h₁ h' e → E (.ref e) { s with heap := h' }) → notedBy (model C.prog C.w) F.A F.env (cameBackBy (model C.prog C.w) F.A F.env E) (.ref e) s
section
variable {C : Cx} {F : Fm} {n : Nat} {X : Heap → Heap → Addr → Prop}
theorem ExSX.lift {x : Stmt} {W : WS} (h : ExS C F x W) : ExSX X C F x (fun st P _ => W st P) := fun ad st s P _ Q E hW R k _ => h ad st s P Q E hW R k
theorem ExBX.lift {x : List Stmt} {W : WS} (h : ExB C F x W) : ExBX X C F x (fun st P _ => W st P) := fun ad st s P _ Q E hW R k _ => h ad st s P Q E hW R k
theorem ExBX.nil : ExBX X C F [] (fun st P _ => P .nxt st) := ExBX.lift ExB.nil
noncomputable def seqPX (W2 : WSX) (P : Out → List V → Prop) (PE : List V → Prop) : Out → List V → Prop
  | .nxt, st => W2 st P PE
  | o, st => P o st
theorem ExBX.cons {x : Stmt} {xs : List Stmt} {W1 W2 : WSX} (h1 : ExSX X C F x W1) (h2 : ExBX X C F xs W2) : ExBX X C F (x :: xs) (fun st P PE => W1 st (seqPX W2 P PE) PE) := by
  intro ad st s P PE Q E hW R k kE
  refine wpAny_execs_cons (h1 ad st s _ _ _ _ hW R (fun o st' ad' h' tk fl hp sp R' hf => ?_) kE)
  cases o with
  | nxt =>
    simp only [FlowIs] at hf; subst hf
    exact h2 ad' st' _ P PE Q E hp R' (fun o st'' ad'' h'' tk'' fl hp' sp' R'' hf' => k o st'' ad'' h'' tk'' fl hp' (sp.trans sp' fun a ha q => R''.apart a ha (R''.gU a q)) R'' hf')
      fun st'' ad'' h₁ tk₁ h'' tk'' e hp' sp' R'' hx => kE st'' ad'' h₁ tk₁ h'' tk'' e hp' (sp.trans sp' fun a ha q => R''.apart a ha (R''.gU a q)) R'' hx
  | brk => have hf' := hf; simp only [FlowIs] at hf'; subst hf'; exact k .brk st' ad' h' tk _ hp sp R' hf
  | cnt => have hf' := hf; simp only [FlowIs] at hf'; subst hf'; exact k .cnt st' ad' h' tk _ hp sp R' hf
  | ret v => have hf' := hf; simp only [FlowIs] at hf'; obtain ⟨w, rfl, _⟩ := hf'; exact k (.ret v) st' ad' h' tk _ hp sp R' hf
theorem ExSX.while (cl : XCl X C F) (ok : FmOk C n F) {t : Expr} {b : List Stmt} {pos : Pos} {W : WC} {W1 : WSX} (ht : EvC C F t W) (h1 : ExBX X C F b W1) :
    ExSX X C F (.While t b [] pos) (fun st P PE => ∃ I : Nat → List V → Prop, (∃ m, I m st) ∧ ∀ m st, I m st → W st fun c => (c = true → W1 st (whileP m I P) PE) ∧ (c = false → P .nxt st)) := by
  intro ad st s P PE Q E ⟨I, ⟨m, hm⟩, hI⟩ R k kE
  refine wpAny_While ?_
  refine codeAny_whileLoop (I := fun m s' => ∃ st' ad' h' tk, s' = { s with heap := h', toks := tk } ∧ Stp C F ad s.heap ad' h' ∧ Rep C F ad' st' s' ∧ I m st') ?_ m ⟨st, ad, s.heap, s.toks, rfl, .of (.refl ..), R, hm⟩
  rintro m s' ⟨st', ad', h', tk, rfl, sp, R', hm'⟩
  refine ht ad' st' _ _ _ _ (hI m st' hm') R' fun c h₁ t₁ hp g₁ => ?_
  have R1 := R'.grow ok g₁ (tk := t₁)
  cases c with
  | true =>
    simp only [if_true]
    refine h1 ad' st' _ _ _ _ _ (hp.1 rfl) R1 (fun o st₂ ad₂ h₂ t₂ fl hp₂ sp₂ R₂ hf => ?_) fun st₂ ad₂ h₂ t₂ hX tkX eX hp₂ sp₂ R₂ hx => cl { s with heap := hX, toks := tkX } h₂ eX E hx fun hY hy => kE st₂ ad₂ h₂ t₂ hY tkX eX hp₂ (sp.trans (Stp.trans (.of g₁) sp₂ fun a ha => R₂.ownG ok ha) fun a ha => R₂.ownG ok ha) R₂ hy
    have sp₃ : Stp C F ad s.heap ad₂ h₂ := sp.trans (Stp.trans (.of g₁) sp₂ fun a ha => R₂.ownG ok ha) fun a ha => R₂.ownG ok ha
    cases o with
    | nxt => simp only [FlowIs] at hf; subst hf; obtain ⟨m', hlt, hI'⟩ := hp₂; exact ⟨m', hlt, st₂, ad₂, h₂, t₂, rfl, sp₃, R₂, hI'⟩
    | cnt => simp only [FlowIs] at hf; subst hf; obtain ⟨m', hlt, hI'⟩ := hp₂; exact ⟨m', hlt, st₂, ad₂, h₂, t₂, rfl, sp₃, R₂, hI'⟩
    | brk => simp only [FlowIs] at hf; subst hf; exact k .nxt st₂ ad₂ h₂ t₂ _ hp₂ sp₃ R₂ rfl
    | ret v => have hf' := hf; simp only [FlowIs] at hf'; obtain ⟨w, rfl, hv⟩ := hf'; exact k (.ret v) st₂ ad₂ h₂ t₂ _ hp₂ sp₃ R₂ hf
  | false =>
    simp only [Bool.false_eq_true, if_false]
    exact wpAny_execs_nil (k .nxt st' ad' h₁ t₁ _ (hp.2 rfl) (sp.trans (.of g₁) fun a ha => R1.ownG ok ha) R1 rfl)
theorem ExSX.for (cl : XCl X C F) (ok : FmOk C n F) {x : Str} {px pos : Pos} {it : Expr} {b : List Stmt} {W : WXs} {W1 : WSX} (i : Nat) (hi : F.names[i]? = some x) (so : StoreOk F x) (hit : EvI C F it W) (h1 : ExBX X C F b W1) :
    ExSX X C F (.For (.Name x px) it b [] pos) (fun st P PE => W st fun vs => ∃ I : Nat → List V → Prop, I 0 st ∧ (∀ j v st, vs[j]? = some v → I j st → W1 (st.set i v) (loopP I j P) PE) ∧ (∀ st, I vs.length st → P .nxt st)) := by
  intro ad st s P PE Q E hW R k kE
  refine wpAny_For (hit.2 ad st s _ _ _ hW R fun it vs h' tk hp g hI => ?_) hit.1
  obtain ⟨I, h0, hstep, hend⟩ := hp
  obtain ⟨Ia, fp, wr, PP, St, rfl, Wk, hst, hdead, hal, hfp, hval⟩ := hI
  have R0 : Rep C F ⟨ad.m, wr ++ ad.ux⟩ st { s with heap := h', toks := tk } := R.shield ok g fun b hb => ⟨hdead b hb, by obtain ⟨o, e, _⟩ := hal 0 h' hst b hb; rw [e]; simp⟩
  have hwG : ∀ b ∈ wr, b ∉ C.G := fun b hb q => C.alive _ R.tb b q (hdead b hb)
  have hwF : ∀ b ∈ wr, F.h₀.get? b = none := fun b hb => by
    cases z : F.h₀.get? b with
    | none => rfl
    | some o => have := R.stays b o (hwG b hb) z; rw [hdead b hb] at this; cases this
  have hwC : ∀ b ∈ wr, b ∉ F.env.cells.map (·.2) := fun b hb q => by obtain ⟨v, o, e, _⟩ := R.ec b q; rw [hdead b hb] at e; cases e
  have hwg : ∀ b ∈ wr, b ≠ mainGlobals := fun b hb e => by
    obtain ⟨mg, o, _, _, q, _⟩ := ok.wd.g
    have := hwF b hb; rw [e, q] at this; cases this
  refine codeAny_forLoop (I := fun m s' => ∃ j st' ad' h'' tk', m + j = vs.length + 1 ∧ s' = { s with heap := h'', toks := tk' } ∧ j ≤ vs.length ∧ (∀ b o, b ∉ C.G → b ∉ F.own ad → b ∉ wr → h'.get? b = some o → h''.get? b = some o) ∧ (∀ a ∈ F.own ad', a ∈ F.own ad ∨ h'.get? a = none) ∧ ad'.ux = wr ++ ad.ux ∧ Rep C F ad' st' s' ∧ St j h'' ∧ I j st') ?_ (vs.length + 1)
    ⟨0, st, ⟨ad.m, wr ++ ad.ux⟩, h', tk, rfl, rfl, Nat.zero_le _, fun _ _ _ _ _ e => e, fun _ h => .inl h, rfl, R0, hst, h0⟩ (by intro _; rfl)
  rintro m s' ⟨j, st', ad', h'', tk', hm, rfl, hj, skept, sown, hux, R', hst', hI'⟩
  have hwu : ∀ b ∈ wr, b ∈ ad'.ux := fun b hb => by rw [hux]; exact List.mem_append_left _ hb
  have hwx : ∀ b ∈ wr, b ∉ ad.ux := fun b hb q => R.ux b q (hdead b hb)
  have fpo : ∀ b ∈ fp, b ∉ C.G ∧ b ∉ F.own ad' := by
    intro b hb
    rcases hfp b hb with q | ⟨q1, q2⟩
    · exact ⟨hwG b q, fun z => R'.apart b z (hwu b q)⟩
    · refine ⟨fun z => q1 (R.UG b z), fun z => ?_⟩
      rcases sown b z with y | y
      · exact q1 (List.mem_append_left _ y)
      · exact q2 y
  have hcode := fun b hb => hal j h'' hst' b hb
  by_cases hlt : j < vs.length
  · refine Wk.item j _ _ _ hlt hst' fun w h₁ tk₁ hPw hst₁ hk₁ => ?_
    obtain ⟨v, hv, hvr⟩ := hval j w hlt hPw
    have R₁ : Rep C F ad' st' { s with heap := h₁, toks := tk₁ } := R'.onUx ok hwu hwG (fun b hb o e vs ed => by obtain ⟨o', e', c'⟩ := hcode b hb; rw [e'] at e; injection e with e; subst e; exact c' vs ed) hwF hwC hwg hk₁ (fun b hb => by obtain ⟨o, e, _⟩ := hal (j + 1) h₁ hst₁ b hb; rw [e]; simp)
    have hU' : ∀ b ∈ F.U ad', b ∈ wr ++ F.U ad ∨ h'.get? b = none := by
      intro b hb
      rcases List.mem_append.mp hb with hb | hb
      · rcases sown b hb with y | y
        · exact .inl (List.mem_append_right _ (List.mem_append_left _ y))
        · exact .inr y
      · rw [hux] at hb
        rcases List.mem_append.mp hb with hb | hb
        · exact .inl (List.mem_append_left _ hb)
        · exact .inl (List.mem_append_right _ (List.mem_append_right _ hb))
    have vr₁ : VR (F.U ad') h₁ v w := VR.mono (fun b o hb e => by
      have hb1 : b ∉ wr := fun q => hb (List.mem_append_left _ q)
      have hb2 : b ∉ F.U ad := fun q => hb (List.mem_append_right _ q)
      exact hk₁ b o hb1 (skept b o (fun q => hb2 (R.UG b q)) (fun q => hb2 (List.mem_append_left _ q)) hb1 e)) hU' v w hvr
    refine wpAny_assign_Name (R₁.store ok hi so vr₁ fun h₂ tk₂ R₂ kp => ?_)
    have hst₂ : St (j + 1) h₂ := Wk.frame _ _ _ hst₁ fun b hb o e => kp b o (fpo b hb).2 e
    have fin : ∀ (st₃ : List V) (ad₃ : Ad) (h₃ : Heap) (tk₃ : Nat), Stp C F (dropI ad' i) h₂ ad₃ h₃ → Rep C F ad₃ st₃ { s with heap := h₃, toks := tk₃ } →
        St (j + 1) h₃ ∧ ad₃.ux = wr ++ ad.ux ∧ (∀ b o, b ∉ C.G → b ∉ F.own ad → b ∉ wr → h'.get? b = some o → h₃.get? b = some o) ∧ (∀ a ∈ F.own ad₃, a ∈ F.own ad ∨ h'.get? a = none) ∧ Rep C F ⟨ad₃.m, ad.ux⟩ st₃ { s with heap := h₃, toks := tk₃ } ∧ Stp C F ad s.heap ⟨ad₃.m, ad.ux⟩ h₃ ∧ (∀ v w, VR (F.U ad₃) h₃ v w → VR (F.U ⟨ad₃.m, ad.ux⟩) h₃ v w) := by
      intro st₃ ad₃ h₃ tk₃ sp₃ R₃
      have hst₃ : St (j + 1) h₃ := Wk.frame _ _ _ hst₂ fun b hb o e => sp₃.kept b o (fpo b hb).1 (fun q => (fpo b hb).2 (own_drop b q)) e
      have ux₃ : ad₃.ux = wr ++ ad.ux := sp₃.ux.trans hux
      -- the whole way from h'
      have kall : ∀ b o, b ∉ C.G → b ∉ F.own ad → b ∉ wr → h'.get? b = some o → h₃.get? b = some o := by
        intro b o hg ho hw e
        have e1 := skept b o hg ho hw e
        have no' : b ∉ F.own ad' := fun z => (sown b z).elim ho fun y => by rw [y] at e; cases e
        exact sp₃.kept b o hg (fun q => no' (own_drop b q)) (kp b o no' (hk₁ b o hw e1))
      have oall : ∀ a ∈ F.own ad₃, a ∈ F.own ad ∨ h'.get? a = none := by
        intro a ha
        have hag : a ∉ C.G := R₃.ownG ok ha
        have haw : a ∉ wr := fun q => R₃.apart a ha (by rw [ux₃]; exact List.mem_append_left _ q)
        rcases sp₃.own a ha with y | y
        · exact sown a (own_drop a y)
        · by_cases ho : a ∈ F.own ad
          · exact .inl ho
          · right
            cases z : h'.get? a with
            | none => rfl
            | some o =>
              have no' : a ∉ F.own ad' := fun q => (sown a q).elim ho fun y' => by rw [y'] at z; cases z
              rw [kp a o no' (hk₁ a o haw (skept a o hag ho haw z))] at y; cases y
      have toR : Rep C F ⟨ad₃.m, ad.ux⟩ st₃ { s with heap := h₃, toks := tk₃ } := by
        have e3 : ad₃ = ⟨ad₃.m, wr ++ ad.ux⟩ := by cases ad₃; simp only at ux₃; rw [ux₃]
        rw [e3] at R₃
        exact Rep.unshield R₃ R.gU
      have toS : Stp C F ad s.heap ⟨ad₃.m, ad.ux⟩ h₃ := by
        refine ⟨fun b o hg ho e => ?_, fun a ha => ?_, rfl⟩
        · exact kall b o hg ho (fun q => by rw [hdead b q] at e; cases e) (g.keep b o hg e)
        · rcases oall a ha with y | y
          · exact .inl y
          · exact .inr (g.dead (R₃.ownG ok ha) y)
      have vrU : ∀ v w, VR (F.U ad₃) h₃ v w → VR (F.U ⟨ad₃.m, ad.ux⟩) h₃ v w := fun v w q => q.weaken fun b hb => by
        rcases List.mem_append.mp hb with hb | hb
        · exact List.mem_append_left _ hb
        · exact List.mem_append_right _ (by rw [ux₃]; exact List.mem_append_right _ hb)
      exact ⟨hst₃, ux₃, kall, oall, toR, toS, vrU⟩
    refine h1 _ _ _ _ _ _ _ (hstep j v st' hv hI') R₂ (fun o st₃ ad₃ h₃ tk₃ fl hp₃ sp₃ R₃ hf => ?_) fun st₃ ad₃ h₃ tk₃ hX tkX eX hp₃ sp₃ R₃ hx => ?_
    rotate_left
    · obtain ⟨_, _, _, _, toR, toS, _⟩ := fin st₃ ad₃ h₃ tk₃ sp₃ R₃
      exact cl { s with heap := hX, toks := tkX } h₃ eX E hx fun hY hy => kE st₃ _ h₃ tk₃ hY tkX eX hp₃ toS toR hy
    obtain ⟨hst₃, ux₃, kall, oall, toR, toS, vrU⟩ := fin st₃ ad₃ h₃ tk₃ sp₃ R₃
    cases o with
    | nxt => simp only [FlowIs] at hf; subst hf; exact ⟨vs.length + 1 - (j + 1), by (clear cl ok hi so hit h1 hW R k kE g h0 hstep hend Wk hst hdead hal hfp hval R0 hwG hwF hwC hwg hj skept sown hux R' hst' hI' hwu hwx fpo hcode hPw hst₁ hk₁ hv hvr R₁ hU' vr₁ R₂ kp hst₂ fin sp₃ R₃ hst₃ ux₃ kall oall toR toS vrU hp₃; lia), j + 1, st₃, ad₃, h₃, tk₃, by (clear cl ok hi so hit h1 hW R k kE g h0 hstep hend Wk hst hdead hal hfp hval R0 hwG hwF hwC hwg hm hj skept sown hux R' hst' hI' hwu hwx fpo hcode hPw hst₁ hk₁ hv hvr R₁ hU' vr₁ R₂ kp hst₂ fin sp₃ R₃ hst₃ ux₃ kall oall toR toS vrU hp₃; lia), rfl, hlt, kall, oall, ux₃, R₃, hst₃, hp₃⟩
    | cnt => simp only [FlowIs] at hf; subst hf; exact ⟨vs.length + 1 - (j + 1), by omega, j + 1, st₃, ad₃, h₃, tk₃, by omega, rfl, hlt, kall, oall, ux₃, R₃, hst₃, hp₃⟩
    | brk => simp only [FlowIs] at hf; subst hf; exact k .nxt st₃ _ h₃ tk₃ _ hp₃ toS toR rfl
    | ret v => simp only [FlowIs] at hf; obtain ⟨w', rfl, hv'⟩ := hf; exact k (.ret v) st₃ _ h₃ tk₃ _ hp₃ toS toR ⟨w', rfl, vrU _ _ hv'⟩
  · have hje : j = vs.length := by (clear cl ok hi so hit h1 hW R k kE g h0 hstep hend Wk hst hdead hal hfp hval R0 hwG hwF hwC hwg hm skept sown hux R' hst' hI' hwu hwx fpo hcode; lia)
    subst hje
    refine Wk.done _ _ _ hst' fun h₁ tk₁ hk₁ => wpAny_execs_nil ?_
    have e3 : ad' = ⟨ad'.m, wr ++ ad.ux⟩ := by cases ad'; simp only at hux; rw [hux]
    have R₁ : Rep C F ⟨ad'.m, ad.ux⟩ st' { s with heap := h₁, toks := tk₁ } := by
      rw [e3] at R'
      exact R'.endUx ok R.gU hwx hwG (fun b hb o e vs ed => by obtain ⟨o', e', c'⟩ := hcode b hb; rw [e'] at e; injection e with e; subst e; exact c' vs ed) hwF hwC hwg hk₁
    refine k .nxt st' ⟨ad'.m, ad.ux⟩ h₁ tk₁ _ (hend st' hI') ⟨fun b o hg ho e => ?_, fun a ha => ?_, rfl⟩ R₁ rfl
    · have hw : b ∉ wr := fun q => by rw [hdead b q] at e; cases e
      exact hk₁ b o hw (skept b o hg ho hw (g.keep b o hg e))
    · rcases sown a ha with y | y
      · exact .inl y
      · exact .inr (g.dead (R₁.ownG ok ha) y)
theorem ExS.for (ok : FmOk C n F) {x : Str} {px pos : Pos} {it : Expr} {b : List Stmt} {W : WXs} {W1 : WS} (i : Nat) (hi : F.names[i]? = some x) (so : StoreOk F x) (hit : EvI C F it W) (h1 : ExB C F b W1) :
    ExS C F (.For (.Name x px) it b [] pos) (fun st P => W st fun vs => ∃ I : Nat → List V → Prop, I 0 st ∧ (∀ j v st, vs[j]? = some v → I j st → W1 (st.set i v) (loopP I j P)) ∧ (∀ st, I vs.length st → P .nxt st)) := by
  intro ad st s P Q E hW R k
  exact ExSX.for (X := fun _ _ _ => False) (fun _ _ _ _ hx _ => hx.elim) ok i hi so hit (ExBX.lift h1) ad st s P (fun _ => True) Q E hW R k (fun _ _ _ _ _ _ _ _ _ _ hx => hx.elim)
theorem ExS.while (ok : FmOk C n F) {t : Expr} {b : List Stmt} {pos : Pos} {W : WC} {W1 : WS} (ht : EvC C F t W) (h1 : ExB C F b W1) :
    ExS C F (.While t b [] pos) (fun st P => ∃ I : Nat → List V → Prop, (∃ m, I m st) ∧ ∀ m st, I m st → W st fun c => (c = true → W1 st (whileP m I P)) ∧ (c = false → P .nxt st)) := by
  intro ad st s P Q E hW R k
  exact ExSX.while (X := fun _ _ _ => False) (fun _ _ _ _ hx _ => hx.elim) ok ht (ExBX.lift h1) ad st s P (fun _ => True) Q E hW R k (fun _ _ _ _ _ _ _ _ _ _ hx => hx.elim)
end
end Mine
end
section
open PySem PySem.Calls PyProof.Rows PySem.W PySem.Spec PySem.SeqAt
set_option Elab.async false
set_option maxRecDepth 10000
namespace Mine
noncomputable abbrev stopT : Value := .type "StopIteration"
noncomputable def XSt (base : Heap) (env : Env) (outer : List Env) (L e : Addr) (h : Heap) : Prop :=
  base.StaysIn h ∧ base.get? e = none ∧ h.FunFrames base (env :: outer) ∧ ∃ a0, (∃ oe vs, h.get? e = some oe ∧ oe.cls = stopT ∧ oe.data = .fields vs ∧ vs[1]? = some .none ∧ vs[0]? = some a0) ∨
    (∃ fl, h.TracedAtW base e stopT a0 fl ∧ (fl = .none ∨ fl = rawInt L))
section
variable {M : Model} {A : Around} {E : Value → Shared → Prop} {s : Shared} {base : Heap} {env : Env} {outer : List Env} {L e : Addr}
theorem x_note (hfr : A.frames = some (env :: outer)) (hf : env.frame = some L) (x : XSt base env outer L e s.heap) {Q : Unit → Shared → Prop}
    (hQ : ∀ h' a0, Heap.HeldW base (env :: outer) e stopT a0 L h' → s.heap.UpToSlots h' → Q () { s with heap := h' }) : wpAny M A (noteFrame (.ref e) env) Q E s := by
  obtain ⟨x1, x2, x3, a0, x4 | ⟨fl, x4, x5⟩⟩ := x
  · obtain ⟨oe, vs, he, hc, hd, h1, h0⟩ := x4
    unfold noteFrame
    simp only [hf]
    refine wpAny_bind (wpAny_field he hd h1 ?_)
    rw [if_neg (show ¬ ((Value.none != Value.none) = true) from by simp)]
    refine wpAny_entryW hfr x3 hf he x1 x2 hd (Array.getElem?_eq_some_iff.mp h1).1 h0 fun h' ⟨y1, y2, y3, y4⟩ => ?_
    rw [hc] at y3
    exact hQ h' a0 ⟨y1, x2, y2, y3⟩ y4
  · rcases x5 with rfl | rfl
    · exact wpAny_looks_onW hfr hf ⟨x1, x2, x3, x4⟩ fun h' hh hu => hQ h' a0 hh hu
    · exact wpAny_noteFrame_againW hf x4 (hQ s.heap a0 ⟨x1, x2, x3, x4⟩ (Heap.UpToSlots.refl _))
theorem x_flight {a0 : Value} (hf : env.frame = some L) (hh : Heap.HeldW base (env :: outer) e stopT a0 L s.heap) {Q : Unit → Shared → Prop}
    (hQ : ∀ h', Heap.HeldW base (env :: outer) e stopT a0 L h' → s.heap.UpToSlots h' → Q () { s with heap := h' }) : wpAny M A (setFlight (.ref e) env.frame) Q E s := by
  obtain ⟨hkb, hen, hl, oe, vs, T, oT, ts, he, hcls, hd, h1, hnT, hTe, hT, hdT, h3⟩ := hh
  have hsz3 : 3 < ts.size := (Array.getElem?_eq_some_iff.mp h3).1
  have other : ∀ b, b ≠ T → (s.heap.update T (Obj.mapFields (·.setIfInBounds 3 ((some L : Option Addr).elim Value.none fun f => rawInt f)))).get? b = s.heap.get? b :=
    fun b hb => Heap.get?_update_other _ _ (Ne.symm hb)
  have noRecord : ∀ b o, s.heap.get? b = some o → (∀ vs, o.data ≠ .fields vs) → b ≠ T := fun b o hb hnf q => by
    rw [q, hT] at hb; injection hb with hb; subst hb; exact hnf ts hdT
  rw [hf]
  unfold setFlight
  refine wpAny_bind (wpAny_field he hd h1 ?_)
  rw [if_pos (show (Value.ref T != Value.none) = true from by simp)]
  refine wpAny_setField hT hdT hsz3 (hQ _ ⟨fun b o hbo => (other b fun q => by rw [q, hnT] at hbo; cases hbo).trans (hkb b o hbo), hen,
    hl.of_keeps fun b o hb hnf => ⟨o, (other b (noRecord b o hb hnf)).trans hb, rfl⟩, ?_⟩ fun b o hb hnf => ⟨o.slots, (other b (noRecord b o hb hnf)).trans hb⟩)
  exact ⟨oe, vs, T, _, _, (other e (Ne.symm hTe)).trans he, hcls, hd, h1, hnT, hTe, Heap.get?_update_self _ hT (Obj.isFreed_of_fields (Obj.data_mapFields hdT _)), Obj.data_mapFields hdT _, by simp [hsz3]⟩
theorem XSt.held {a0 : Value} {h : Heap} (hh : Heap.HeldW base (env :: outer) e stopT a0 L h) : XSt base env outer L e h := ⟨hh.1, hh.2.1, hh.2.2.1, a0, .inr ⟨_, hh.2.2.2, .inr rfl⟩⟩
theorem x_leave (hfr : A.frames = some (env :: outer)) (hf : env.frame = some L) (x : XSt base env outer L e s.heap) {Q : Unit → Shared → Prop}
    (hQ : ∀ h' a0, Heap.FlyingW base outer e stopT a0 h' → s.heap.UpToSlots h' → Q () { s with heap := h' }) : wpAny M A (leaving env (.ref e)) Q E s := by
  unfold leaving
  refine wpAny_bind (x_note hfr hf x fun h₁ a0 hh hu => ?_)
  refine wpAny_landsW hh fun h' hfl hu' => ?_
  obtain ⟨k1, k2, ⟨_, _, k3⟩, k4⟩ := hfl
  exact hQ h' a0 ⟨k1, k2, k3, k4⟩ (hu.trans hu')
end
noncomputable def XF (C : Cx) (F : Fm) (outer : List Env) (h₁ h' : Heap) (e : Addr) : Prop :=
  ∃ base, (∀ b o, b ∉ C.G → b ≠ F.env.locals → h₁.get? b = some o → base.get? b = some o) ∧ XSt base F.env outer F.env.locals e h' ∧ h₁.UpToSlots h'
theorem xcl {C : Cx} {F : Fm} {outer : List Env} (hf : F.env.frame = some F.env.locals) (hfr : F.A.frames = some (F.env :: outer)) : XCl (XF C F outer) C F := by
  intro s h₁ e E ⟨base, hb, x, hu⟩ k
  unfold notedBy
  refine x_note hfr hf x fun h₂ a0 hh hu₂ => ?_
  unfold cameBackBy
  have hh' := hh
  obtain ⟨_, _, _, oe, vs, T, oT, ts, he, hcls, hd, h1, _⟩ := hh'
  refine wpAny_bind (wpAny_field (s := { s with heap := h₂ }) he hd h1 ?_)
  rw [if_neg (show ¬ ((Value.ref T == Value.none) = true) from by simp)]
  exact x_flight (s := { s with heap := h₂ }) hf hh fun h₃ hh₃ hu₃ => k h₃ ⟨base, hb, .held hh₃, (hu.trans hu₂).trans hu₃⟩
end Mine
end
section
open PySem PySem.Calls PyProof.Rows PySem.W PySem.Spec PySem.SeqAt
set_option Elab.async false
set_option maxRecDepth 10000
namespace Mine
theorem funframes_of {h base : Heap} : ∀ {outer : List Env} {l : List (Addr × Obj)}, FramesAre outer l → (∀ p ∈ l, base.get? p.1 = none ∧ ∃ o, h.get? p.1 = some o ∧ ∀ vs, o.data ≠ .fields vs) → h.FunFrames base outer
  | [], _, _, _ => trivial
  | env :: outer, [], ⟨a, _⟩, _ => by simp at a
  | env :: outer, p :: l, ⟨a, b⟩, k => by
    simp only [List.map_cons, List.cons.injEq] at a
    obtain ⟨k1, o, k2, k3⟩ := k p List.mem_cons_self
    exact ⟨b env List.mem_cons_self, ⟨p.1, o, a.1, k1, k2, k3⟩, funframes_of ⟨a.2, fun e he => b e (List.mem_cons_of_mem _ he)⟩ fun q hq => k q (List.mem_cons_of_mem _ hq)⟩
structure FX (l : List (Addr × Obj)) (F : Fm) (outer : List Env) : Prop where
  hf : F.env.frame = some F.env.locals
  fr : F.A.frames = some (F.env :: outer)
  ho : FramesAre outer l
  nf : ∀ p ∈ l, ∀ vs, p.2.data ≠ .fields vs
section
variable {C : Cx} {l : List (Addr × Obj)} {hl : FrL C l} {F : Fm} {n : Nat} {ad : Ad} {st : List V} {s : Shared} {outer : List Env}
theorem xf_made (fx : FX l F outer) (ok : FmOk (frC C l hl) n F) {h₁ h' : Heap} {tk : Nat} {e : Addr} (R : Rep (frC C l hl) F ad st { s with heap := h₁, toks := tk }) (me : Heap.MadeExcOf h₁ h' e stopT []) : XF (frC C l hl) F outer h₁ h' e := by
  refine ⟨hideAll h₁ (F.env.locals :: (frC C l hl).G), fun b o hb hn e => hideAll_get _ e fun q => (List.mem_cons.mp q).elim hn hb, ⟨fun b o e => me.keeps b o (of_hideAll _ e), ?_, ?_, ?_⟩, Heap.UpToSlots.of_keeps me.keeps⟩
  · cases q : (hideAll h₁ (F.env.locals :: (frC C l hl).G)).get? e with
    | none => rfl
    | some o => have := of_hideAll _ q; rw [me.new] at this; cases this
  · obtain ⟨m, o, es, ep, e1, d, _⟩ := R.ns
    refine ⟨by rw [ok.kind]; simp, ⟨F.env.locals, o, fx.hf, hideAll_none _ List.mem_cons_self, me.keeps _ _ e1, fun vs q => by rw [d] at q; cases q⟩, funframes_of fx.ho fun p hp => ⟨hideAll_none _ (List.mem_cons_of_mem _ (List.mem_map_of_mem hp)), ?_⟩⟩
    obtain ⟨sl, e2⟩ := R.tb p hp
    exact ⟨_, me.keeps _ _ e2, fx.nf p hp⟩
  · obtain ⟨t, e1, _, _⟩ := me.there
    exact ⟨.ref t, .inl ⟨_, _, e1, rfl, rfl, rfl, rfl⟩⟩
theorem Rep.mit {C : Cx} (R : Rep C F ad st s) {i : Nat} {x : Str} {r : List Int} (hi : F.names[i]? = some x) {a : Addr} (hv : getV st i = .mit a r) : ∃ w p, (i, a) ∈ ad.m ∧ Rd F.env s.heap x (.ref a) ∧ ItAt s.heap a w p ∧ ItV (F.U ad) s.heap w p r := by
  unfold getV at hv
  cases q : st[i]? with
  | none => rw [q] at hv; cases hv
  | some v => rw [q] at hv; simp at hv; subst hv; exact R.vars i x _ hi q
theorem ints_head {U : List Addr} {h : Heap} {full : List Int} {w : Value} {p : Nat} {x : Int} {r : List Int} (v : VR U h (.ints full) w) (e : x :: r = full.drop p) : ∃ (a : Addr) (ws : List Value) (t : Tok), w = .ref a ∧ a ∉ U ∧ h.PlainList a ws.toArray ∧ ws.toArray[p]? = some (.int x t) ∧ r = full.drop (p + 1) := by
  simp only [VR] at v
  obtain ⟨a, ws, rfl, ha, hp, hi⟩ := v
  have hlt : p < full.length := by
    rcases Nat.lt_or_ge p full.length with q | q
    · exact q
    · rw [List.drop_eq_nil_of_le q] at e; cases e
  rw [List.drop_eq_getElem_cons hlt] at e
  injection e with e1 e2
  obtain ⟨t, ht⟩ := ints_at hi hlt
  refine ⟨a, ws, t, rfl, ha, hp, ?_, e2⟩
  have : full.getD p 0 = x := by rw [e1]; simp [hlt]
  rw [this] at ht
  simpa using ht
theorem ExSX.next (fx : FX l F outer) (ok : FmOk (frC C l hl) n F) {x y f : Str} {px py pf cpos pos : Pos} (i j : Nat) (hi : F.names[i]? = some x) (hj : F.names[j]? = some y) (so : StoreOk F y) (g : GN (frC C l hl) f (.builtin "next")) (hx : F.env.kindOf f = some .globalImplicit) :
    ExSX (XF (frC C l hl) F outer) (frC C l hl) F (.Assign [.Name y py] (.Call (.Name f pf) [.Name x px] [] cpos) pos) (fun st P PE => match getV st i with
      | .mit _ [] => PE st
      | .mit a (v :: r) => P .nxt ((st.set i (.mit a r)).set j (.int v))
      | _ => False) := by
  intro ad st s P PE Q E hW R k kE
  have hx' := ok.names x (List.mem_of_getElem? hi)
  refine wpAny_Assign_Name ?_ (swaps_no rfl)
  show wpAny _ F.A (eval (.Name f pf) F.env >>= fun f => callWith cpos f [] (backTo cpos (starEach [.Name x px] F.env)) (backToKw cpos [])) _ E s
  refine wpAny_bind (name_gn ok.kind ok.globals ok.builtins hx (R.wd ok) g ?_)
  split at hW
  · rename_i a hv
    obtain ⟨w, p, e1, e2, e3, e4⟩ := R.mit hi hv
    refine PyProof.Rows.callWith_builtin1 (args_cons (wpAny_Name (wp_load_rd ok.kind hx' e2 (args_nil ?_)) (okName_debug hx')))
    rcases e4 with ⟨rfl, _⟩ | ⟨full, vr, er⟩
    · exact next_gone ok.a.handled e3 fun h' e me => kE st ad s.heap s.toks h' s.toks e hW (.of (.refl ..)) R (xf_made fx ok (tk := s.toks) R me)
    · have vr' := vr
      simp only [VR] at vr
      obtain ⟨b, ws, rfl, hb, hp, hin⟩ := vr
      have hlen : full.length ≤ p := by
        rcases Nat.lt_or_ge p full.length with q | q
        · rw [List.drop_eq_getElem_cons q] at er; cases er
        · exact q
      refine next_end ok.a.handled e3 hp.isList (by have := hin.length; simp; omega) fun h₁ h' e it₁ sb me => ?_
      obtain ⟨R₁, sp⟩ := R.relist ok (tk := s.toks) (v := .mit a []) hi e1 e2 (same_of sb) (.inr ⟨_, _, it₁⟩) fun rd _ => ⟨_, _, e1, rd, it₁, .inl ⟨rfl, rfl⟩⟩
      have est : st.set i (.mit a []) = st := by rw [← hv]; exact set_self hv
      rw [est] at R₁
      exact kE st ad h₁ s.toks h' s.toks e hW sp R₁ (xf_made fx ok (tk := s.toks) R₁ me)
  · rename_i a v r hv
    obtain ⟨w, p, e1, e2, e3, e4⟩ := R.mit hi hv
    refine PyProof.Rows.callWith_builtin1 (args_cons (wpAny_Name (wp_load_rd ok.kind hx' e2 (args_nil ?_)) (okName_debug hx')))
    rcases e4 with ⟨_, q⟩ | ⟨full, vr, er⟩
    · cases q
    · obtain ⟨b, ws, t, rfl, hb, hp, hit, er'⟩ := ints_head vr er
      refine next_item e3 hp.isList hit fun h₁ it₁ sb => ?_
      obtain ⟨R₁, sp⟩ := R.relist ok (tk := s.toks) (v := .mit a r) hi e1 e2 (same_of sb) (.inr ⟨_, _, it₁⟩) fun rd kU => ⟨_, _, e1, rd, it₁, .inr ⟨full, VR.mono kU (fun _ hb => .inl hb) _ _ vr, er'⟩⟩
      exact R₁.store ok hj so (v := .int v) (by simp [VR]) fun h' tk R' kp => k .nxt _ _ h' tk .next hW (Stp.trans sp (.drop kp) fun a ha => R'.ownG ok ha) R' rfl
  · exact hW.elim
where
  set_self {st : List V} {i : Nat} {v : V} (h : getV st i = v) : st.set i (getV st i) = st := by
    apply List.ext_getElem?
    intro j
    by_cases hj : i = j
    · subst hj
      rw [List.getElem?_set_self']
      cases q : st[i]? with
      | none => rfl
      | some u => simp [getV, q]
    · rw [List.getElem?_set_ne hj]
end
end Mine
end
section
open PySem PySem.Calls PyProof.Rows PySem.W PySem.Spec PySem.SeqAt
set_option Elab.async false
set_option maxRecDepth 10000
namespace Mine
noncomputable def ItIs (U : List Addr) (h : Heap) (it : Addr) (rest : List Int) : Prop := ∃ w p, ItAt h it w p ∧ ItV U h w p rest
noncomputable def XOut (C : Cx) (outer : List Env) (h₁ h' : Heap) (e : Addr) : Prop :=
  ∃ base a0, (∀ b o, b ∉ C.G → h₁.get? b = some o → base.get? b = some o) ∧ Heap.FlyingW base outer e stopT a0 h' ∧ h₁.UpToSlots h'
noncomputable def PCI (C : Cx) (n : Nat) (f : Value) (T : List Int → (V → List Int → Prop) → Prop → Prop) : Prop :=
  ∀ (l : List (Addr × Obj)) (hl : FrL C l) (A : Around) (outer : List Env) (U : List Addr) (s : Shared) (it : Addr) (rest : List Int) (P : V → List Int → Prop) (PE : Prop) (Q : Value → Shared → Prop) (E : Value → Shared → Prop),
    A.frames = some outer → FramesAre outer l → (∀ p ∈ l, ∀ vs, p.2.data ≠ .fields vs) → AOk n A → Wd (frC C l hl) (hideAll s.heap [it]) → (frC C l hl).Tb s.heap → (∀ u ∈ U, s.heap.get? u ≠ none) → (∀ g ∈ (frC C l hl).G, g ∈ U) → it ∉ U →
    ItIs (it :: U) s.heap it rest → T rest P PE →
    (∀ w v rest' h' tk, P v rest' → (∀ b o, b ∉ (frC C l hl).G → b ≠ it → s.heap.get? b = some o → h'.get? b = some o) → (frC C l hl).Tb h' → ItIs (it :: U) h' it rest' → VR (it :: U) h' v w → Q w { s with heap := h', toks := tk }) →
    (∀ h₁ h' tk e, PE → (∀ b o, b ∉ (frC C l hl).G → b ≠ it → s.heap.get? b = some o → h₁.get? b = some o) → (frC C l hl).Tb h₁ → ItIs (it :: U) h₁ it [] → XOut (frC C l hl) outer h₁ h' e → E (.ref e) { s with heap := h', toks := tk }) →
    wpAny (model C.prog C.w) A (call f [.ref it]) Q E s
theorem pci_of {C : Cx} {n : Nat} {f : Addr} {fd : FuncData} {body : List Stmt} {names : List Str} {W : WSX} (ok : ∀ l hl, CloOk (frC C l hl) f fd body 1 names) {x : Str} (hx : names[0]? = some x)
    (hfr : ∀ L, (callEnv fd L f).frame = some L)
    (hb : ∀ l hl A L h₀ outer, FX l (cloFm A fd f L h₀ names) outer → FmOk (frC C l hl) n (cloFm A fd f L h₀ names) → ExBX (XF (frC C l hl) (cloFm A fd f L h₀ names) outer) (frC C l hl) (cloFm A fd f L h₀ names) body W) :
    PCI C (n + 1) (.ref f) (fun rest P PE => ∀ a, W (.mit a rest :: List.replicate (names.length - 1) .unb) (fun o st' => ∃ r', st'[0]? = some (.mit a r') ∧ retP (fun v => P v r') o st') (fun st' => st'[0]? = some (.mit a []) ∧ PE)) := by
  intro l hl A outer U s it rest P PE Q E hAf hFA hnf hA wd tb al gU hit li hT kk kE
  have ok := ok l hl
  obtain ⟨wi, pi, li1, li2⟩ := li
  have inK : C.K.In s.heap := fun a o e => of_hideAll _ (wd.inK a o e)
  have nl : s.heap.NoLimit := wd.nl.at fun o e => of_hideAll _ e
  refine wpAny_call (codeAny_call_def (by have := hA.depth; simp only [recursionLimit]; (clear hx hfr hb hl hAf hFA hnf hA wd tb al gU hit hT kk kE ok li1 li2 inK nl; lia)) (ok.at_ _ inK) rfl nl (ok.code _ inK) ok.body (.of_eq (ok.bind [.ref it] rfl)) ok.nocell (fun x hx => ?_) (fun h₁ hns keep => ?_) ok.co ok.gen ok.kind)
  · exact ok.kinds x.1 (List.of_mem_zip (a := x.1) (b := x.2) hx).1
  have hs₀ : s.heap.get? s.heap.objs.size = none := dead_size _
  have ital : s.heap.get? it ≠ none := by obtain ⟨o, e, _⟩ := li1; rw [e]; simp
  have hidL : (hideAll s.heap [it]).get? s.heap.objs.size = none := by
    cases q : (hideAll s.heap [it]).get? s.heap.objs.size with
    | none => rfl
    | some o => rw [of_hideAll _ q] at hs₀; cases hs₀
  have Lit : s.heap.objs.size ≠ it := fun q => ital (q ▸ hs₀)
  have inK₁ : C.K.In h₁ := fun a o e => keep a o (inK a o e)
  have hFok : FmOk (frC C l hl) n (cloFm A fd f s.heap.objs.size (hideAll s.heap [it]) names) := {
    kind := ok.kind
    globals := ok.glob
    builtins := ok.blt
    wd := wd
    a := ⟨hA.handled, by have := hA.depth; show A.depth + 1 + n ≤ 990; (clear hx hfr hb hl hAf hFA hnf hA wd tb al gU hit hT kk kE ok li1 li2 inK nl hns keep hs₀ ital hidL Lit inK₁; lia), by have := hA.units; show A.units + 3 + 10 * n ≤ 9800; (clear hx hfr hb hl hAf hFA hnf hA wd tb al gU hit hT kk kE ok li1 li2 inK nl hns keep hs₀ ital hidL Lit inK₁; lia)⟩
    names := ok.okn
    nodup := ok.nodup
    cl := fun q => by
      obtain ⟨v, o, e, _⟩ := ok.cells _ inK _ q
      rw [show (cloFm A fd f s.heap.objs.size (hideAll s.heap [it]) names).env.locals = s.heap.objs.size from rfl, hs₀] at e
      cases e
    cn := ok.cnd
    cG := ok.cG }
  have own_eq : (cloFm A fd f s.heap.objs.size (hideAll s.heap [it]) names).own ⟨[(0, it)], U⟩ = [s.heap.objs.size, it] := rfl
  have hk : fd.scope.names.lookup x = some .local := ok.kinds x (List.mem_of_getElem? (i := 0) (by rw [List.getElem?_take_of_lt (by decide)]; exact hx))
  have htake : names.take 1 = [x] := by
    cases names with
    | nil => cases hx
    | cons y r => simp at hx; subst hx; rfl
  have R : Rep (frC C l hl) (cloFm A fd f s.heap.objs.size (hideAll s.heap [it]) names) ⟨[(0, it)], U⟩ (.mit it rest :: List.replicate (names.length - 1) .unb) { s with heap := h₁, toks := s.toks + ((names.take 1).zip [Value.ref it]).length } := {
    stays := fun b o _ e => keep b o (of_hideAll _ e)
    tb := (frC C l hl).stays _ _ tb keep
    ns := ⟨_, hns⟩
    cells := fun c hc => by cases hc
    ads := fun p hp => by rw [List.mem_singleton.mp hp]; exact .inr ⟨wi, pi, li1.at fun o e => keep _ o e⟩
    gU := gU
    ec := fun c hc => ok.cells _ inK₁ c hc
    fresh := fun a ha => by
      rw [own_eq] at ha
      rcases List.mem_cons.mp ha with e | e
      · rw [e]; exact hidL
      · rw [List.mem_singleton.mp e]; exact hideAll_none _ List.mem_cons_self
    ux := fun u hu => by
      cases q : s.heap.get? u with
      | none => exact absurd q (al u hu)
      | some o => show h₁.get? u ≠ none; rw [keep u o q]; simp
    apart := fun a ha hu => by
      rw [own_eq] at ha
      rcases List.mem_cons.mp ha with e | e
      · exact al a hu (e ▸ hs₀)
      · exact hit (List.mem_singleton.mp e ▸ hu)
    nd := by rw [own_eq]; simpa using Lit
    vars := fun i y v h1 h2 => by
      cases i with
      | zero =>
        have h1 := hx.symm.trans h1; injection h1 with h1; subst h1
        simp at h2; subst h2
        refine ⟨wi, pi, List.mem_singleton.mpr rfl, ?_, li1.at fun o e => keep _ o e, li2.mono (fun b o _ e => keep b o e) fun b hb => ?_⟩
        · have hk' : (callEnv fd s.heap.objs.size f).kindOf x = some .local := hk
          show Rd (callEnv fd s.heap.objs.size f) h₁ x (.ref it)
          unfold Rd; rw [hk']
          refine ⟨_, hns, ?_⟩
          rw [htake]
          simp
        · unfold Fm.U at hb
          rw [own_eq] at hb
          rcases List.mem_append.mp hb with q | q
          · rcases List.mem_cons.mp q with e | e
            · exact .inr (e ▸ hs₀)
            · exact .inl (by rw [List.mem_singleton.mp e]; exact List.mem_cons_self)
          · exact .inl (List.mem_cons_of_mem _ q)
      | succ i =>
        simp only [List.getElem?_cons_succ, List.getElem?_replicate] at h2
        split at h2 <;> first | cases h2; done | (injection h2 with h2; subst h2; trivial) }
  have fx : FX l (cloFm A fd f s.heap.objs.size (hideAll s.heap [it]) names) outer := ⟨hfr _, Around.frames_deeper hAf, hFA, hnf⟩
  refine hb l hl A s.heap.objs.size _ outer fx hFok ⟨[(0, it)], U⟩ _ _ _ _ _ _ (hT it) R (fun o st' ad' h' tk' fl hp sp R' hf => ?_) fun st' ad' hr tk hx' tkx e hp sp R' hxf => ?_
  · obtain ⟨r', hs', hr⟩ := hp
    obtain ⟨w, p, e1, e2, e3, e4⟩ := R'.vars 0 x (.mit it r') hx hs'
    have hU : ∀ b ∈ it :: U, b ∈ (cloFm A fd f s.heap.objs.size (hideAll s.heap [it]) names).U ad' := fun b hb => by
      rcases List.mem_cons.mp hb with q | q
      · rw [q]; exact List.mem_append_left _ (mem_own_ad e1)
      · exact List.mem_append_right _ (by rw [sp.ux]; exact q)
    have keep' : ∀ b o, b ∉ (frC C l hl).G → b ≠ it → s.heap.get? b = some o → h'.get? b = some o := fun b o hg hb e' => R'.stays b o hg (hideAll_get _ e' (by simpa using hb))
    cases o with
    | ret v => simp only [FlowIs] at hf; obtain ⟨w', rfl, hv⟩ := hf; exact kk w' v r' h' tk' hr keep' R'.tb ⟨w, p, e3, e4.weaken hU⟩ (hv.weaken hU)
    | nxt => simp only [FlowIs] at hf; subst hf; exact kk .none .none r' h' tk' hr keep' R'.tb ⟨w, p, e3, e4.weaken hU⟩ (by simp [VR])
    | brk => exact hr.elim
    | cnt => exact hr.elim
  · obtain ⟨hs', hpe⟩ := hp
    obtain ⟨w, p, e1, e2, e3, e4⟩ := R'.vars 0 x (.mit it []) hx hs'
    obtain ⟨base, hbase, xst, hu⟩ := hxf
    have hU : ∀ b ∈ it :: U, b ∈ (cloFm A fd f s.heap.objs.size (hideAll s.heap [it]) names).U ad' := fun b hb => by
      rcases List.mem_cons.mp hb with q | q
      · rw [q]; exact List.mem_append_left _ (mem_own_ad e1)
      · exact List.mem_append_right _ (by rw [sp.ux]; exact q)
    refine x_leave (s := { s with heap := hx', toks := tkx }) (Around.frames_deeper hAf) (hfr _) xst fun h'' a0 hfl hu' => ?_
    have nL : ∀ b, s.heap.get? b ≠ none → b ∉ [s.heap.objs.size] := fun b hb q => hb (List.mem_singleton.mp q ▸ hs₀)
    refine kE (hideAll hr [s.heap.objs.size]) h'' tkx e hpe (fun b o hg hb e' => ?_) (fun q hq => ?_) ?_ ⟨base, a0, fun b o hg e' => ?_, hfl, fun b o e' hn => ?_⟩
    · exact hideAll_get _ (R'.stays b o hg (hideAll_get _ e' (by simpa using hb))) (nL b (by rw [e']; simp))
    · obtain ⟨sl, e'⟩ := R'.tb q hq
      obtain ⟨sl0, e0⟩ := tb q hq
      exact ⟨sl, hideAll_get _ e' (nL _ (by rw [e0]; simp))⟩
    · refine ⟨w, p, e3.at fun o e' => hideAll_get _ e' (by simpa using Ne.symm Lit), ?_⟩
      refine ItV.mono (U := (cloFm A fd f s.heap.objs.size (hideAll s.heap [it]) names).U ad') (fun b o hb e' => hideAll_get _ e' fun q => hb ?_) (fun b hb => .inl (hU b hb)) e4
      rw [List.mem_singleton.mp q]; exact List.mem_append_left _ List.mem_cons_self
    · refine hbase b o hg (fun q => ?_) (of_hideAll _ e')
      have q : b = s.heap.objs.size := q
      rw [q, hideAll_none _ List.mem_cons_self] at e'; cases e'
    · exact (hu.trans hu') b o (of_hideAll _ e') hn
end Mine
end
section
open PySem PySem.Calls PyProof.Rows PySem.W PySem.Spec PySem.SeqAt
set_option Elab.async false
set_option maxRecDepth 10000
namespace Mine
section
variable {C : Cx} {F : Fm} {n : Nat} {ad : Ad} {st : List V} {s : Shared}
theorem Rep.relistX (R : Rep C F ad st s) (ok : FmOk C n F) {i : Nat} {x : Str} {a : Addr} {v : V} {h' : Heap} {tk : Nat} (hi : F.names[i]? = some x) (hm : (i, a) ∈ ad.m) (rd : Rd F.env s.heap x (.ref a))
    (hs : ∀ b, b ∉ C.G → b ≠ a → b ≠ F.env.locals → ∀ o, s.heap.get? b = some o → h'.get? b = some o) (hL : ∀ o, s.heap.get? F.env.locals = some o → ∃ sl, h'.get? F.env.locals = some { o with slots := sl }) (tb : C.Tb h') (hp : OwnAt h' a)
    (hv : Rd F.env h' x (.ref a) → (∀ b o, b ∉ F.U ad → s.heap.get? b = some o → h'.get? b = some o) → VarOk F ad h' i x v) :
    Rep C F ad (st.set i v) { s with heap := h', toks := tk } ∧ Stp C F ad s.heap ad h' ∧ (∀ y w, Rd F.env s.heap y w → Rd F.env h' y w) := by
  have ha : a ∈ F.own ad := mem_own_ad hm
  have Lo : F.env.locals ∈ F.own ad := List.mem_cons_self
  have nd := R.nd
  unfold Fm.own at nd
  rw [List.nodup_cons, List.nodup_append] at nd
  have ham : a ∈ ad.m.map (·.2) := List.mem_map.mpr ⟨(i, a), hm, rfl⟩
  have nC : ∀ c ∈ F.cells, c ≠ a := fun c hc e => nd.2.2.2 c hc a ham e
  have nCL : ∀ c ∈ F.cells, c ≠ F.env.locals := fun c hc e => nd.1 (e ▸ List.mem_append_left _ hc)
  have nAL : ∀ p ∈ ad.m, p.2 ≠ F.env.locals := fun p hp e => nd.1 (e ▸ List.mem_append_right _ (List.mem_map_of_mem hp))
  have own : ∀ b ∈ F.own ad, b ∉ C.G := fun b hb => R.ownG ok hb
  have kU : ∀ b o, b ∉ F.U ad → s.heap.get? b = some o → h'.get? b = some o := fun b o hb e => hs b (fun q => hb (R.UG b q)) (fun q => hb (List.mem_append_left _ (q ▸ ha))) (fun q => hb (List.mem_append_left _ (q ▸ Lo))) o e
  have enot : ∀ c ∈ F.env.cells.map (·.2), c ≠ a := fun c hc q => by
    subst q
    obtain ⟨v, cc⟩ := R.ec c hc
    exact (R.ads (i, c) hm).notCell cc
  have enL : ∀ c ∈ F.env.cells.map (·.2), c ≠ F.env.locals := fun c hc e => ok.cl (e ▸ hc)
  have rdk : ∀ y w, Rd F.env s.heap y w → Rd F.env h' y w := by
    intro y w r
    unfold Rd at r ⊢
    split at r
    · obtain ⟨m, a, b⟩ := r; exact ⟨m, Ns.slots a hL, b⟩
    · obtain ⟨c, a, ⟨o, e, d⟩⟩ := r; have hc := List.mem_map_of_mem (f := (·.2)) (lookup_mem a); exact ⟨c, a, o, hs c (ok.cG c hc) (enot c hc) (enL c hc) o e, d⟩
    · obtain ⟨c, a, ⟨o, e, d⟩⟩ := r; have hc := List.mem_map_of_mem (f := (·.2)) (lookup_mem a); exact ⟨c, a, o, hs c (ok.cG c hc) (enot c hc) (enL c hc) o e, d⟩
    · exact r.imp fun _ y => y.imp (fun z => z.at fun o e => hs _ (by rw [ok.globals]; exact C.gG) (R.globals_ne ok ha) (R.globals_ne ok Lo) o e) id
    · exact r.elim
  have R' : Rep C F ad (st.set i .unb) { s with heap := h', toks := tk } := {
    stays := fun b o hb e => hs b hb (fun q => by rw [q, R.fresh a ha] at e; cases e) (fun q => by rw [q, R.fresh _ Lo] at e; cases e) o (R.stays b o hb e)
    tb := tb
    ns := by obtain ⟨m, q⟩ := R.ns; exact ⟨m, Ns.slots q hL⟩
    cells := by intro c hc; exact (R.cells c hc).imp fun _ y => IsCell.at y fun o e => hs c (own c (List.mem_cons_of_mem _ (List.mem_append_left _ hc))) (nC c hc) (nCL c hc) o e
    ads := by
      intro p hpm
      by_cases q : p.2 = a
      · rw [q]; exact hp
      · exact (R.ads p hpm).at fun o => hs _ (own _ (mem_own_ad hpm)) q (nAL p hpm) o
    gU := R.gU
    ec := by intro c hc; exact (R.ec c hc).imp fun _ y => IsCell.at y fun o e => hs c (ok.cG c hc) (enot c hc) (enL c hc) o e
    fresh := R.fresh
    ux := fun u hu => by
      by_cases hg : u ∈ C.G
      · exact C.alive _ tb u hg
      · cases q : s.heap.get? u with
        | none => exact absurd q (R.ux u hu)
        | some o => show h'.get? u ≠ none; rw [hs u hg (fun e => R.apart a ha (e ▸ hu)) (fun e => R.apart _ Lo (e ▸ hu)) o q]; simp
    apart := R.apart
    nd := R.nd
    vars := by
      intro j y u h1 h2
      by_cases hj : j = i
      · subst hj
        rw [List.getElem?_set_self'] at h2
        cases q : st[j]? with
        | none => rw [q] at h2; cases h2
        | some u => rw [q] at h2; simp at h2; subst h2; trivial
      · rw [List.getElem?_set_ne (Ne.symm hj)] at h2
        have r := R.vars j y u h1 h2
        have na : ∀ b, (j, b) ∈ ad.m → b ≠ a := fun b hb e => hj (by have := Rep.freeze.nodup_snd nd.2.2.1 (e ▸ hb) hm; injection this)
        cases u with
        | unb => trivial
        | mints l => obtain ⟨b, us, e1, e2, e3, e4⟩ := r; exact ⟨b, us, e1, rdk _ _ e2, e3.at fun o => hs _ (own _ (mem_own_ad e1)) (na b e1) (nAL _ e1) o, e4⟩
        | mlist l => obtain ⟨b, us, e1, e2, e3, e4⟩ := r; exact ⟨b, us, e1, rdk _ _ e2, e3.at fun o => hs _ (own _ (mem_own_ad e1)) (na b e1) (nAL _ e1) o, VRs.mono kU (fun _ hb => .inl hb) _ _ e4⟩
        | mit b l => obtain ⟨w', p, e1, e2, e3, e4⟩ := r; exact ⟨w', p, e1, rdk _ _ e2, e3.at fun o => hs _ (own _ (mem_own_ad e1)) (na b e1) (nAL _ e1) o, e4.mono kU (fun _ hb => .inl hb)⟩
        | _ => obtain ⟨w, e1, e2⟩ := r; exact ⟨w, rdk _ _ e1, VR.mono kU (fun _ hb => .inl hb) _ _ e2⟩ }
  refine ⟨?_, ⟨fun b o hg hb e => hs b hg (fun q => hb (q ▸ ha)) (fun q => hb (q ▸ Lo)) o e, fun _ h => .inl h, rfl⟩, rdk⟩
  have := R'.bind hi (v := v) (hv (rdk _ _ rd) kU)
  rw [List.set_set] at this
  exact this
end
section
variable {C : Cx} {l : List (Addr × Obj)} {hl : FrL C l} {F : Fm} {n : Nat} {ad : Ad} {st : List V} {s : Shared} {outer : List Env}
theorem eval_read (fx : FX l F outer) (ok : FmOk (frC C l hl) n F) {f : Value} {fx' y : Str} {pf py cpos : Pos} {m j : Nat} {T : List Int → (V → List Int → Prop) → Prop → Prop} (hj : F.names[j]? = some y) (g : GN (frC C l hl) fx' f) (hx : F.env.kindOf fx' = some .globalImplicit) (hk : KeepOk (frC C l hl) f) (hT : PCI C m f T) (hm : m ≤ n)
    (R : Rep (frC C l hl) F ad st s) {a : Addr} {rest : List Int} (hv : getV st j = .mit a rest) {P : V → List Int → Prop} {PE : Prop} (hP : T rest P PE) {Q : Value → Shared → Prop} {E : Value → Shared → Prop}
    (k : ∀ w v r' h' tk, P v r' → Rep (frC C l hl) F ad (st.set j (.mit a r')) { s with heap := h', toks := tk } → Stp (frC C l hl) F ad s.heap ad h' → (∀ b o, b ≠ a → b ≠ F.env.locals → b ∉ (frC C l hl).G → s.heap.get? b = some o → h'.get? b = some o) → (∀ y w, Rd F.env s.heap y w → Rd F.env h' y w) → VR (F.U ad) h' v w → Q w { s with heap := h', toks := tk })
    (kE : ∀ h₁ h' tk e, PE → Stp (frC C l hl) F ad s.heap ad h₁ → (∀ tk₁, Rep (frC C l hl) F ad (st.set j (.mit a [])) { s with heap := h₁, toks := tk₁ }) → XF (frC C l hl) F outer h₁ h' e → E (.ref e) { s with heap := h', toks := tk }) :
    wpAny (model C.prog C.w) F.A (eval (.Call (.Name fx' pf) [.Name y py] [] cpos) F.env) Q E s := by
  have hy := ok.names y (List.mem_of_getElem? hj)
  obtain ⟨w, p, e1, e2, e3, e4⟩ := R.mit hj hv
  have ao : a ∈ F.own ad := mem_own_ad e1
  show wpAny _ F.A (eval (.Name fx' pf) F.env >>= fun f => callWith cpos f [] (backTo cpos (starEach [.Name y py] F.env)) (backToKw cpos [])) Q E s
  refine wpAny_bind (name_gn (C := frC C l hl) ok.kind ok.globals ok.builtins hx (R.wd ok) g ?_)
  refine callWith_of (P := Wd (frC C l hl)) rfl (fun h w => keep_looks hk h w) (evalArgs_all (C := frC C l hl) rfl ?_)
  refine args_cons (wpAny_Name (wp_load_rd ok.kind hy e2 (args_nil ?_)) (okName_debug hy))
  refine ⟨R.wd ok, ?_⟩
  obtain ⟨o, hl2, un, nf⟩ := Under.next ok R
  have hLa : F.env.locals ≠ a := fun q => by
    have nd := R.nd
    unfold Fm.own at nd
    rw [List.nodup_cons] at nd
    exact nd.1 (q ▸ List.mem_append_right _ (List.mem_map.mpr ⟨(j, a), e1, rfl⟩))
  have hfa : FramesAre (F.env :: outer) ((F.env.locals, o) :: l) := ⟨by simp [fx.hf, fx.ho.1], fun env he => by
    rcases List.mem_cons.mp he with q | q
    · rw [q, ok.kind]; simp
    · exact fx.ho.2 env q⟩
  have hnf : ∀ p ∈ (F.env.locals, o) :: l, ∀ vs, p.2.data ≠ .fields vs := fun p hp => by
    rcases List.mem_cons.mp hp with q | q
    · rw [q]; exact nf
    · exact fx.nf p q
  have memU : ∀ b ∈ a :: (F.U ad).filter (fun b => b != a), b ∈ F.U ad := fun b hb => by
    rcases List.mem_cons.mp hb with q | q
    · rw [q]; exact List.mem_append_left _ ao
    · exact (List.mem_filter.mp q).1
  have Umem : ∀ b ∈ F.U ad, b ∈ a :: (F.U ad).filter (fun b => b != a) := fun b hb => by
    by_cases q : b = a
    · rw [q]; exact List.mem_cons_self
    · exact List.mem_cons_of_mem _ (List.mem_filter.mpr ⟨hb, by simpa using q⟩)
  have hsub : ∀ b, b ∉ (frC C l hl).G → b ≠ F.env.locals → b ∉ (frC C ((F.env.locals, o) :: l) hl2).G := fun b h1 h2 q => (List.mem_cons.mp (show b ∈ F.env.locals :: (frC C l hl).G from q)).elim h2 h1
  have tbL : ∀ h', (frC C ((F.env.locals, o) :: l) hl2).Tb h' → (frC C l hl).Tb h' ∧ (∀ o', s.heap.get? F.env.locals = some o' → ∃ sl, h'.get? F.env.locals = some { o' with slots := sl }) := fun h' t => ⟨fun p hp => t p (List.mem_cons_of_mem _ hp), fun o' e' => by
    obtain ⟨sl0, e0⟩ := un.tb (F.env.locals, o) List.mem_cons_self
    obtain ⟨sl, e5⟩ := t (F.env.locals, o) List.mem_cons_self
    rw [e'] at e0; injection e0 with e0; subst e0
    exact ⟨sl, e5⟩⟩
  have hw2 : Wd (frC C ((F.env.locals, o) :: l) hl2) (hideAll s.heap [a]) := by
    have w0 := un.wd
    have hid : ∀ {b : Addr} {o' : Obj}, s.heap.get? b = some o' → b ≠ a → (hideAll s.heap [a]).get? b = some o' := fun e' hn => hideAll_get _ e' (by simpa using hn)
    have h0 : ∀ {b : Addr}, F.h₀.get? b ≠ none → b ≠ a := fun {b} q z => q (z ▸ R.fresh a ao)
    have alK : ∀ b o', C.K.lookup b = some o' → b ≠ a := fun b o' e' => h0 (by rw [ok.wd.inK b o' e']; simp)
    refine ⟨fun b o' e' => hid (w0.inK b o' e') (alK b o' e'), ?_, ?_, ?_, ?_⟩
    · obtain ⟨mg, o', es, ep, e', r⟩ := w0.g
      obtain ⟨mg', o'', _, _, e'', _⟩ := ok.wd.g
      exact ⟨mg, o', es, ep, hid e' (h0 (by rw [e'']; simp)), r⟩
    · obtain ⟨mb, ⟨o', es, ep, e', r⟩, q⟩ := w0.b
      obtain ⟨_, ⟨o'', _, _, e'', _⟩, _⟩ := ok.wd.b
      exact ⟨mb, ⟨o', es, ep, hid e' (h0 (by rw [e'']; simp)), r⟩, q⟩
    · obtain ⟨mc, ⟨o', es, ep, e', r⟩, q⟩ := w0.nl
      obtain ⟨_, ⟨o'', _, _, e'', _⟩, _⟩ := ok.wd.nl
      exact ⟨mc, ⟨o', es, ep, hid e' (h0 (by rw [e'']; simp)), r⟩, q⟩
    · obtain ⟨mg, bm, ob, ⟨o', es, ep, e', r⟩, q1, q2, q3, q4, q5, q6, q7, q8⟩ := w0.bm
      obtain ⟨mg', o'', _, _, e'', _⟩ := ok.wd.g
      refine ⟨mg, bm, ob, ⟨o', es, ep, hid e' (h0 (by rw [e'']; simp)), r⟩, q1, q2, q3, q4, hid q5 ?_, q6, q7, q8⟩
      rintro rfl
      obtain ⟨oa, ea, ra⟩ := (R.ads (j, bm) e1).obj
      rw [q5] at ea; injection ea with ea; subst ea
      rcases ra with ⟨_, _, _, z⟩ | ⟨_, _, z⟩ <;> (rw [q8] at z; cases z)
  refine hT ((F.env.locals, o) :: l) hl2 F.A (F.env :: outer) ((F.U ad).filter (fun b => b != a)) s a rest P PE Q E fx.fr hfa hnf (ok.a.le hm) hw2 un.tb (fun u hu => R.U_alive u (List.mem_filter.mp hu).1) (fun g hg => List.mem_filter.mpr ?_) (fun q => by have := (List.mem_filter.mp q).2; simp at this)
    ⟨w, p, e3, e4.weaken memU⟩ hP (fun w' v r' h' tk hp keep t2 it' hv' => ?_) fun h₁ h' tk e hpe keep t2 it' xo => ?_
  · rcases un.gU g hg with q | q
    · rw [q]; exact ⟨List.mem_append_left _ List.mem_cons_self, by simpa using hLa⟩
    · exact ⟨R.UG g q, by simp; intro z; exact R.ownG ok ao (z ▸ q)⟩
  · obtain ⟨t1, sL⟩ := tbL h' t2
    obtain ⟨w2, p2, i1, i2⟩ := it'
    obtain ⟨R2, sp, rdk⟩ := R.relistX ok (tk := tk) (v := .mit a r') hj e1 e2 (fun b h1 h2 h3 o' e' => keep b o' (hsub b h1 h3) h2 e') sL t1 (.inr ⟨_, _, i1⟩) fun rd _ => ⟨w2, p2, e1, rd, i1, i2.weaken Umem⟩
    exact k w' v r' h' tk hp R2 sp (fun b o' h1 h2 h3 e' => keep b o' (hsub b h3 h2) h1 e') rdk (hv'.weaken Umem)
  · obtain ⟨t1, sL⟩ := tbL h₁ t2
    obtain ⟨w2, p2, i1, i2⟩ := it'
    obtain ⟨base, a0, b1, b2, b3⟩ := xo
    have rl := fun tk₁ => R.relistX ok (tk := tk₁) (v := .mit a []) hj e1 e2 (fun b h1 h2 h3 o' e' => keep b o' (hsub b h1 h3) h2 e') sL t1 (.inr ⟨_, _, i1⟩) fun rd _ => ⟨w2, p2, e1, rd, i1, i2.weaken Umem⟩
    exact kE h₁ h' tk e hpe (rl 0).2.1 (fun tk₁ => (rl tk₁).1) ⟨base, fun b o' h1 h2 e' => b1 b o' (hsub b h1 h2) e', ⟨b2.1, b2.2.1, b2.2.2.1, a0, .inr ⟨.none, b2.2.2.2, .inl rfl⟩⟩, b3⟩
end
end Mine
end
section
open PySem PySem.Calls PyProof.Rows PySem.W PySem.Spec PySem.SeqAt
set_option Elab.async false
set_option maxRecDepth 10000
namespace Mine
section
variable {C : Cx} {l : List (Addr × Obj)} {hl : FrL C l} {F : Fm} {n : Nat} {outer : List Env}
theorem Rd.uniq {env : Env} {h : Heap} {x : Str} {w w' : Value} (hk : env.scope.kind = .function) (a : Rd env h x w) (b : Rd env h x w') : w = w' := by
  unfold Rd at a b
  split at a
  · rename_i hk'; rw [hk'] at b; obtain ⟨m, q1, q2⟩ := a; obtain ⟨m', q3, q4⟩ := b; rw [Ns.unique q1 q3, q4] at q2; injection q2 with q2; exact q2.symm
  · rename_i hk'; rw [hk'] at b; obtain ⟨c, q1, q2⟩ := a; obtain ⟨c', q3, q4⟩ := b; rw [q1] at q3; injection q3 with q3; subst q3; exact IsCell.uniq q2 q4
  · rename_i hk'; rw [hk'] at b; obtain ⟨c, q1, q2⟩ := a; obtain ⟨c', q3, q4⟩ := b; rw [q1] at q3; injection q3 with q3; subst q3; exact IsCell.uniq q2 q4
  · rename_i hk'; rw [hk'] at b; obtain ⟨m, q1, q2⟩ := a; obtain ⟨m', q3, q4⟩ := b; rw [Ns.unique q1 q3, q4] at q2; injection q2 with q2; exact q2.symm
  · exact a.elim
noncomputable def appRead (T : List Int → (V → List Int → Prop) → Prop → Prop) (i j : Nat) : WSX := fun st P PE => match getV st j with
  | .mit a rest => (match getV st i with
    | .mints ns => ns.length < 2 ^ 24 ∧ T rest (fun v r' => ∃ c, v = .int c ∧ P .nxt ((st.set j (.mit a r')).set i (.mints (ns ++ [c])))) (PE (st.set j (.mit a [])))
    | .mlist vs => vs.length < 2 ^ 24 ∧ T rest (fun v r' => P .nxt ((st.set j (.mit a r')).set i (.mlist (vs ++ [v])))) (PE (st.set j (.mit a [])))
    | _ => False)
  | _ => False
theorem ExSX.appendRead (fx : FX l F outer) (ok : FmOk (frC C l hl) n F) {x y g : Str} {p apos pos pos' pf py cpos : Pos} {f : Value} {m : Nat} {pl : Sem Bool} {T : List Int → (V → List Int → Prop) → Prop → Prop} (i j : Nat) (hij : i ≠ j) (hi : F.names[i]? = some x) (hj : F.names[j]? = some y)
    (gn : GN (frC C l hl) g f) (hg : F.env.kindOf g = some .globalImplicit) (hk : KeepOk (frC C l hl) f) (hT : PCI C m f T) (hm : m ≤ n)
    (he : eval (.Call (.Attribute (.Name x p) (Str.ofString "append") apos) [.Call (.Name g pf) [.Name y py] [] cpos] [] pos) F.env = (do
      let ov ← eval (.Name x p) F.env
      standAt apos.atName
      let (f, first) ← holding [ov] (getMethod ov (Str.ofString "append") pl)
      callWith pos f first (backTo pos (starEach [.Call (.Name g pf) [.Name y py] [] cpos] F.env)) [])) :
    ExSX (XF (frC C l hl) F outer) (frC C l hl) F (.Expr (.Call (.Attribute (.Name x p) (Str.ofString "append") apos) [.Call (.Name g pf) [.Name y py] [] cpos] [] pos) pos') (appRead T i j) := by
  intro ad st s P PE Q E hW R k kE
  have hx := ok.names x (List.mem_of_getElem? hi)
  refine wpAny_Expr ?_ (interactive_no ok) (swaps_no rfl)
  unfold appRead at hW
  split at hW
  rotate_left
  · exact hW.elim
  rename_i a rest hvj
  obtain ⟨wj, pj, j1, j2, j3, j4⟩ := R.mit hj hvj
  have go : ∀ (b : Addr) (ws : List Value) (P' : V → List Int → Prop), (i, b) ∈ ad.m → Rd F.env s.heap x (.ref b) → s.heap.PlainList b ws.toArray → ws.length ≤ 2 ^ 24 → T rest P' (PE (st.set j (.mit a []))) →
      (∀ w v r' h₁ t₁, P' v r' → Rep (frC C l hl) F ad (st.set j (.mit a r')) { s with heap := h₁, toks := t₁ } → Stp (frC C l hl) F ad s.heap ad h₁ → VR (F.U ad) h₁ v w → h₁.PlainList b ws.toArray → Rd F.env h₁ x (.ref b) → ∀ h' : Heap, h'.PlainList b (ws ++ [w]).toArray → Heap.SameBut b h₁ h' → Q .next { s with heap := h', toks := t₁ }) →
      wpAny (model C.prog C.w) F.A (eval (.Call (.Attribute (.Name x p) (Str.ofString "append") apos) [.Call (.Name g pf) [.Name y py] [] cpos] [] pos) F.env) (fun v s' => match v with | .ref _ => False | _ => Q .next s') E s := by
    intro b ws P' hmb rd hp hsz hT' kk
    have nd := R.nd
    unfold Fm.own at nd
    rw [List.nodup_cons, List.nodup_append] at nd
    have hba : b ≠ a := fun e => hij (by have := Rep.freeze.nodup_snd nd.2.2.1 (e ▸ hmb) j1; injection this)
    have hbL : b ≠ F.env.locals := fun e => nd.1 (e ▸ List.mem_append_right _ (List.mem_map.mpr ⟨(i, b), hmb, rfl⟩))
    have hbG : b ∉ (frC C l hl).G := R.ownG ok (mem_own_ad hmb)
    refine MethodCall_ (pl := pl) (wpAny_Name (wp_load_rd ok.kind hx rd ?_) (okName_debug hx)) he
    refine getMethod_list (C := C) slot_list_append type_list_append hp ?_
    refine callWith_method1 (first := [.ref b]) (args_cons (eval_read fx ok hj gn hg hk hT hm R hvj hT' (fun w v r' h₁ t₁ hP R₁ sp kp rdk r₁ => args_nil ?_) fun h₁ h' tk e hpe sp R₁ xf => ?_) (starEach_cons rfl)) (starEach_cons rfl) rfl
    · have hp₁ : h₁.PlainList b ws.toArray := hp.at fun o e => kp b o hba hbL hbG e
      refine wpAny_list_append_plain (s := { s with heap := h₁, toks := t₁ }) hp₁ (fun h' hp' hs' => ?_) (by simpa [sizeLine] using hsz)
      exact kk w v r' h₁ t₁ hP R₁ sp r₁ hp₁ (rdk _ _ rd) h' (by simpa using hp') hs'
    · exact kE _ ad h₁ 0 h' tk e hpe sp (R₁ 0) xf
  have sti : ∀ r', getV (st.set j (.mit a r')) i = getV st i := fun r' => by unfold getV; rw [List.getElem?_set_ne (Ne.symm hij)]
  split at hW
  · rename_i ns hv
    obtain ⟨b, ws, e1, e2, e3, e4⟩ := R.mints hi hv
    refine go b ws _ e1 e2 e3 (by rw [e4.length]; omega) hW.2 fun w v r' h₁ t₁ hP R₁ sp r₁ hp₁ rd₁ h' hp' hs' => ?_
    obtain ⟨c, rfl, hP⟩ := hP
    simp only [VR] at r₁; obtain ⟨t, rfl⟩ := r₁
    obtain ⟨R2, sp2⟩ := R₁.relist ok (tk := t₁) (v := .mints (ns ++ [c])) hi e1 rd₁ (same_of hs') (.inl ⟨_, hp'⟩) fun rd _ => ⟨b, _, e1, rd, hp', IntsAre.append e4 (.cons c t .nil)⟩
    exact k .nxt _ ad h' t₁ _ hP (Stp.trans sp sp2 fun a ha => R2.ownG ok ha) R2 rfl
  · rename_i vs hv
    obtain ⟨b, ws, e1, e2, e3, e4⟩ := R.mlist hi hv
    refine go b ws _ e1 e2 e3 (by rw [e4.length]; omega) hW.2 fun w v r' h₁ t₁ hP R₁ sp r₁ hp₁ rd₁ h' hp' hs' => ?_
    obtain ⟨b', ws', e1', e2', e3', e4'⟩ := R₁.mlist (l := vs) hi (by rw [sti]; exact hv)
    have eb : b' = b := by have := Rd.uniq ok.kind e2' rd₁; injection this
    subst eb
    have ew : ws' = ws := by
      obtain ⟨n1, q1⟩ := e3'; obtain ⟨n2, q2⟩ := hp₁
      rw [q1] at q2; injection q2 with q2; injection q2 with _ _ q2 _; injection q2 with q2 _
      simpa using congrArg Array.toList q2
    subst ew
    obtain ⟨R2, sp2⟩ := R₁.relist ok (tk := t₁) (v := .mlist (vs ++ [v])) hi e1 rd₁ (same_of hs') (.inl ⟨_, hp'⟩) fun rd kU => ⟨b', _, e1, rd, hp',
      VRs.append (VRs.mono kU (fun _ hb => .inl hb) _ _ e4') (by simp only [VRs]; exact ⟨w, [], rfl, VR.mono kU (fun _ hb => .inl hb) _ _ r₁, rfl⟩)⟩
    exact k .nxt _ ad h' t₁ _ hP (Stp.trans sp sp2 fun a ha => R2.ownG ok ha) R2 rfl
  · exact hW.elim
end
end Mine
end
section
open PySem PySem.Calls PyProof.Rows PySem.W PySem.Spec PySem.SeqAt
set_option Elab.async false
set_option maxRecDepth 10000
namespace Mine
section
variable {C : Cx} {l : List (Addr × Obj)} {hl : FrL C l} {F : Fm} {n : Nat} {ad : Ad} {st : List V} {s : Shared} {outer : List Env}
theorem rep_fly (fx : FX l F outer) (ok : FmOk (frC C l hl) n F) {h₁ h' base : Heap} {tk tk' : Nat} (R : Rep (frC C l hl) F ad st { s with heap := h₁, toks := tk })
    (hb : ∀ b o, b ∉ (frC C l hl).G → b ≠ F.env.locals → h₁.get? b = some o → base.get? b = some o) (hs : base.StaysIn h') (hu : h₁.UpToSlots h') :
    Rep (frC C l hl) F ad st { s with heap := h', toks := tk' } ∧ Stp (frC C l hl) F ad h₁ ad h' := by
  refine Rep.reslot (s := { s with heap := h₁, toks := tk }) R ok (fun b h1 h2 o e => hs b o (hb b o h1 h2 e)) (fun o e => ?_) fun p hp => ?_
  · obtain ⟨m, o', es, ep, e', d, _⟩ := R.ns
    have : o' = o := by have := e'.symm.trans e; injection this
    subst this
    exact hu _ _ e fun vs q => by rw [d] at q; cases q
  · obtain ⟨sl, e⟩ := R.tb p hp
    obtain ⟨sl', e'⟩ := hu _ _ e (fx.nf p hp)
    exact ⟨sl', e'⟩
theorem stop_exc : isSubtype (.type "StopIteration") (.type "BaseException") = pure true := by rw [isSubtype_type]; kernel_rfl
theorem stop_meta : isSubtype (.type ((Manifest.find? "StopIteration").elim "type" fun x => x.metatype)) (.type "tuple") = pure false := by rw [isSubtype_type]; kernel_rfl
theorem stop_self : isSubtype (.type "StopIteration") (.type "StopIteration") = pure true := by rw [isSubtype_type]; kernel_rfl
theorem ExS.tryStop (fx : FX l F outer) (ok : FmOk (frC C l hl) n F) {body suite : List Stmt} {b₀ : Stmt} {x : Str} {np hpos pos : Pos} {W : WSX} {WH : WS} (gn : GN (frC C l hl) x stopT) (hx : F.env.kindOf x = some .globalImplicit) (hB : ExBX (XF (frC C l hl) F outer) (frC C l hl) F body W)
    (hH : ∀ (e : Addr) (ad : Ad) (st : List V) (s : Shared) (P : Out → List V → Prop) (Q : Flow → Shared → Prop) (E : Value → Shared → Prop), WH st P → Rep (frC C l hl) F ad st s → Post (frC C l hl) F ad s P Q → wpAny (model C.prog C.w) (F.A.mark (some (.ref e))) (execs (b₀ :: suite) F.env) Q E s) :
    ExS (frC C l hl) F (.Try body [.ExceptHandler (some (.Name x np)) none (b₀ :: suite) hpos] [] [] pos) (fun st P => W st P (fun st' => WH st' P)) := by
  intro ad st s P Q E hW R k
  refine wpAny_Try_except (hB ad st s P _ _ _ hW R (fun o st' ad' h' tk fl hp sp R' hf => ?_) fun st' ad' h₁ tk h' tk' e hpe sp R' xf => ?_)
  · cases o with
    | nxt => have hf' := hf; simp only [FlowIs] at hf'; subst hf'; exact wpAny_execs_nil (k .nxt st' ad' h' tk _ hp sp R' hf)
    | brk => have hf' := hf; simp only [FlowIs] at hf'; subst hf'; exact k .brk st' ad' h' tk _ hp sp R' hf
    | cnt => have hf' := hf; simp only [FlowIs] at hf'; subst hf'; exact k .cnt st' ad' h' tk _ hp sp R' hf
    | ret v => have hf' := hf; simp only [FlowIs] at hf'; obtain ⟨w, rfl, _⟩ := hf'; exact k (.ret v) st' ad' h' tk _ hp sp R' hf
  · obtain ⟨base, hb, xst, hu⟩ := xf
    refine x_note (s := { s with heap := h', toks := tk' }) fx.fr fx.hf xst fun h₂ a0 held hu₂ => ?_
    refine wpAny_landsW (s := { s with heap := h₂, toks := tk' }) held fun h₃ fly hu₃ => ?_
    obtain ⟨R₃, _⟩ := rep_fly (tk' := tk') fx ok R' hb fly.1 ((hu.trans hu₂).trans hu₃)
    obtain ⟨oe, he, hc⟩ := fly.there
    refine wpAny_handleBy_builtin (s := { s with heap := h₃, toks := tk' }) (X := "StopIteration") (T := "StopIteration") (b := true) stop_exc stop_meta stop_self
      (name_gn (C := frC C l hl) ok.kind ok.globals ok.builtins hx (R₃.wd ok) gn ⟨rfl, ⟨oe, he, hc⟩, ?_⟩)
    refine lands_againW (s := { s with heap := h₃, toks := tk' }) fly fun h₄ fly₄ hu₄ => ?_
    obtain ⟨R₄, sp₄⟩ := rep_fly (tk' := tk') fx ok R' hb fly₄.1 (((hu.trans hu₂).trans hu₃).trans hu₄)
    exact hH e ad' st' _ P Q _ hpe R₄ fun o st'' ad'' h'' tk'' fl hp sp' R'' hf => k o st'' ad'' h'' tk'' fl hp (Stp.trans (Stp.trans sp sp₄ fun a ha => R₄.ownG ok ha) sp' fun a ha => R''.ownG ok ha) R'' hf
end
end Mine
end
section
open PySem PySem.Calls PyProof.Rows PySem.W PySem.Spec PySem.SeqAt
set_option Elab.async false
set_option maxRecDepth 10000
namespace Mine
section
variable {C : Cx} {F : Fm} {n : Nat}
theorem ExS.assignIter (ok : FmOk C n F) {y f : Str} {arg : Expr} {py pf cpos pos : Pos} {W : WX} (i : Nat) (hi : F.names[i]? = some y) (so : StoreOk F y) (g : GN C f (.builtin "iter")) (hx : F.env.kindOf f = some .globalImplicit) (h : EvX C F arg W) (hs : notStar arg = true) :
    ExS C F (.Assign [.Name y py] (.Call (.Name f pf) [arg] [] cpos) pos) (fun st P => W st fun v => match v with | .ints full => ∀ a, P .nxt (st.set i (.mit a full)) | _ => False) := by
  intro ad st s P Q E hW R k
  refine wpAny_Assign_Name ?_ (swaps_no rfl)
  show wpAny _ F.A (eval (.Name f pf) F.env >>= fun f => callWith cpos f [] (backTo cpos (starEach [arg] F.env)) (backToKw cpos [])) _ E s
  refine wpAny_bind (name_gn ok.kind ok.globals ok.builtins hx (R.wd ok) g ?_)
  refine callWith_of (P := Wd C) (by rw [starEach_cons hs]; rfl) (fun h w => keep_looks (C := C) (.inl ⟨_, rfl⟩) h w) (evalArgs_all (by rw [starEach_cons hs]; rfl) ?_)
  refine args_cons (h ad st s _ _ _ hW R fun w v h₁ t₁ hP g₁ r₁ => args_nil ?_) (starEach_cons hs)
  have R1 := R.grow ok g₁ (tk := t₁)
  refine ⟨R1.wd ok, ?_⟩
  split at hP
  · rename_i full
    have r₁' := r₁
    simp only [VR] at r₁
    obtain ⟨lx, ws, rfl, hlx, hpl, hin⟩ := r₁
    refine call_function_entry (by decide +kernel) (by decide +kernel) kdk_entry_iter (kdk_args_iter _) ?_
    unfold Builtin.«iter»
    refine wpAny_bind (m := someArgs "iter" 1 2 _) (wpAny_of_eq (a := [Value.ref lx]) (by first | rfl | kernel_rfl!) ?_)
    show wpAny _ _ (pyIter (.ref lx) >>= _) _ _ _
    refine wpAny_bind (wpAny_pyIter_list hpl.isList ?_)
    refine wpAny_pure ⟨_, rfl, ?_⟩
    have dead : h₁.get? h₁.objs.size = none := dead_size _
    have hU : h₁.objs.size ∉ F.U ad := size_notin R1.U_alive
    refine store_own (s := { s with heap := h₁, toks := t₁ }) ok R1 (Gr.push C h₁ _) hi so (u := .mit h₁.objs.size full) (P := P) (fun o st' ad' h' tk fl hp sp R' hf => k o st' ad' h' tk fl hp (Stp.trans (.of g₁) sp fun a ha => R'.ownG ok ha) R' hf)
      (fun q => C.alive _ R1.tb _ q dead) dead (.inr ⟨.ref lx, 0, _, Heap.get?_push_size _ rfl, rfl, rfl⟩) hU (fun h' ka kb rd => ⟨.ref lx, 0, List.mem_cons_self, rd, ⟨_, ka _ (Heap.get?_push_size _ rfl), rfl, rfl⟩, .inr ⟨full, ?_, rfl⟩⟩) (hP _)
    refine VR.mono (U := F.U ad) (h := h₁) (fun b o hb e => kb b o (fun q => hb (List.mem_append_left _ q)) (Heap.get?_push_of_some _ e)) (fun b hb => ?_) _ _ r₁'
    rcases List.mem_append.mp hb with hb | hb
    · rcases List.mem_cons.mp hb with e | hb
      · exact .inl (List.mem_append_left _ (e ▸ List.mem_cons_self))
      · rcases List.mem_append.mp hb with hb | hb
        · exact .inl (List.mem_append_left _ (List.mem_cons_of_mem _ (List.mem_append_left _ hb)))
        · rcases List.mem_cons.mp hb with e | hb
          · exact .inr (by rw [show b = h₁.objs.size from e]; exact dead)
          · obtain ⟨p, hp, rfl⟩ := List.mem_map.mp hb
            exact .inl (List.mem_append_left _ (mem_own_ad (mem_dropI.mp hp).1))
    · exact .inl (List.mem_append_right _ hb)
  · exact hP.elim
end
end Mine
end
section
open PySem PySem.Calls PyProof.Rows PySem.W PySem.Spec PySem.SeqAt
set_option Elab.async false
namespace Mine
noncomputable abbrev xNil : WSX := fun st P _ => P .nxt st
noncomputable abbrev xCons (W1 W2 : WSX) : WSX := fun st P PE => W1 st (seqPX W2 P PE) PE
noncomputable abbrev xLift (W : WS) : WSX := fun st P _ => W st P
noncomputable abbrev xNext (i j : Nat) : WSX := fun st P PE => match getV st i with
      | .mit _ [] => PE st
      | .mit a (v :: r) => P .nxt ((st.set i (.mit a r)).set j (.int v))
      | _ => False
noncomputable abbrev xWhile (W : WC) (W1 : WSX) : WSX := fun st P PE => ∃ I : Nat → List V → Prop, (∃ m, I m st) ∧ ∀ m st, I m st → W st fun c => (c = true → W1 st (whileP m I P) PE) ∧ (c = false → P .nxt st)
noncomputable abbrev xFor (i : Nat) (W : WXs) (W1 : WSX) : WSX := fun st P PE => W st fun vs => ∃ I : Nat → List V → Prop, I 0 st ∧ (∀ j v st, vs[j]? = some v → I j st → W1 (st.set i v) (loopP I j P) PE) ∧ (∀ st, I vs.length st → P .nxt st)
noncomputable abbrev sTry (W : WSX) (WH : WS) : WS := fun st P => W st P (fun st' => WH st' P)
noncomputable abbrev sIter (i : Nat) (W : WX) : WS := fun st P => W st fun v => match v with | .ints full => ∀ a, P .nxt (st.set i (.mit a full)) | _ => False
noncomputable abbrev sRetOwn (i : Nat) : WS := fun st P => (getV (frz i st) i).plain ∧ P (.ret (getV (frz i st) i)) (frz i st)
section
variable {W : WSX} {P : Out → List V → Prop} {PE : List V → Prop} {st : List V} {v : V}
theorem q_xnxt : seqPX W P PE .nxt st = W st P PE := rfl
theorem q_xret : seqPX W P PE (.ret v) st = P (.ret v) st := rfl
end
end Mine
end
section
open PySem PySem.Calls PyProof.Rows PySem.W PySem.Spec
set_option Elab.async false
set_option maxRecDepth 10000
namespace Mine
noncomputable abbrev WE := Nat → List V → (List V → Prop) → Prop
noncomputable def compL (body : Nat → V → (List V → Prop) → Prop) : Nat → List V → (List V → Prop) → Prop
  | _, [], P => P []
  | k, v :: vs, P => body k v fun us => compL body (k + us.length) vs fun r => P (us ++ r)
structure AccOk (C : Cx) (F : Fm) (acc : Addr) : Prop where
  g : acc ∉ C.G
  h0 : F.h₀.get? acc = none
  nc : acc ∉ F.env.cells.map (·.2)
  ng : acc ≠ mainGlobals
structure CmR (C : Cx) (F : Fm) (ux : List Addr) (acc : Addr) (st us : List V) (s : Shared) : Prop where
  rep : Rep C F ⟨[], ux⟩ st s
  mem : acc ∈ ux
  lst : ∃ ws : List Value, s.heap.PlainList acc ws.toArray ∧ VRs (F.U ⟨[], ux⟩) s.heap us ws
noncomputable abbrev EX := Addr → (Shared → Prop) → (Value → Shared → Prop) → Shared → Prop
noncomputable def KeptC (C : Cx) (F : Fm) (acc : Addr) (h h' : Heap) : Prop := ∀ b o, b ∉ C.G → b ∉ F.own ⟨[], []⟩ → b ≠ acc → h.get? b = some o → h'.get? b = some o
noncomputable def EmT (C : Cx) (F : Fm) (X : EX) (W : WE) : Prop :=
  ∀ (ux : List Addr) (acc : Addr) (st us : List V) (s : Shared) (P : List V → Prop) (Q : Shared → Prop) (E : Value → Shared → Prop),
    AccOk C F acc → CmR C F ux acc st us s → W us.length st P →
    (∀ vs h' tk, P vs → KeptC C F acc s.heap h' → CmR C F ux acc st (us ++ vs) { s with heap := h', toks := tk } → Q { s with heap := h', toks := tk }) → X acc Q E s
noncomputable abbrev xEmit (prog : Program) (w : World) (A : Around) (elt : Expr) (env : Env) : EX := fun acc Q E s =>
  wpAny (model prog w) A (eval elt env) (fun x s₄ => wpAny (model prog w) A (call (.builtin "list.append") [.ref acc, x]) (fun _ s₅ => Q s₅) E s₄) E s
noncomputable abbrev xTest (prog : Program) (w : World) (A : Around) (c : Expr) (env : Env) (X : EX) : EX := fun acc Q E s =>
  wpAny (model prog w) A (isTrue c env (eval c env)) (fun ok s₃ => if ok = true then X acc Q E s₃ else Q s₃) E s
noncomputable abbrev xNest (prog : Program) (w : World) (A : Around) (e : Expr) (d : Nat) (iter : Expr) (env : Env) : EX := fun acc Q E s =>
  wpAny (model prog w) A (eval iter env) (fun x s₁ => wpAny (model prog w) A (pyIter x) (fun it s₂ =>
    codeAny (model prog w) A (.compStart e d it (.ref acc) env) (fun r s' => match r with | .ok _ => Q s' | .error x => cameBackBy (model prog w) A env E x s') s₂) E s₁) E s
section
variable {C : Cx} {F : Fm} {n : Nat}
theorem acc_on (ok : FmOk C n F) {ux : List Addr} {acc : Addr} {st us : List V} {s : Shared} {h' h'' : Heap} {tk : Nat} (ao : AccOk C F acc) (R : CmR C F ux acc st us s) {v : V} {w : Value} {ws : List Value} (g : Gr C s.heap h') (hv : VR (F.U ⟨[], ux⟩) h' v w)
    (hl : h'.PlainList acc ws.toArray) (hvs : VRs (F.U ⟨[], ux⟩) h' us ws) (hl'' : h''.PlainList acc (ws ++ [w]).toArray) (hs : Heap.SameBut acc h' h'') : CmR C F ux acc st (us ++ [v]) { s with heap := h'', toks := tk } := by
  have R1 := R.rep.grow ok g (tk := tk)
  have kp : ∀ b o, b ∉ [acc] → h'.get? b = some o → h''.get? b = some o := fun b o hb e => (hs.2 b (by simpa using hb)).trans e
  have accU : acc ∈ F.U ⟨[], ux⟩ := List.mem_append_right _ R.mem
  have kU : ∀ b o, b ∉ F.U ⟨[], ux⟩ → h'.get? b = some o → h''.get? b = some o := fun b o hb e => kp b o (fun q => hb (by rw [List.mem_singleton] at q; rw [q]; exact accU)) e
  refine ⟨R1.onUx ok (wr := [acc]) ?_ ?_ ?_ ?_ ?_ ?_ kp ?_, R.mem, ws ++ [w], hl'', ?_⟩
  · intro b hb; rw [List.mem_singleton] at hb; rw [hb]; exact R.mem
  · intro b hb; rw [List.mem_singleton] at hb; rw [hb]; exact ao.g
  · intro b hb o e vs ed; rw [List.mem_singleton] at hb; rw [hb] at e
    obtain ⟨m, hm⟩ := hl
    have e : h'.get? acc = some o := e
    rw [hm] at e; injection e with e; subst e; cases ed
  · intro b hb; rw [List.mem_singleton] at hb; rw [hb]; exact ao.h0
  · intro b hb; rw [List.mem_singleton] at hb; rw [hb]; exact ao.nc
  · intro b hb; rw [List.mem_singleton] at hb; rw [hb]; exact ao.ng
  · intro b hb; rw [List.mem_singleton] at hb; rw [hb]; exact plainList_alive hl''
  · refine VRs.append (VRs.mono kU (fun _ hb => .inl hb) _ _ hvs) ?_
    simp only [VRs]; exact ⟨w, [], rfl, VR.mono kU (fun _ hb => .inl hb) _ _ hv, rfl⟩
theorem EmT.emit (ok : FmOk C n F) {elt : Expr} {W : WX} (h : EvX C F elt W) : EmT C F (xEmit C.prog C.w F.A elt F.env) (fun k st P => W st fun v => k < 2 ^ 24 ∧ P [v]) := by
  intro ux acc st us s P Q E ao R hW k
  refine h _ st s _ _ _ hW R.rep fun w v h' tk hp g hv => ?_
  obtain ⟨ws, hl, hvs⟩ := R.lst
  have hl' : h'.PlainList acc ws.toArray := hl.at fun o => g.keep acc o ao.g
  have hvs' := hvs.gr R.rep.UG g
  refine wpAny_list_append_plain (s := { s with heap := h', toks := tk }) hl' (fun h'' hl'' hs => ?_) (by have := hvs.length; have := hp.1; simp [sizeLine]; (clear ok h ao R hW k g hv hl hvs hl' hvs' this; lia))
  have hl3 : h''.PlainList acc (ws ++ [w]).toArray := by simpa using hl''
  refine k [v] h'' tk hp.2 (fun b o hg ho hb e => (hs.2 b hb).trans (g.keep b o hg e)) (acc_on ok ao R g hv hl' hvs' hl3 hs)
end
noncomputable def LoopOk (prog : Program) (w : World) (A : Around) (env : Env) (e : Expr) (d : Nat) (x : Str) (px : Pos) (X : EX) : Prop :=
  ∀ (I acc : Addr) (Inv : Nat → Shared → Prop) (R : Result → Shared → Prop),
    (∀ n s, Inv n s → wpAny (model prog w) A (pyNext (.ref I)) (fun r s₁ => match r with
      | none => R (.ok .next) s₁
      | some v => wpAny (model prog w) A (assign (.Name x px) env v) (fun _ s₂ => X acc (fun s₃ => ∃ m, m < n ∧ Inv m s₃) (notedBy (model prog w) A env fun e s' => R (.error e) s') s₂) (notedBy (model prog w) A env fun e s' => R (.error e) s') s₁)
      (notedBy (model prog w) A env fun e s' => R (.error e) s') s) →
    ∀ n s, Inv n s → codeAny (model prog w) A (.compLoop e d (.ref I) (.ref acc) env) R s
section
variable {prog : Program} {w : World} {A : Around} {env : Env}
theorem loop_one {elt iter : Expr} {x : Str} {px : Pos} {scope : Scope} {pos : Pos} : LoopOk prog w A env (.ListComp elt [⟨.Name x px, iter, [], 0⟩] scope pos) 0 x px (xEmit prog w A elt env) :=
  fun I acc Inv R turn n s h => codeAny_compLoop_list Inv turn n h
theorem codeAny_compStart_X {elt : Expr} {gens : List Comprehension} {g : Comprehension} {d : Nat} {scope : Scope} {pos : Pos} {it acc : Value} {R : Result → Shared → Prop} {s : Shared} (hg : gens[d]? = some g) (ha : g.is_async = 0)
    (h0 : codeAny (model prog w) A (.compLoop (.ListComp elt gens scope pos) d it acc env) R s)
    (h : wpAny (model prog w) A (pyIter it) (fun it' s' => codeAny (model prog w) A (.compLoop (.ListComp elt gens scope pos) d it' acc env) R s')
      (notedBy (model prog w) A env fun x s' => R (.error x) s') s) :
    codeAny (model prog w) A (.compStart (.ListComp elt gens scope pos) d it acc env) R s := by
  refine codeAny_of_tree ?_
  show wpAny _ _ ((compStart (.ListComp elt gens scope pos) d it acc env).onRaise (fun x => do noteFrame x env; standAt theWindowsPlace)) _ _ s
  refine wpAny_notedAt ?_
  have e : compStart (.ListComp elt gens scope pos) d it acc env = (do
      if (← ask).params.followText "comprehension-iter-twice" then return ← again (.compLoop (.ListComp elt gens scope pos) d it acc env)
      rule "comprehension.iter-twice"
      standAt g.iter.pos
      again (.compLoop (.ListComp elt gens scope pos) d (← pyIter it) acc env)) := by
    unfold compStart
    simp only [show clausesOf (Expr.ListComp elt gens scope pos) = gens from rfl, hg, Option.elim, ha]
    rfl
  rw [e]
  show wpAny _ _ (ask >>= _) _ _ s
  refine wpAny_bind (wpAny_askSetting (wpAny_ite ?_))
  split
  · first
      | exact wpAny_bind (wpAny_pure (wpAny_pure (And.intro rfl h0)))
      | exact wpAny_pure (And.intro rfl h0)
  · first
      | exact wpAny_bind (wpAny_rule (wpAny_bind (wpAny_standAt (wpAny_bind (wpAny_mono h (fun it' s' h' => wpAny_pure (And.intro rfl h')) fun _ _ x => x)))))
      | (refine wpAny_bind (wpAny_rule ?_); show wpAny _ _ (standAt g.iter.pos >>= _) _ _ s; exact wpAny_bind (wpAny_standAt (wpAny_bind (wpAny_mono h (fun it' s' h' => wpAny_pure (And.intro rfl h')) fun _ _ x => x))))
end
end Mine
end
section
open PySem PySem.Calls PyProof.Rows PySem.W PySem.Spec
set_option Elab.async false
set_option maxRecDepth 10000
namespace Mine
section
variable {C : Cx} {F : Fm} {n : Nat}
theorem drop_nil {ux : List Addr} {i : Nat} : dropI ⟨[], ux⟩ i = ⟨[], ux⟩ := rfl
theorem own_U {ux : List Addr} {b : Addr} (h : b ∈ F.own ⟨[], []⟩) : b ∈ F.U ⟨[], ux⟩ := List.mem_append_left _ h
structure ItrC (C : Cx) (A : Around) (U : List Addr) (h h' : Heap) (I : Addr) (vs : List V) (fp wr : List Addr) (St : List Addr → Nat → Heap → Prop) : Prop where
  st : ∀ U', St U' 0 h'
  dead : ∀ b ∈ wr, h.get? b = none
  hal : ∀ U' j h, St U' j h → ∀ b ∈ wr, ∃ o, h.get? b = some o ∧ ∀ vs, o.data = .fields vs → o.cls ≠ .type "code"
  hfp : ∀ b ∈ fp, b ∈ wr ∨ (b ∉ U ∧ h'.get? b ≠ none)
  frame : ∀ U' i h h', St U' i h → (∀ b o, (b ∈ fp ∨ b ∉ U') → h.get? b = some o → h'.get? b = some o) → St U' i h'
  item : ∀ (U' : List Addr) (j : Nat) (s : Shared) (Q : Option Value → Shared → Prop) (E : Value → Shared → Prop), (∀ b ∈ U', b ∈ wr ++ U ∨ h'.get? b = none) → (∀ u ∈ U', s.heap.get? u ≠ none) → (∀ b ∈ wr, b ∈ U') → j < vs.length → St U' j s.heap →
    (∀ b o, b ∉ U' → h'.get? b = some o → s.heap.get? b = some o) →
    (∀ v w h₁ tk₁, vs[j]? = some v → VR U' h₁ v w → St U' (j + 1) h₁ → (∀ b o, b ∉ wr → s.heap.get? b = some o → h₁.get? b = some o) → Q (some w) { s with heap := h₁, toks := tk₁ }) → wpAny (model C.prog C.w) A (pyNext (.ref I)) Q E s
  done : ∀ (U' : List Addr) (s : Shared) (Q : Option Value → Shared → Prop) (E : Value → Shared → Prop), St U' vs.length s.heap →
    (∀ h₁ tk₁, (∀ b o, b ∉ wr → s.heap.get? b = some o → h₁.get? b = some o) → Q none { s with heap := h₁, toks := tk₁ }) → wpAny (model C.prog C.w) A (pyNext (.ref I)) Q E s
  self : ∀ U' i (s : Shared) (Q : Value → Shared → Prop) (E : Value → Shared → Prop), St U' i s.heap → Q (.ref I) s → wpAny (model C.prog C.w) A (pyIter (.ref I)) Q E s
noncomputable def EvI2 (C : Cx) (F : Fm) (e : Expr) (W : WXs) : Prop :=
  (∀ x, foldedSetIterable e F.env x = pure x) ∧
  ∀ (ad : Ad) (st : List V) (s : Shared) (P : List V → Prop) (Q : Value → Shared → Prop) (E : Value → Shared → Prop), W st P → Rep C F ad st s →
    (∀ I vs fp wr St h' tk, P vs → Gr C s.heap h' → ItrC C F.A (F.U ad) s.heap h' I vs fp wr St → Q (.ref I) { s with heap := h', toks := tk }) →
    wpAny (model C.prog C.w) F.A (eval e F.env) (fun x s₁ => wpAny (model C.prog C.w) F.A (pyIter x) Q E s₁) E s
theorem EvI.c {e : Expr} {W : WXs} (h : EvI C F e W) : EvI2 C F e W := by
  refine ⟨h.1, fun ad st s P Q E hW R k => h.2 ad st s P Q E hW R fun it vs h' tk hp g hI => ?_⟩
  obtain ⟨Ia, fp, wr, PP, St, rfl, Wk, hst, hdead, hal, hfp, hval⟩ := hI
  refine k Ia vs fp wr (fun _ => St) h' tk hp g ⟨fun _ => hst, hdead, fun _ => hal, hfp, fun _ i h h' x q => Wk.frame i h h' x (fun b hb o => q b o (.inl hb)), fun U' j s' Q' E' hU' al hw hj hst' kp kk => ?_, fun _ => Wk.done, fun _ => Wk.self⟩
  refine Wk.item j s' Q' E' hj hst' fun w h₁ tk₁ hPw hst₁ hk₁ => ?_
  obtain ⟨v, hv, hvr⟩ := hval j w hj hPw
  have no : ∀ b o, b ∉ wr ++ F.U ad → h'.get? b = some o → b ∉ U' := fun b o hb e q => (hU' b q).elim hb fun z => by rw [z] at e; cases e
  exact kk v w h₁ tk₁ hv (VR.mono (fun b o hb e => hk₁ b o (fun q => hb (List.mem_append_left _ q)) (kp b o (no b o hb e) e)) hU' v w hvr) hst₁ hk₁
theorem cm_loop (ok : FmOk C n F) {x : Str} {px : Pos} (i : Nat) (hi : F.names[i]? = some x) (so : StoreOk F x) {X : EX} {W : WE} (hX : EmT C F X W) {e : Expr} {d : Nat} (hL : LoopOk C.prog C.w F.A F.env e d x px X)
    {I acc : Addr} {fp wr ux U : List Addr} {St : List Addr → Nat → Heap → Prop} {vs st us : List V} {s : Shared} {P : List V → Prop} {R : Result → Shared → Prop} {hs h₀ : Heap}
    (ao : AccOk C F acc) (hu : st.set i .unb = st) (ic : ItrC C F.A U hs h₀ I vs fp wr St) (hst : ∀ U', St U' 0 s.heap) (up : ∀ b o, h₀.get? b = some o → s.heap.get? b = some o)
    (hwG : ∀ b ∈ wr, b ∉ C.G) (hwF : ∀ b ∈ wr, F.h₀.get? b = none) (hwC : ∀ b ∈ wr, b ∉ F.env.cells.map (·.2)) (hwg : ∀ b ∈ wr, b ≠ mainGlobals) (hwx : ∀ b ∈ wr, b ∉ ux)
    (hfp : ∀ b ∈ fp, b ∉ C.G ∧ b ∉ F.own ⟨[], []⟩ ∧ b ≠ acc)
    (hU : ∀ b ∈ F.U ⟨[], wr ++ ux⟩, b ∈ wr ++ U ∨ h₀.get? b = none)
    (cr : CmR C F (wr ++ ux) acc st us s) (hacc : acc ∈ ux) (gux : ∀ g ∈ C.G, g ∈ ux)
    (hW : compL (fun k v K => W k (st.set i v) K) us.length vs P)
    (kk : ∀ rs h' tk, P rs → (∀ b o, b ∉ C.G → b ∉ F.own ⟨[], []⟩ → b ≠ acc → b ∉ wr → s.heap.get? b = some o → h'.get? b = some o) → CmR C F ux acc st (us ++ rs) { s with heap := h', toks := tk } → R (.ok .next) { s with heap := h', toks := tk }) :
    codeAny (model C.prog C.w) F.A (.compLoop e d (.ref I) (.ref acc) F.env) R s := by
  have accw : acc ∉ wr := fun q => hwx acc q hacc
  have accU : acc ∈ F.U ⟨[], wr ++ ux⟩ := List.mem_append_right _ (List.mem_append_right _ hacc)
  refine hL I acc (fun m s' => ∃ (j : Nat) (rs : List V) (h'' : Heap) (tk' : Nat), m + j = vs.length + 1 ∧ j ≤ vs.length ∧ s' = { s with heap := h'', toks := tk' } ∧
    (∀ b o, b ∉ C.G → b ∉ F.own ⟨[], []⟩ → b ≠ acc → b ∉ wr → s.heap.get? b = some o → h''.get? b = some o) ∧ CmR C F (wr ++ ux) acc st (us ++ rs) s' ∧ St (F.U ⟨[], wr ++ ux⟩) j h'' ∧
    compL (fun k v K => W k (st.set i v) K) (us.length + rs.length) (vs.drop j) (fun r => P (rs ++ r))) R ?_ (vs.length + 1) s
    ⟨0, [], s.heap, s.toks, rfl, Nat.zero_le _, rfl, fun _ _ _ _ _ _ e => e, by simpa using cr, hst _, by simpa using hW⟩
  rintro m s' ⟨j, rs, h'', tk', hm, hj, rfl, kept, R', hst', hW'⟩
  have hcode := fun b hb => ic.hal _ j h'' hst' b hb
  have hwc : ∀ b ∈ wr, ∀ o, h''.get? b = some o → ∀ vs, o.data = .fields vs → o.cls ≠ .type "code" := fun b hb o e vs ed => by obtain ⟨o', e', c'⟩ := hcode b hb; rw [e'] at e; injection e with e; subst e; exact c' vs ed
  by_cases hlt : j < vs.length
  · have kU₀ : ∀ b o, b ∉ F.U ⟨[], wr ++ ux⟩ → h₀.get? b = some o → h''.get? b = some o := fun b o hb e =>
      kept b o (fun q => hb (List.mem_append_right _ (List.mem_append_right _ (gux b q)))) (fun q => hb (own_U q)) (fun q => hb (q ▸ accU)) (fun q => hb (List.mem_append_right _ (List.mem_append_left _ q))) (up b o e)
    refine ic.item _ j _ _ _ hU R'.rep.U_alive (fun b hb => List.mem_append_right _ (List.mem_append_left _ hb)) hlt hst' kU₀ fun v w h₁ tk₁ hv vr₁ hst₁ hk₁ => ?_
    have R₁ : Rep C F ⟨[], wr ++ ux⟩ st { s with heap := h₁, toks := tk₁ } := R'.rep.onUx ok (fun b hb => List.mem_append_left _ hb) hwG hwc hwF hwC hwg hk₁ (fun b hb => by obtain ⟨o, e, _⟩ := ic.hal _ (j + 1) h₁ hst₁ b hb; rw [e]; simp)
    have kU₁ : ∀ b o, b ∉ F.U ⟨[], wr ++ ux⟩ → h''.get? b = some o → h₁.get? b = some o := fun b o hb e => hk₁ b o (fun q => hb (List.mem_append_right _ (List.mem_append_left _ q))) e
    obtain ⟨ws, hl, hvs⟩ := R'.lst
    have hl₁ : h₁.PlainList acc ws.toArray := hl.at fun o => hk₁ acc o accw
    have hvs₁ := VRs.mono kU₁ (fun _ hb => .inl hb) _ _ hvs
    refine wpAny_assign_Name (R₁.store ok hi so vr₁ fun h₂ tk₂ R₂ kp => ?_)
    rw [drop_nil] at R₂
    have accO : acc ∉ F.own ⟨[], wr ++ ux⟩ := fun q => R₁.apart acc q (List.mem_append_right _ hacc)
    have R₂' : CmR C F (wr ++ ux) acc (st.set i v) (us ++ rs) { s with heap := h₂, toks := tk₂ } :=
      ⟨R₂, List.mem_append_right _ hacc, ws, hl₁.at fun o => kp acc o accO, VRs.mono (fun b o hb e => kp b o (fun q => hb (own_U q)) e) (fun _ hb => .inl hb) _ _ hvs₁⟩
    have hst₂ : St (F.U ⟨[], wr ++ ux⟩) (j + 1) h₂ := ic.frame _ _ _ _ hst₁ fun b o hb e => kp b o (hb.elim (fun q => (hfp b q).2.1) fun q z => q (own_U z)) e
    have hv' : vs.drop j = v :: vs.drop (j + 1) := by
      obtain ⟨hj', rfl⟩ := List.getElem?_eq_some_iff.mp hv
      exact List.drop_eq_getElem_cons hj'
    rw [hv'] at hW'
    simp only [compL] at hW'
    refine hX _ acc _ _ _ _ _ _ ao R₂' (by rw [List.length_append]; exact hW') fun us' h₃ tk₃ hP₃ kp₃ R₃ => ?_
    have fin : ∀ b, (b ∈ fp ∨ b ∉ F.U ⟨[], wr ++ ux⟩) → b ∉ C.G ∧ b ∉ F.own ⟨[], []⟩ ∧ b ≠ acc := fun b hb => hb.elim (fun q => hfp b q) fun q => ⟨fun z => q (List.mem_append_right _ (List.mem_append_right _ (gux b z))), fun z => q (own_U z), fun z => q (z ▸ accU)⟩
    have hst₃ : St (F.U ⟨[], wr ++ ux⟩) (j + 1) h₃ := ic.frame _ _ _ _ hst₂ fun b o hb e => kp₃ b o (fin b hb).1 (fin b hb).2.1 (fin b hb).2.2 e
    refine ⟨vs.length + 1 - (j + 1), by omega, j + 1, rs ++ us', h₃, tk₃, by omega, hlt, rfl, fun b o hg ho ha hw e => kp₃ b o hg ho ha (kp b o ho (hk₁ b o hw (kept b o hg ho ha hw e))), ⟨?_, R₃.mem, ?_⟩, hst₃, ?_⟩
    · have := R₃.rep.bind (i := i) hi (v := .unb) trivial
      rw [List.set_set, hu] at this
      exact this
    · rw [← List.append_assoc]; exact R₃.lst
    · rw [List.length_append, ← Nat.add_assoc]; simp only [List.append_assoc]; exact hP₃
  · have hje : j = vs.length := by omega
    subst hje
    refine ic.done _ _ _ _ hst' fun h₁ tk₁ hk₁ => ?_
    rw [List.drop_length] at hW'
    simp only [compL, List.append_nil] at hW'
    have kU₁ : ∀ b o, b ∉ F.U ⟨[], wr ++ ux⟩ → h''.get? b = some o → h₁.get? b = some o := fun b o hb e => hk₁ b o (fun q => hb (List.mem_append_right _ (List.mem_append_left _ q))) e
    obtain ⟨ws, hl, hvs⟩ := R'.lst
    refine kk rs h₁ tk₁ hW' (fun b o hg ho ha hw e => hk₁ b o hw (kept b o hg ho ha hw e)) ⟨?_, hacc, ws, hl.at fun o => hk₁ acc o accw, ?_⟩
    · exact R'.rep.endUx ok gux hwx hwG hwc hwF hwC hwg hk₁
    · refine VRs.mono kU₁ (fun b hb => .inl ?_) _ _ hvs
      rcases List.mem_append.mp hb with hb | hb
      · exact List.mem_append_left _ hb
      · exact List.mem_append_right _ (List.mem_append_right _ hb)
end
end Mine
end
section
open PySem PySem.Calls PyProof.Rows PySem.W PySem.Spec
set_option Elab.async false
set_option maxRecDepth 10000
namespace Mine
theorem cellsFrom_acc : ∀ (names : List (Str × NameKind)) (n : Nat) (acc : List (Str × Addr)), cellsFrom n names acc = cellsFrom n names [] ++ acc
  | [], _, _ => rfl
  | (x, k) :: r, n, acc => by
    unfold cellsFrom
    split
    · rw [cellsFrom_acc r (n + 1) ((x, n) :: acc), cellsFrom_acc r (n + 1) [(x, n)], List.append_assoc]; rfl
    · exact cellsFrom_acc r n acc
noncomputable def cmEnv (scope : Scope) (cl : List (Str × Addr)) (L : Addr) (env : Env) : Env := compEnvC scope (cellsFrom (L + 1) scope.names cl) L env
noncomputable def cmFm (F : Fm) (scope : Scope) (cl : List (Str × Addr)) (L : Addr) (h₀ : Heap) (names : List Str) : Fm :=
  { A := F.A, env := cmEnv scope cl L F.env, h₀ := h₀, cells := (cellsFrom (L + 1) scope.names []).map (·.2), names := names }
theorem new_cmEnv {M : Model} {A : Around} {scope : Scope} {globals : Addr} {cl : List (Str × Addr)} {qual : Str} {env : Env} {E : Value → Shared → Prop} {s : Shared} {Q : Env → Shared → Prop}
    (hQ : Q (newEnv scope s.heap.objs.size globals (cellsFrom (s.heap.objs.size + 1) scope.names cl) qual none .none (some env) builtinsNs) { s with heap := pushCells (s.heap.push { cls := .type "dict", data := .dict #[] }) scope.names }) :
    wpAny M A (newFunctionEnv scope globals cl [] qual none .none (some env)) Q E s := by
  simp only [newFunctionEnv, Option.isSome_some, if_true]
  refine wpAny_bind (wpAny_alloc ?_)
  refine wpAny_bind (wpAny_layCells _ (fun name kind cells => by cases hkc : kind == NameKind.cell <;> simp) _ _ _ _ ?_)
  rw [show ({ s with heap := s.heap.push { cls := .type "dict", data := .dict #[] } } : Shared).heap.objs.size = s.heap.objs.size + 1 from Heap.size_push ..]
  exact wpAny_bind (wpAny_pure (wpAny_pure hQ))
noncomputable def Caps (F : Fm) (env' : Env) : List Nat → List Str → Prop
  | [], xs => xs = []
  | j :: js, xs => ∃ x xs', xs = x :: xs' ∧ (∃ c, F.names[j]? = some x ∧ F.env.kindOf x = some .cell ∧ F.env.cells.lookup x = some c ∧ env'.kindOf x = some .cell ∧ env'.cells.lookup x = some c) ∧ Caps F env' js xs'
theorem Caps.get {F : Fm} {env' : Env} : ∀ {js : List Nat} {xs : List Str}, Caps F env' js xs → ∀ {i : Nat} {x : Str}, xs[i]? = some x → ∃ j c, js[i]? = some j ∧ F.names[j]? = some x ∧ F.env.kindOf x = some .cell ∧ F.env.cells.lookup x = some c ∧ env'.kindOf x = some .cell ∧ env'.cells.lookup x = some c
  | [], _, h, i, x, hx => by simp only [Caps] at h; subst h; simp at hx
  | j :: js, _, h, i, x, hx => by
    obtain ⟨y, xs', rfl, ⟨c, h1⟩, h2⟩ := h
    cases i with
    | zero => simp at hx; subst hx; exact ⟨j, c, rfl, h1⟩
    | succ i => simpa using Caps.get h2 (by simpa using hx)
theorem Caps.cons {F : Fm} {env' : Env} {js : List Nat} {xs : List Str} (j : Nat) (x : Str) (c : Addr) (h1 : F.names[j]? = some x) (h2 : F.env.kindOf x = some .cell) (h3 : F.env.cells.lookup x = some c) (h4 : env'.kindOf x = some .cell) (h5 : env'.cells.lookup x = some c)
    (r : Caps F env' js xs) : Caps F env' (j :: js) (x :: xs) := ⟨x, xs, rfl, ⟨c, h1, h2, h3, h4, h5⟩, r⟩
structure CmOk (F : Fm) (scope : Scope) (cl : List (Str × Addr)) (tg cx : List Str) (js : List Nat) : Prop where
  clos : closureFor scope F.env = pure cl
  kind : scope.kind = .function
  locs : ∀ x ∈ scope.names, x.2 = .local → scope.names.lookup x.1 = some .local
  lk : ∀ p ∈ cl, F.env.cells.lookup p.1 = some p.2
  nd : (cl.map (·.2)).Nodup
  okn : ∀ x ∈ tg ++ cx, okName x = true
  nodup : (tg ++ cx).Nodup
  caps : ∀ L, Caps F (cmEnv scope cl L F.env) js cx
theorem CmOk.sub {F : Fm} {scope : Scope} {cl : List (Str × Addr)} {tg cx : List Str} {js : List Nat} (x : CmOk F scope cl tg cx js) : ∀ p ∈ cl, p.2 ∈ F.env.cells.map (·.2) := fun p hp => List.mem_map_of_mem (lookup_mem (x.lk p hp))
section
variable {C : Cx} {F : Fm} {n : Nat} {ad : Ad} {st : List V} {s : Shared}
theorem getV_of {st : List V} {i : Nat} (h : (getV st i).plain) : st[i]? = some (getV st i) := by
  unfold getV at h ⊢
  cases q : st[i]? with
  | none => rw [q] at h; exact h.elim
  | some v => rfl
theorem Rep.value (R : Rep C F ad st s) {i : Nat} {x : Str} (hi : F.names[i]? = some x) (hp : (getV st i).plain) : ∃ w, Rd F.env s.heap x w ∧ VR (F.U ad) s.heap (getV st i) w := by
  have h := R.vars i x _ hi (getV_of hp)
  revert h hp
  generalize getV st i = v
  intro hp h
  cases v <;> first | exact hp.elim | exact h
structure CmEnd (C : Cx) (F : Fm) (ad : Ad) (h h' : Heap) (L acc : Addr) (us : List V) : Prop where
  gr : Gr C h h'
  val : VR (L :: F.U ad) h' (listV us) (.ref acc)
  new : New C h h' (.ref acc)
  ns : ∃ m, h'.Ns L m
  dead : h.get? L = none
  out : L ∉ C.G
  ne : acc ≠ L
theorem comp_core (ok : FmOk C n F) (R : Rep C F ad st s) {scope : Scope} {cl : List (Str × Addr)} {tg cx : List Str} {js : List Nat} (co : CmOk F scope cl tg cx js)
    {elt iter : Expr} {gens : List Comprehension} {g : Comprehension} {pos : Pos} {x : Str} {px : Pos} (hg : gens[0]? = some g) (ha : g.is_async = 0) {W1 : WXs} {W : WE} (hit : EvI2 C F iter W1)
    (hx : tg[0]? = some x) (so : ∀ L h₀, StoreOk (cmFm F scope cl L h₀ (tg ++ cx)) x) {X : Fm → EX} (hX : ∀ L h₀, FmOk C n (cmFm F scope cl L h₀ (tg ++ cx)) → EmT C (cmFm F scope cl L h₀ (tg ++ cx)) (X (cmFm F scope cl L h₀ (tg ++ cx))) W)
    (hL : ∀ L h₀, LoopOk C.prog C.w F.A (cmFm F scope cl L h₀ (tg ++ cx)).env (.ListComp elt gens scope pos) 0 x px (X (cmFm F scope cl L h₀ (tg ++ cx)))) {P : List V → Prop} {RR : Value → Addr → Result → Shared → Prop} {E : Value → Shared → Prop}
    (hW : W1 st fun vs => (∀ j ∈ js, (getV st j).plain) ∧ compL (fun k v K => W k ((List.replicate tg.length V.unb ++ js.map (getV st)).set 0 v) K) 0 vs P)
    (kk : ∀ acc L us h' tk, P us → CmEnd C F ad s.heap h' L acc us → RR (.ref acc) L (.ok .next) { s with heap := h', toks := tk }) :
    wpAny (model C.prog C.w) F.A (eval iter F.env) (fun xv s₁ => wpAny (model C.prog C.w) F.A (pyIter xv) (fun it s₂ => wpAny (model C.prog C.w) F.A (newList []) (fun acc s₃ =>
      wpAny (model C.prog C.w) F.A (newFunctionEnv scope F.env.globals cl [] F.env.qual none .none (some F.env)) (fun cenv s₄ =>
        codeAny (model C.prog C.w) F.A (.compStart (.ListComp elt gens scope pos) 0 it acc { cenv with scope := relabel scope F.env }) (RR acc cenv.locals) s₄) E s₃) E s₂) E s₁) E s := by
  refine hit.2 ad st s _ _ _ hW R fun Ia vs fp wr St h' tk hp g' ic => ?_
  obtain ⟨hpl, hp⟩ := hp
  have hst := ic.st
  have hdead := ic.dead
  have hal := ic.hal
  have hfp := ic.hfp
  refine wpAny_newObj_type (new_cmEnv ?_)
  show codeAny (model C.prog C.w) F.A (.compStart (.ListComp elt gens scope pos) 0 (.ref Ia) (.ref h'.objs.size) (cmEnv scope cl (h'.push { cls := .type "list", dict := none, data := .seq ([] : List Value).toArray }).objs.size F.env))
    (RR (.ref h'.objs.size) (h'.push { cls := .type "list", dict := none, data := .seq ([] : List Value).toArray }).objs.size)
    { s with heap := pushCells ((h'.push { cls := .type "list", dict := none, data := .seq ([] : List Value).toArray }).push { cls := .type "dict", data := .dict #[] }) scope.names, toks := tk }
  generalize hh2 : h'.push { cls := .type "list", dict := none, data := .seq ([] : List Value).toArray } = h2
  have hL2 : h2.objs.size = h'.objs.size + 1 := by rw [← hh2, Heap.size_push]
  generalize hh3 : pushCells (h2.push { cls := .type "dict", data := .dict #[] }) scope.names = h3
  have IC := cellsFrom_ok scope.names (h2.push { cls := .type "dict", data := .dict #[] }) (h2.objs.size + 1) [] ⟨fun _ _ hm => (nomatch hm), List.Pairwise.nil⟩ (by rw [Heap.size_push]; exact Nat.le_refl _)
  rw [Heap.size_push, hh3] at IC
  generalize hLe : h2.objs.size = L at IC hL2
  generalize hae : h'.objs.size = acc at hL2
  have up2 : ∀ b o, h'.get? b = some o → h2.get? b = some o := fun b o e => by rw [← hh2]; exact Heap.get?_push_of_some _ e
  have up3 : ∀ b o, h2.get? b = some o → h3.get? b = some o := fun b o e => by rw [← hh3]; exact pushCells_keeps _ _ b o (Heap.get?_push_of_some _ e)
  have up : ∀ b o, h'.get? b = some o → h3.get? b = some o := fun b o e => up3 b o (up2 b o e)
  have gacc2 : h2.PlainList acc #[] := ⟨0, by rw [← hh2, ← hae]; exact Heap.get?_push_size _ rfl⟩
  have gacc : h3.PlainList acc #[] := gacc2.at fun o => up3 _ o
  have gL : h3.Ns L (fun _ => none) := by
    rw [← hh3, ← hLe]; exact (Heap.Ns.new h2 (.type "dict")).keeps (pushCells_keeps _ _)
  have dead' : ∀ b, h'.objs.size ≤ b → h'.get? b = none := fun b hb => by
    cases q : h'.get? b with
    | none => rfl
    | some o => exact absurd (Heap.lt_size q) (Nat.not_lt.mpr hb)
  have tb' : C.Tb h' := g'.tb R.tb
  have outG : ∀ b, h'.get? b = none → b ∉ C.G := fun b e q => C.alive _ tb' b q e
  have dead0 : ∀ b, h'.get? b = none → s.heap.get? b = none := fun b e => g'.dead (outG b e) e
  have dacc : h'.get? acc = none := dead' acc (by (clear ok R co hg ha hit hx so hX hL hW kk g' ic hpl hp hst hdead hal hfp hh2 hh3 hLe IC hL2 up2 up3 up gacc2 gacc gL dead' tb' outG dead0; lia))
  have dL : h'.get? L = none := dead' L (by (clear ok R co hg ha hit hx so hX hL hW kk g' ic hpl hp hst hdead hal hfp hh2 hh3 hLe IC up2 up3 up gacc2 gacc gL dead' tb' outG dead0 dacc; lia))
  have cab : ∀ c ∈ (cellsFrom (L + 1) scope.names []).map (·.2), L < c := fun c hc => by
    obtain ⟨⟨y, d⟩, hp, rfl⟩ := List.mem_map.mp hc
    exact Nat.lt_of_succ_le (IC.empty y d hp).2
  have cdead : ∀ c ∈ (cellsFrom (L + 1) scope.names []).map (·.2), h'.get? c = none := fun c hc => dead' c (by have := cab c hc; (clear ok R co hg ha hit hx so hX hL hW kk g' ic hpl hp hst hdead hal hfp hh2 hh3 hLe IC up2 up3 up gacc2 gacc gL dead' tb' outG dead0 dacc dL cab hc; lia))
  have cnd : ((cellsFrom (L + 1) scope.names []).map (·.2)).Nodup := pairwise_nodup IC.apart
  have cis : ∀ c ∈ (cellsFrom (L + 1) scope.names []).map (·.2), ∃ v, h3.IsCell c v := fun c hc => by
    obtain ⟨⟨y, d⟩, hp, rfl⟩ := List.mem_map.mp hc
    exact ⟨_, (IC.empty y d hp).1⟩
  have eca : (cmFm F scope cl L s.heap (tg ++ cx)).env.cells = cellsFrom (L + 1) scope.names [] ++ cl := cellsFrom_acc _ _ _
  have ecm : ∀ c ∈ (cmFm F scope cl L s.heap (tg ++ cx)).env.cells.map (·.2), c ∈ (cellsFrom (L + 1) scope.names []).map (·.2) ∨ c ∈ F.env.cells.map (·.2) := fun c hc => by
    rw [eca, List.map_append] at hc
    rcases List.mem_append.mp hc with hc | hc
    · exact .inl hc
    · obtain ⟨p, hp, rfl⟩ := List.mem_map.mp hc; exact .inr (co.sub p hp)
  have ecal : ∀ c ∈ F.env.cells.map (·.2), ∃ v, h'.IsCell c v := fun c hc => (R.ec c hc).imp fun _ y => IsCell.at y fun o e => g'.keep c o (ok.cG c hc) e
  have ecne : ∀ c ∈ F.env.cells.map (·.2), h'.get? c ≠ none := fun c hc => by obtain ⟨v, o, e, _⟩ := ecal c hc; rw [e]; simp
  have okF : FmOk C n (cmFm F scope cl L s.heap (tg ++ cx)) := {
    kind := co.kind
    globals := ok.globals
    builtins := ok.builtins
    wd := R.wd ok
    a := ok.a
    names := co.okn
    nodup := co.nodup
    cl := fun q => by
      rcases ecm _ q with q | q
      · exact Nat.lt_irrefl _ (cab _ q)
      · exact ecne _ q dL
    cn := by
      rw [eca, List.map_append]
      refine List.nodup_append.mpr ⟨cnd, co.nd, fun a ha b hb e => ?_⟩
      obtain ⟨p, hp, rfl⟩ := List.mem_map.mp hb
      exact ecne _ (co.sub p hp) (e ▸ cdead a ha)
    cG := fun c hc => by
      rcases ecm c hc with q | q
      · exact outG c (cdead c q)
      · exact ok.cG c q }
  have ownd : ∀ a ∈ (cmFm F scope cl L s.heap (tg ++ cx)).own ⟨[], []⟩, h'.get? a = none := by
    intro a ha
    rcases List.mem_cons.mp ha with e | ha
    · rw [e]; exact dL
    · rcases List.mem_append.mp ha with ha | ha
      · exact cdead a ha
      · cases ha
  have acco : acc ∉ (cmFm F scope cl L s.heap (tg ++ cx)).own ⟨[], []⟩ := by
    intro ha
    rcases List.mem_cons.mp ha with e | ha
    · have e : acc = L := e
      (clear ok R co hg hit hx so hX hL hW kk g' ic hpl hp hst hdead hal hfp hh2 hh3 hLe IC hae up2 up3 up gacc2 gacc gL dead' tb' outG dead0 dacc dL cab cdead cnd cis eca ecm ecal ecne okF ownd ha; lia)
    · rcases List.mem_append.mp ha with ha | ha
      · have := cab _ ha; (clear ok R co hg hit hx so hX hL hW kk g' ic hpl hp hst hdead hal hfp hh2 hh3 hLe IC hae up2 up3 up gacc2 gacc gL dead' tb' outG dead0 dacc dL cab cdead cnd cis eca ecm ecal ecne okF ownd ha; lia)
      · cases ha
  have wal : ∀ b ∈ wr, h'.get? b ≠ none := fun b hb => by obtain ⟨o, e, _⟩ := hal [] 0 h' (hst []) b hb; rw [e]; simp
  have Ual : ∀ u ∈ F.U ad, h'.get? u ≠ none := (R.grow ok g' (tk := tk)).U_alive
  have R3 : Rep C (cmFm F scope cl L s.heap (tg ++ cx)) ⟨[], wr ++ acc :: F.U ad⟩ (List.replicate tg.length V.unb ++ js.map (getV st)) { s with heap := h3, toks := tk } := {
    stays := fun b o hg e => up b o (g'.keep b o hg e)
    tb := C.stays _ _ tb' up
    ns := ⟨_, gL⟩
    cells := cis
    ads := fun p hp => by cases hp
    gU := fun g hg => List.mem_append_right _ (List.mem_cons_of_mem _ (R.UG g hg))
    ec := fun c hc => by
      rcases ecm c hc with q | q
      · exact cis c q
      · exact (ecal c q).imp fun _ y => IsCell.at y fun o e => up c o e
    fresh := fun a ha => dead0 a (ownd a ha)
    ux := fun u hu => by
      rcases List.mem_append.mp hu with hu | hu
      · cases q : h'.get? u with
        | none => exact absurd q (wal u hu)
        | some o => show h3.get? u ≠ none; rw [up u o q]; simp
      · rcases List.mem_cons.mp hu with e | hu
        · rw [e]; exact plainList_alive gacc
        · cases q : h'.get? u with
          | none => exact absurd q (Ual u hu)
          | some o => show h3.get? u ≠ none; rw [up u o q]; simp
    apart := fun a ha hu => by
      rcases List.mem_append.mp hu with hu | hu
      · exact wal a hu (ownd a ha)
      · rcases List.mem_cons.mp hu with e | hu
        · exact acco (e ▸ ha)
        · exact Ual a hu (ownd a ha)
    nd := by
      show (L :: ((cellsFrom (L + 1) scope.names []).map (·.2) ++ [])).Nodup
      rw [List.append_nil, List.nodup_cons]
      exact ⟨fun q => Nat.lt_irrefl _ (cab _ q), cnd⟩
    vars := fun i y v h1 h2 => by
      by_cases hi : i < tg.length
      · rw [List.getElem?_append_left (by simpa using hi)] at h2
        rw [List.getElem?_replicate, if_pos hi] at h2
        injection h2 with h2; subst h2; trivial
      · rw [List.getElem?_append_right (by simpa using hi), List.length_replicate] at h2
        have h1' : cx[i - tg.length]? = some y := by
          rw [← List.getElem?_append_right (l₁ := tg) (by (clear ok R co hg ha hit hx so hX hL hW kk g' ic hpl hp hst hdead hal hfp hh2 hh3 hLe IC hae hL2 up2 up3 up gacc2 gacc gL dead' tb' outG dead0 dacc dL cab cdead cnd cis eca ecm ecal ecne okF ownd acco wal Ual h1 h2; lia))]; exact h1
        obtain ⟨j, c, hj, hn, k1, k2, k3, k4⟩ := (co.caps L).get h1'
        rw [List.getElem?_map, hj] at h2
        injection h2 with h2; subst h2
        obtain ⟨w, rd, vr⟩ := R.value hn (hpl j (List.mem_of_getElem? hj))
        have cel : s.heap.IsCell c (some w) := by
          unfold Rd at rd; rw [k1] at rd
          obtain ⟨c', e', r'⟩ := rd
          rw [k2] at e'; injection e' with e'; subst e'; exact r'
        have hcG : c ∉ C.G := ok.cG c (List.mem_map_of_mem (lookup_mem k2))
        have cel3 : h3.IsCell c (some w) := IsCell.at cel fun o e => up c o (g'.keep c o hcG e)
        refine VarOk.of (w := w) ?_ (VR.mono (fun b o hb e => up b o (g'.keep b o (fun q => hb (R.UG b q)) e)) (fun b hb => ?_) _ w vr)
        · show Rd (cmEnv scope cl L F.env) h3 y w
          unfold Rd; rw [k3]
          exact ⟨c, k4, cel3⟩
        · rcases List.mem_append.mp hb with hb | hb
          · exact .inr (dead0 b (ownd b hb))
          · rcases List.mem_append.mp hb with hb | hb
            · exact .inr (hdead b hb)
            · rcases List.mem_cons.mp hb with e | hb
              · rw [e]; exact .inr (dead0 _ dacc)
              · exact .inl hb }
  have ao : AccOk C (cmFm F scope cl L s.heap (tg ++ cx)) acc := ⟨outG _ dacc, dead0 _ dacc, fun q => by
      rcases ecm _ q with q | q
      · have := cab _ q; omega
      · exact ecne _ q dacc, fun e => by
      obtain ⟨mg, o, _, _, q, _⟩ := (R.wd ok).g
      have := dead0 _ dacc; rw [e, q] at this; cases this⟩
  have hwG : ∀ b ∈ wr, b ∉ C.G := fun b hb q => C.alive _ R.tb b q (hdead b hb)
  have hwC : ∀ b ∈ wr, b ∉ (cmFm F scope cl L s.heap (tg ++ cx)).env.cells.map (·.2) := fun b hb q => by
    rcases ecm b q with q | q
    · exact wal b hb (cdead b q)
    · obtain ⟨v, o, e, _⟩ := R.ec b q; rw [hdead b hb] at e; cases e
  have hwg : ∀ b ∈ wr, b ≠ mainGlobals := fun b hb e => by
    obtain ⟨mg, o, _, _, q, _⟩ := (R.wd ok).g
    have := hdead b hb; rw [e, q] at this; cases this
  have hwx : ∀ b ∈ wr, b ∉ acc :: F.U ad := fun b hb q => by
    rcases List.mem_cons.mp q with e | q
    · exact wal b hb (e ▸ dacc)
    · exact R.U_alive b q (hdead b hb)
  have hfp' : ∀ b ∈ fp, b ∉ C.G ∧ b ∉ (cmFm F scope cl L s.heap (tg ++ cx)).own ⟨[], []⟩ ∧ b ≠ acc := by
    intro b hb
    rcases hfp b hb with q | ⟨q1, q2⟩
    · exact ⟨hwG b q, fun z => wal b q (ownd b z), fun z => wal b q (z ▸ dacc)⟩
    · exact ⟨fun z => q1 (R.UG b z), fun z => q2 (ownd b z), fun z => q2 (z ▸ dacc)⟩
  have hU' : ∀ b ∈ (cmFm F scope cl L s.heap (tg ++ cx)).U ⟨[], wr ++ acc :: F.U ad⟩, b ∈ wr ++ F.U ad ∨ h'.get? b = none := by
    intro b hb
    rcases List.mem_append.mp hb with hb | hb
    · exact .inr (ownd b hb)
    · rcases List.mem_append.mp hb with hb | hb
      · exact .inl (List.mem_append_left _ hb)
      · rcases List.mem_cons.mp hb with e | hb
        · rw [e]; exact .inr dacc
        · exact .inl (List.mem_append_right _ hb)
  have hst3 : ∀ U', St U' 0 h3 := fun U' => ic.frame _ _ _ _ (hst U') fun b o _ e => up b o e
  have ht0 : 0 < tg.length := by
    cases tg with
    | nil => simp at hx
    | cons _ _ => simp
  have hx' : (tg ++ cx)[0]? = some x := by rw [List.getElem?_append_left ht0]; exact hx
  have hu : (List.replicate tg.length V.unb ++ js.map (getV st)).set 0 .unb = List.replicate tg.length V.unb ++ js.map (getV st) := by
    cases h : tg.length with
    | zero => (clear ok R co hg ha hit hx so hX hL hW kk g' ic hpl hp hst hdead hal hfp hh2 hh3 hLe IC hae hL2 up2 up3 up gacc2 gacc gL dead' tb' outG dead0 dacc dL cab cdead cnd cis eca ecm ecal ecne okF ownd acco wal Ual R3 ao hwG hwC hwg hwx hfp' hU' hst3 hx'; lia)
    | succ k => rw [List.replicate_succ]; rfl
  have run : codeAny (model C.prog C.w) F.A (.compLoop (.ListComp elt gens scope pos) 0 (.ref Ia) (.ref acc) (cmEnv scope cl L F.env)) (RR (.ref acc) L) { s with heap := h3, toks := tk } := by
    refine cm_loop (F := cmFm F scope cl L s.heap (tg ++ cx)) okF (x := x) (px := px) (us := []) 0 hx' (so L s.heap) (hX L s.heap okF) (hL L s.heap) ao hu ic hst3 up hwG hdead hwC hwg hwx hfp' hU' ⟨R3, List.mem_append_right _ List.mem_cons_self, [], gacc, by simp [VRs]⟩
      List.mem_cons_self (fun g hg => List.mem_cons_of_mem _ (R.UG g hg)) hp fun rs h4 tk4 hP kp R4 => ?_
    obtain ⟨ws, hl4, hv4⟩ := R4.lst
    have kp' : ∀ b o, b ∉ C.G → s.heap.get? b = some o → h4.get? b = some o := fun b o hg e => by
      have e' := g'.keep b o hg e
      exact kp b o hg (fun q => by rw [ownd b q] at e'; cases e') (fun q => by rw [q, dacc] at e'; cases e') (fun q => by rw [hdead b q] at e; cases e) (up b o e')
    refine kk acc L rs h4 tk4 hP ⟨⟨kp', fun _ => R4.rep.tb⟩, ?_, ?_, R4.rep.ns, dead0 L dL, outG L dL, fun e => absurd (show acc = L from e) (by (clear ok R co hg ha hit hx so hX hL hW kk g' ic hpl hp hst hdead hal hfp hh2 hh3 hLe IC hae up2 up3 up gacc2 gacc gL dead' tb' outG dead0 dacc dL cab cdead cnd cis eca ecm ecal ecne okF ownd acco wal Ual R3 ao hwG hwC hwg hwx hfp' hU' hst3 ht0 hx' hu hP kp R4 hl4 hv4 kp' e; lia))⟩
    · refine VR.listV ?_
      simp only [VR]
      refine ⟨acc, ws, rfl, fun q => ?_, hl4, hv4.weaken fun b hb => ?_⟩
      · rcases List.mem_cons.mp q with e | q
        · exact absurd (show acc = L from e) (by omega)
        · exact Ual acc q dacc
      · rcases List.mem_cons.mp hb with e | hb
        · rw [e]; exact List.mem_append_left _ List.mem_cons_self
        · exact List.mem_append_right _ (List.mem_cons_of_mem _ hb)
    · intro a e
      injection e with e; subst e
      obtain ⟨m, hm⟩ := hl4
      exact ⟨outG _ dacc, dead0 _ dacc, _, _, hm⟩
  exact codeAny_compStart_X hg ha run (ic.self [] 0 _ _ _ (hst3 []) run)
end
end Mine
end
section
open PySem PySem.Calls PyProof.Rows PySem.W PySem.Spec
set_option Elab.async false
set_option maxRecDepth 10000
namespace Mine
noncomputable abbrev wComp (W1 : WXs) (nt : Nat) (js : List Nat) (W : WE) : WX := fun st P => W1 st fun vs => (∀ j ∈ js, (getV st j).plain) ∧ compL (fun k v K => W k ((List.replicate nt V.unb ++ js.map (getV st)).set 0 v) K) 0 vs fun us => P (listV us)
section
variable {C : Cx} {F : Fm} {n : Nat} {ad : Ad} {st : List V} {s : Shared}
theorem CmEnd.later {h h' h'' : Heap} {L acc : Addr} {us : List V} (x : CmEnd C F ad h h' L acc us) (hs : Heap.SameBut L h' h'') : Gr C h h'' ∧ VR (F.U ad) h'' (listV us) (.ref acc) ∧ New C h h'' (.ref acc) := by
  have kp : ∀ b o, b ≠ L → h'.get? b = some o → h''.get? b = some o := fun b o hb e => (hs.2 b hb).trans e
  refine ⟨⟨fun b o hg e => kp b o (fun q => by rw [q, x.dead] at e; cases e) (x.gr.keep b o hg e), fun t => ?_⟩, ?_, ?_⟩
  · refine C.but h' h'' [L] (x.gr.tb t) (fun a ha => ?_) (fun b o hb e => kp b o (by simpa using hb) e)
    rw [List.mem_singleton] at ha; subst ha
    refine ⟨x.out, fun o e vs ed => ?_⟩
    obtain ⟨m, o', es, ep, e', d, _⟩ := x.ns
    rw [e'] at e; injection e with e; subst e; rw [d] at ed; cases ed
  · exact VR.mono (fun b o hb e => kp b o (fun q => hb (q ▸ List.mem_cons_self)) e) (fun b hb => .inl (List.mem_cons_of_mem _ hb)) _ _ x.val
  · intro a e
    obtain ⟨h1, h2, c, d, h3⟩ := x.new a e
    injection e with e; subst e
    exact ⟨h1, h2, c, d, kp _ _ x.ne h3⟩
theorem EvF.comp (ok : FmOk C n F) {scope : Scope} {cl : List (Str × Addr)} {tg cx : List Str} {js : List Nat} (co : CmOk F scope cl tg cx js)
    {elt iter : Expr} {ifs : List Expr} {gs : List Comprehension} {pos : Pos} {x : Str} {px : Pos} {W1 : WXs} {W : WE} (hit : EvI2 C F iter W1)
    (hx : tg[0]? = some x) (so : ∀ L h₀, StoreOk (cmFm F scope cl L h₀ (tg ++ cx)) x) {X : Fm → EX} (hX : ∀ L h₀, FmOk C n (cmFm F scope cl L h₀ (tg ++ cx)) → EmT C (cmFm F scope cl L h₀ (tg ++ cx)) (X (cmFm F scope cl L h₀ (tg ++ cx))) W)
    (hL : ∀ L h₀, LoopOk C.prog C.w F.A (cmFm F scope cl L h₀ (tg ++ cx)).env (.ListComp elt (⟨.Name x px, iter, ifs, 0⟩ :: gs) scope pos) 0 x px (X (cmFm F scope cl L h₀ (tg ++ cx)))) :
    EvF C F (.ListComp elt (⟨.Name x px, iter, ifs, 0⟩ :: gs) scope pos) (wComp W1 tg.length js W) := by
  intro ad st s P Q E hW R k
  rw [eval_ListComp]
  refine wpAny_comprehension_free (use := Option.none) rfl hit.1 co.clos co.kind co.locs ?_
  refine comp_core ok R co (RR := fun acc L => compPost (model C.prog C.w) F.A E Option.none Q acc L) rfl rfl hit hx so hX hL hW fun acc L us h' tk hP ce => ?_
  obtain ⟨m, hm⟩ := ce.ns
  refine ⟨m, hm, fun h'' hs => ?_⟩
  obtain ⟨g, v, nw⟩ := ce.later hs
  exact k _ _ h'' tk hP g v nw
theorem ExS.assignComp (ok : FmOk C n F) {y : Str} {py spos : Pos} (i : Nat) (hi : F.names[i]? = some y) (soy : StoreOk F y) {scope : Scope} {cl : List (Str × Addr)} {tg cx : List Str} {js : List Nat} (co : CmOk F scope cl tg cx js)
    {elt iter : Expr} {ifs : List Expr} {gs : List Comprehension} {pos : Pos} {x : Str} {px : Pos} {W1 : WXs} {W : WE} (hit : EvI2 C F iter W1)
    (hx : tg[0]? = some x) (so : ∀ L h₀, StoreOk (cmFm F scope cl L h₀ (tg ++ cx)) x) {X : Fm → EX} (hX : ∀ L h₀, FmOk C n (cmFm F scope cl L h₀ (tg ++ cx)) → EmT C (cmFm F scope cl L h₀ (tg ++ cx)) (X (cmFm F scope cl L h₀ (tg ++ cx))) W)
    (hL : ∀ L h₀, LoopOk C.prog C.w F.A (cmFm F scope cl L h₀ (tg ++ cx)).env (.ListComp elt (⟨.Name x px, iter, ifs, 0⟩ :: gs) scope pos) 0 x px (X (cmFm F scope cl L h₀ (tg ++ cx))))
    (hsw : swapsWith (.ListComp elt (⟨.Name x px, iter, ifs, 0⟩ :: gs) scope pos) (some (.Name y py)) spos.line F.env = pure true) :
    ExS C F (.Assign [.Name y py] (.ListComp elt (⟨.Name x px, iter, ifs, 0⟩ :: gs) scope pos) spos) (fun st P => wComp W1 tg.length js W st fun v => P .nxt (st.set i v)) := by
  intro ad st s P Q E hW R k
  rw [exec_Assign_Name_used _ _ _ _ hsw]
  refine wpAny_bind (wpAny_standAt (wpAny_bind ?_))
  show wpAny _ F.A (do let _ ← comprehension (.ListComp elt (⟨.Name x px, iter, ifs, 0⟩ :: gs) scope pos) scope F.env _ (newList []) false (eval iter F.env) (some (PySem.assign (.Name y py) F.env))) _ _ s
  refine wpAny_bind (wpAny_mono (wpAny_comprehension_free (use := some (PySem.assign (.Name y py) F.env)) (Q := fun _ s' => Q .next s') rfl hit.1 co.clos co.kind co.locs ?_) (fun _ _ h => wpAny_pure (wpAny_pure h)) fun _ _ e => e)
  refine comp_core ok R co (RR := fun acc L => compPost (model C.prog C.w) F.A E (some (PySem.assign (.Name y py) F.env)) (fun _ s' => Q .next s') acc L) rfl rfl hit hx so hX hL hW fun acc L us h' tk hP ce => ?_
  have hLal : h'.get? L ≠ none := by obtain ⟨m, o, _, _, e, _⟩ := ce.ns; rw [e]; simp
  have R1 : Rep C F ⟨ad.m, [L] ++ ad.ux⟩ st { s with heap := h', toks := tk } := R.shield ok ce.gr (wr := [L]) fun b hb => by rw [List.mem_singleton] at hb; subst hb; exact ⟨ce.dead, hLal⟩
  have hU1 : ∀ b ∈ F.U ⟨ad.m, [L] ++ ad.ux⟩, b ∈ L :: F.U ad := fun b hb => by
    rcases List.mem_append.mp hb with hb | hb
    · exact List.mem_cons_of_mem _ (List.mem_append_left _ hb)
    · rcases List.mem_append.mp hb with hb | hb
      · rw [List.mem_singleton] at hb; rw [hb]; exact List.mem_cons_self
      · exact List.mem_cons_of_mem _ (List.mem_append_right _ hb)
  show wpAny _ F.A (PySem.assign (.Name y py) F.env (.ref acc)) _ _ _
  refine wpAny_assign_Name (R1.store ok hi soy (ce.val.weaken hU1) fun h2 tk2 R2 kp => ?_)
  have Lo : L ∉ F.own ⟨ad.m, [L] ++ ad.ux⟩ := fun q => R1.apart L q (List.mem_append_left _ List.mem_cons_self)
  obtain ⟨m, hm⟩ := ce.ns
  have hm2 : h2.Ns L m := hm.at fun o e => kp L o Lo e
  refine ⟨m, hm2, fun h3 hs => ?_⟩
  have Lg : L ≠ mainGlobals := fun e => by
    obtain ⟨mg, o, _, _, q, _⟩ := (R.wd ok).g
    have := ce.dead; rw [e, q] at this; cases this
  have hLx : ∀ b ∈ [L], b ∉ ad.ux := fun b hb q => by rw [List.mem_singleton] at hb; subst hb; exact R.ux _ q ce.dead
  have R3 : Rep C F ⟨(dropI ad i).m, ad.ux⟩ (st.set i (listV us)) { s with heap := h3, toks := tk2 } := by
    refine Rep.endUx (wr := [L]) (m := (dropI ad i).m) (ux := ad.ux) R2 ok R.gU hLx ?_ ?_ ?_ ?_ ?_ ?_
    · intro b hb; rw [List.mem_singleton] at hb; subst hb; exact ce.out
    · intro b hb o e vs ed; rw [List.mem_singleton] at hb; subst hb
      obtain ⟨o', es, ep, e', d, _⟩ := hm2
      have e : h2.get? _ = some o := e
      rw [e'] at e; injection e with e; subst e; rw [d] at ed; cases ed
    · intro b hb; rw [List.mem_singleton] at hb; subst hb
      cases z : F.h₀.get? _ with
      | none => rfl
      | some o => have := R.stays _ o ce.out z; rw [ce.dead] at this; cases this
    · intro b hb q; rw [List.mem_singleton] at hb; subst hb
      obtain ⟨v, o, e, _⟩ := R.ec _ q; rw [ce.dead] at e; cases e
    · intro b hb; rw [List.mem_singleton] at hb; subst hb; exact Lg
    · intro b o hb e; exact (hs.2 b (by simpa using hb)).trans e
  refine k .nxt _ _ h3 tk2 .next hP ?_ R3 rfl
  refine ⟨fun b o hg ho e => ?_, fun a ha => .inl (own_drop a ha), rfl⟩
  exact (hs.2 b (fun q => by rw [q, ce.dead] at e; cases e)).trans (kp b o ho (ce.gr.keep b o hg e))
end
end Mine
end
section
open PySem PySem.Calls PyProof.Rows PySem.W PySem.Spec
set_option Elab.async false
set_option maxRecDepth 10000
namespace Mine
section
variable {C : Cx} {F : Fm} {n : Nat} {ad : Ad} {st : List V} {s : Shared}
end
end Mine
end
section
open PySem PySem.Calls PyProof.Rows PySem.W PySem.Spec
set_option Elab.async false
set_option maxRecDepth 10000
namespace Mine
noncomputable abbrev wOne (W : WX) : WE := fun k st P => W st fun v => k < 2 ^ 24 ∧ P [v]
noncomputable abbrev wTst (Wc : WC) (W : WE) : WE := fun k st P => Wc st fun b => (b = true → W k st P) ∧ (b = false → P [])
noncomputable abbrev wNst (j : Nat) (W1 : WXs) (W : WE) : WE := fun k st P => st.set j .unb = st ∧ W1 st fun vs => compL (fun k v K => W k (st.set j v) K) k vs P
noncomputable abbrev sSwapM (i1 i2 i3 : Nat) (c1 c2 : Int) (W3 : WX) : WS := fun st P => W3 st fun v => thawV v fun u => P .nxt (((st.set i3 u).set i2 (.int c2)).set i1 (.int c1))
section
variable {C : Cx} {F : Fm} {n : Nat}
section
variable {scope : Scope} {cl : List (Str × Addr)} {tg cx : List Str} {js : List Nat} {elt iter : Expr} {pos : Pos} {x : Str} {px : Pos} {W1 : WXs}
theorem EvF.comp1 (ok : FmOk C n F) (co : CmOk F scope cl tg cx js) {W2 : WX} (hit : EvI C F iter W1) (hx : tg[0]? = some x) (so : ∀ L h₀, StoreOk (cmFm F scope cl L h₀ (tg ++ cx)) x)
    (he : ∀ L h₀, FmOk C n (cmFm F scope cl L h₀ (tg ++ cx)) → EvX C (cmFm F scope cl L h₀ (tg ++ cx)) elt W2) :
    EvF C F (.ListComp elt [⟨.Name x px, iter, [], 0⟩] scope pos) (wComp W1 tg.length js (wOne W2)) :=
  EvF.comp (X := fun F' => xEmit C.prog C.w F'.A elt F'.env) ok co hit.c hx so (fun L h₀ ok' => EmT.emit ok' (he L h₀ ok')) (fun _ _ => loop_one)
variable {z : Str} {pz spos : Pos}
end
theorem ExS.assignC (ok : FmOk C n F) {x : Str} {px pos : Pos} {e : Expr} {W : WX} (i : Nat) (hi : F.names[i]? = some x) (so : StoreOk F x) (h : EvX C F e W) (hsw : swapsWith e (some (.Name x px)) pos.line F.env = pure false) :
    ExS C F (.Assign [.Name x px] e pos) (sAssign i W) := by
  intro ad st s P Q E hW R k
  refine wpAny_Assign_Name (h ad st s _ _ _ hW R fun w v h₁ t₁ hp g₁ r₁ => ?_) hsw
  exact (R.grow ok g₁ (tk := t₁)).store ok hi so r₁ fun h' tk R' kp => k .nxt _ _ h' tk .next hp (Stp.trans (.of g₁) (.drop kp) fun a ha => R'.ownG ok ha) R' rfl
theorem compL_flat {body : Nat → V → (List V → Prop) → Prop} {f : V → List V} {B : Nat} : ∀ {vs : List V} {k : Nat} {P : List V → Prop}, k + (vs.flatMap f).length ≤ B →
    (∀ k v K, v ∈ vs → k + (f v).length ≤ B → K (f v) → body k v K) → P (vs.flatMap f) → compL body k vs P
  | [], k, P, _, _, hP => by simpa [compL] using hP
  | v :: vs, k, P, hk, h, hP => by
    rw [List.flatMap_cons] at hk hP
    rw [List.length_append] at hk
    simp only [compL]
    refine h k v _ List.mem_cons_self (by (clear h hP; lia)) ?_
    exact compL_flat (by (clear h hP; lia)) (fun k v K hv => h k v K (List.mem_cons_of_mem _ hv)) hP
theorem compL_ints {body : Nat → V → (List V → Prop) → Prop} {f : Int → List V} {B : Nat} {l : List Int} {k : Nat} {P : List V → Prop} (hk : k + (l.flatMap f).length ≤ B)
    (h : ∀ k i K, i ∈ l → k + (f i).length ≤ B → K (f i) → body k (.int i) K) (hP : P (l.flatMap f)) : compL body k (l.map V.int) P := by
  have e : ∀ l : List Int, (l.map V.int).flatMap (fun v => match v with | .int i => f i | _ => []) = l.flatMap f := fun l => by rw [List.flatMap_map]
  refine compL_flat (f := fun v => match v with | .int i => f i | _ => []) (B := B) (by rw [e]; exact hk) (fun k v K hv hb hK => ?_) (by rw [e]; exact hP)
  obtain ⟨i, hi, rfl⟩ := List.mem_map.mp hv
  exact h k i K hi hb hK
theorem flatMap_one {α β : Type} (l : List α) (g : α → β) : l.flatMap (fun i => [g i]) = l.map g := by
  induction l with
  | nil => rfl
  | cons a r ih => rw [List.flatMap_cons, ih]; rfl
theorem compL_int1 {body : Nat → V → (List V → Prop) → Prop} {g : Int → V} {B : Nat} {l : List Int} {k : Nat} {P : List V → Prop} (hk : k + l.length ≤ B)
    (h : ∀ k i K, i ∈ l → k < B → K [g i] → body k (.int i) K) (hP : P (l.map g)) : compL body k (l.map V.int) P :=
  compL_ints (f := fun i => [g i]) (by rw [flatMap_one, List.length_map]; exact hk) (fun k i K hi hb hK => h k i K hi (by simp at hb; (clear hk h hP hi hK; lia)) hK) (by rw [flatMap_one]; exact hP)
theorem allInts_map (l : List Int) : allInts (l.map V.int) = some l := by
  induction l with
  | nil => rfl
  | cons a r ih => simp [allInts, ih]
theorem listV_ints (l : List Int) : listV (l.map V.int) = .ints l := by simp only [listV, allInts_map]
theorem listV_map {α : Type} (l : List α) (f : α → Int) : listV (l.map fun a => V.int (f a)) = .ints (l.map f) := by rw [← listV_ints, List.map_map]; rfl
end
end Mine
end
section
open PySem PySem.Calls PyProof.Rows PySem.W PySem.Spec
set_option Elab.async false
set_option maxRecDepth 10000
namespace Mine
section
variable {C : Cx} {F : Fm} {n : Nat}
theorem EmT.test (ok : FmOk C n F) {c : Expr} {Wc : WC} {X : EX} {W : WE} (h : EvC C F c Wc) (hX : EmT C F X W) : EmT C F (xTest C.prog C.w F.A c F.env X) (fun k st P => Wc st fun b => (b = true → W k st P) ∧ (b = false → P [])) := by
  intro ux acc st us s P Q E ao R hW k
  refine h _ st s _ _ _ hW R.rep fun b h' tk hp g => ?_
  obtain ⟨ws, hl, hvs⟩ := R.lst
  have R1 : CmR C F ux acc st us { s with heap := h', toks := tk } := ⟨R.rep.grow ok g (tk := tk), R.mem, ws, hl.at fun o => g.keep acc o ao.g, hvs.gr R.rep.UG g⟩
  cases b with
  | true =>
    rw [if_pos rfl]
    exact hX ux acc st us _ P Q E ao R1 (hp.1 rfl) fun vs h2 tk2 hP kp R2 => k vs h2 tk2 hP (fun b o hg ho hb e => kp b o hg ho hb (g.keep b o hg e)) R2
  | false =>
    rw [if_neg (by decide)]
    exact k [] h' tk (hp.2 rfl) (fun b o hg _ _ e => g.keep b o hg e) (by rw [List.append_nil]; exact R1)
end
section
variable {prog : Program} {w : World} {A : Around} {env : Env}
theorem loop_test {elt iter c : Expr} {x : Str} {px : Pos} {scope : Scope} {pos : Pos} : LoopOk prog w A env (.ListComp elt [⟨.Name x px, iter, [c], 0⟩] scope pos) 0 x px (xTest prog w A c env (xEmit prog w A elt env)) := by
  intro I acc Inv R turn n s h
  refine codeAny_compLoop_tests Inv (fun n s hI => wpAny_mono (turn n s hI) (fun r s₁ h₁ => ?_) fun _ _ e => e) n h
  cases r with
  | none => exact h₁
  | some v => exact wpAny_mono h₁ (fun _ s₂ h₂ => wpAny_tests_one h₂) fun _ _ e => e
theorem compTurn_in (elt t0 i0 t1 i1 : Expr) (scope : Scope) (pos : Pos) (it acc : Value) (env : Env) :
    compTurn (.ListComp elt [⟨t0, i0, [], 0⟩, ⟨t1, i1, [], 0⟩] scope pos) 1 it acc env = (standAt i1.pos >>= fun _ => pyNext it >>= fun r => match r with
      | none => pure (.done .next)
      | some v => letOwnedTupleGo t1 it v >>= fun _ => assign t1 env v >>= fun _ =>
        (eval elt env >>= fun x => call (.builtin "list.append") [acc, x] >>= fun _ => pure ()) >>= fun _ =>
          again (.compLoop (.ListComp elt [⟨t0, i0, [], 0⟩, ⟨t1, i1, [], 0⟩] scope pos) 1 it acc env)) := by rfl
theorem compTurn_out (elt t0 i0 t1 i1 : Expr) (scope : Scope) (pos : Pos) (it acc : Value) (env : Env) :
    compTurn (.ListComp elt [⟨t0, i0, [], 0⟩, ⟨t1, i1, [], 0⟩] scope pos) 0 it acc env = (standAt i0.pos >>= fun _ => pyNext it >>= fun r => match r with
      | none => pure (.done .next)
      | some v => letOwnedTupleGo t0 it v >>= fun _ => assign t0 env v >>= fun _ =>
        (eval i1 env >>= fun x => standAt i1.pos >>= fun _ => foldedSetIterable i1 env x >>= fun x => holding [x] (pyIter x) >>= fun it' =>
          runOwn (.compStart (.ListComp elt [⟨t0, i0, [], 0⟩, ⟨t1, i1, [], 0⟩] scope pos) 1 it' acc env) env >>= fun _ =>
          again (.compLoop (.ListComp elt [⟨t0, i0, [], 0⟩, ⟨t1, i1, [], 0⟩] scope pos) 0 it acc env))) := by rfl
theorem loop_in {elt t0 i0 i1 : Expr} {x : Str} {px : Pos} {scope : Scope} {pos : Pos} : LoopOk prog w A env (.ListComp elt [⟨t0, i0, [], 0⟩, ⟨.Name x px, i1, [], 0⟩] scope pos) 1 x px (xEmit prog w A elt env) := by
  intro I acc Inv R turn n s h
  refine codeAny_loop rfl Inv (fun n s hI => ?_) n h
  show wpAny _ A ((compTurn (.ListComp elt [⟨t0, i0, [], 0⟩, ⟨.Name x px, i1, [], 0⟩] scope pos) 1 (.ref I) (.ref acc) env).onRaise (fun x => do noteFrame x env; theTreesLotGoes x)) _ _ s
  refine wpAny_noted ?_
  rw [compTurn_in]
  refine wpAny_bind (wpAny_standAt (wpAny_bind (wpAny_mono (turn n s hI) (fun r s₁ h₁ => ?_) fun _ _ h' => h')))
  cases r with
  | none => exact wpAny_pure h₁
  | some v =>
    refine wpAny_bind (wpAny_of_eq (a := ()) rfl ?_)
    exact wpAny_bind (wpAny_mono h₁ (fun _ s₂ h₂ => wpAny_bind (wpAny_bind (wpAny_mono h₂ (fun x s₃ h₃ => wpAny_bind (wpAny_mono h₃
      (fun _ s₄ h₄ => wpAny_pure (wpAny_pure ⟨rfl, h₄⟩)) fun _ _ h' => h')) fun _ _ h' => h'))) fun _ _ h' => h')
theorem loop_out {elt i0 t1 i1 : Expr} {x : Str} {px : Pos} {scope : Scope} {pos : Pos} (hs : ∀ x, foldedSetIterable i1 env x = pure x) : LoopOk prog w A env (.ListComp elt [⟨.Name x px, i0, [], 0⟩, ⟨t1, i1, [], 0⟩] scope pos) 0 x px (xNest prog w A (.ListComp elt [⟨.Name x px, i0, [], 0⟩, ⟨t1, i1, [], 0⟩] scope pos) 1 i1 env) := by
  intro I acc Inv R turn n s h
  refine codeAny_loop rfl Inv (fun n s hI => ?_) n h
  show wpAny _ A ((compTurn (.ListComp elt [⟨.Name x px, i0, [], 0⟩, ⟨t1, i1, [], 0⟩] scope pos) 0 (.ref I) (.ref acc) env).onRaise (fun x => do noteFrame x env; theTreesLotGoes x)) _ _ s
  refine wpAny_noted ?_
  rw [compTurn_out]
  refine wpAny_bind (wpAny_standAt (wpAny_bind (wpAny_mono (turn n s hI) (fun r s₁ h₁ => ?_) fun _ _ h' => h')))
  cases r with
  | none => exact wpAny_pure h₁
  | some v =>
    refine wpAny_bind (wpAny_of_eq (a := ()) rfl ?_)
    refine wpAny_bind (wpAny_mono h₁ (fun _ s₂ h₂ => wpAny_bind (wpAny_mono h₂ (fun x s₃ h₃ => ?_) fun _ _ h' => h')) fun _ _ h' => h')
    refine wpAny_bind (wpAny_standAt (wpAny_bind (wpAny_of_eq (hs x) (wpAny_bind (wpAny_holding (wpAny_mono h₃ (fun it s₄ h₄ => ?_) fun _ _ h' => h'))))))
    refine wpAny_bind (wpAny_runOwn (codeAny_mono h₄ fun r s' hr => ?_))
    cases r with
    | ok f => exact wpAny_pure ⟨rfl, hr⟩
    | error e => exact hr
end
section
variable {C : Cx} {F : Fm} {n : Nat}
theorem EmT.nest (ok : FmOk C n F) {elt iter : Expr} {gens : List Comprehension} {g : Comprehension} {d : Nat} {scope : Scope} {pos : Pos} {x : Str} {px : Pos} (j : Nat) (hj : F.names[j]? = some x) (so : StoreOk F x) {W1 : WXs} {X : EX} {W : WE} (hit : EvI2 C F iter W1) (hX : EmT C F X W)
    (hL : LoopOk C.prog C.w F.A F.env (.ListComp elt gens scope pos) d x px X) (hg : gens[d]? = some g) (ha : g.is_async = 0) :
    EmT C F (xNest C.prog C.w F.A (.ListComp elt gens scope pos) d iter F.env) (fun k st P => st.set j .unb = st ∧ W1 st fun vs => compL (fun k v K => W k (st.set j v) K) k vs P) := by
  intro ux acc st us s P Q E ao R ⟨hu, hW⟩ kk
  refine hit.2 ⟨[], ux⟩ st s _ _ _ hW R.rep fun Ia vs fp wr St h' tk hp g ic => ?_
  have hst := ic.st
  have hdead := ic.dead
  have hal := ic.hal
  have hfp := ic.hfp
  have hwG : ∀ b ∈ wr, b ∉ C.G := fun b hb q => C.alive _ R.rep.tb b q (hdead b hb)
  have hwF : ∀ b ∈ wr, F.h₀.get? b = none := fun b hb => by
    cases z : F.h₀.get? b with
    | none => rfl
    | some o => have := R.rep.stays b o (hwG b hb) z; rw [hdead b hb] at this; cases this
  have hwC : ∀ b ∈ wr, b ∉ F.env.cells.map (·.2) := fun b hb q => by obtain ⟨v, o, e, _⟩ := R.rep.ec b q; rw [hdead b hb] at e; cases e
  have hwg : ∀ b ∈ wr, b ≠ mainGlobals := fun b hb e => by
    obtain ⟨mg, o, _, _, q, _⟩ := ok.wd.g
    have := hwF b hb; rw [e, q] at this; cases this
  have hwx : ∀ b ∈ wr, b ∉ ux := fun b hb q => R.rep.ux b q (hdead b hb)
  obtain ⟨ws, hl, hvs⟩ := R.lst
  have al' : ∀ b ∈ wr, h'.get? b ≠ none := fun b hb => by obtain ⟨o, e, _⟩ := hal [] 0 h' (hst []) b hb; rw [e]; simp
  have hU : ∀ b ∈ F.U ⟨[], wr ++ ux⟩, b ∈ F.U ⟨[], ux⟩ ∨ s.heap.get? b = none := by
    intro b hb
    rcases List.mem_append.mp hb with hb | hb
    · exact .inl (List.mem_append_left _ hb)
    · rcases List.mem_append.mp hb with hb | hb
      · exact .inr (hdead b hb)
      · exact .inl (List.mem_append_right _ hb)
  have R0 : CmR C F (wr ++ ux) acc st us { s with heap := h', toks := tk } := ⟨R.rep.shield ok g fun b hb => ⟨hdead b hb, al' b hb⟩, List.mem_append_right _ R.mem, ws, hl.at fun o => g.keep acc o ao.g,
    VRs.mono (fun b o hb e => g.keep b o (fun q => hb (R.rep.UG b q)) e) hU _ _ hvs⟩
  have hfp' : ∀ b ∈ fp, b ∉ C.G ∧ b ∉ F.own ⟨[], []⟩ ∧ b ≠ acc := by
    intro b hb
    rcases hfp b hb with q | ⟨q1, q2⟩
    · exact ⟨hwG b q, fun z => R0.rep.apart b z (List.mem_append_left _ q), fun z => hwx b q (z ▸ R.mem)⟩
    · exact ⟨fun z => q1 (R.rep.UG b z), fun z => q1 (own_U z), fun z => q1 (z ▸ List.mem_append_right _ R.mem)⟩
  have hU' : ∀ b ∈ F.U ⟨[], wr ++ ux⟩, b ∈ wr ++ F.U ⟨[], ux⟩ ∨ h'.get? b = none := by
    intro b hb
    rcases List.mem_append.mp hb with hb | hb
    · exact .inl (List.mem_append_right _ (List.mem_append_left _ hb))
    · rcases List.mem_append.mp hb with hb | hb
      · exact .inl (List.mem_append_left _ hb)
      · exact .inl (List.mem_append_right _ (List.mem_append_right _ hb))
  have run : codeAny (model C.prog C.w) F.A (.compLoop (.ListComp elt gens scope pos) d (.ref Ia) (.ref acc) F.env) (fun r s' => match r with | .ok _ => Q s' | .error x => cameBackBy (model C.prog C.w) F.A F.env E x s') { s with heap := h', toks := tk } := by
    refine cm_loop ok j hj so hX hL ao hu ic hst (fun _ _ e => e) hwG hwF hwC hwg hwx hfp' hU' R0 R.mem (fun g hg => R.rep.gU g hg) hp fun rs h'' tk'' hP kp R2 => ?_
    refine kk rs h'' tk'' hP (fun b o hg ho hb e => kp b o hg ho hb (fun q => by rw [hdead b q] at e; cases e) (g.keep b o hg e)) R2
  exact codeAny_compStart_X hg ha run (ic.self [] 0 _ _ _ (hst []) run)
section
variable {scope : Scope} {cl : List (Str × Addr)} {tg cx : List Str} {js : List Nat} {elt iter : Expr} {pos : Pos} {x : Str} {px : Pos} {W1 : WXs}
theorem EvF.compT (ok : FmOk C n F) (co : CmOk F scope cl tg cx js) {c : Expr} {Wc : WC} {W2 : WX} (hit : EvI C F iter W1) (hx : tg[0]? = some x) (so : ∀ L h₀, StoreOk (cmFm F scope cl L h₀ (tg ++ cx)) x)
    (hc : ∀ L h₀, FmOk C n (cmFm F scope cl L h₀ (tg ++ cx)) → EvC C (cmFm F scope cl L h₀ (tg ++ cx)) c Wc)
    (he : ∀ L h₀, FmOk C n (cmFm F scope cl L h₀ (tg ++ cx)) → EvX C (cmFm F scope cl L h₀ (tg ++ cx)) elt W2) :
    EvF C F (.ListComp elt [⟨.Name x px, iter, [c], 0⟩] scope pos) (wComp W1 tg.length js (wTst Wc (wOne W2))) :=
  EvF.comp (X := fun F' => xTest C.prog C.w F'.A c F'.env (xEmit C.prog C.w F'.A elt F'.env)) ok co hit.c hx so (fun L h₀ ok' => EmT.test ok' (hc L h₀ ok') (EmT.emit ok' (he L h₀ ok'))) (fun _ _ => loop_test)
theorem EvF.comp2 (ok : FmOk C n F) (co : CmOk F scope cl tg cx js) {i1 : Expr} {y : Str} {py : Pos} {W1' : WXs} {W2 : WX} (hit : EvI2 C F iter W1) (hx : tg[0]? = some x) (so : ∀ L h₀, StoreOk (cmFm F scope cl L h₀ (tg ++ cx)) x)
    (hy : (tg ++ cx)[1]? = some y) (soy : ∀ L h₀, StoreOk (cmFm F scope cl L h₀ (tg ++ cx)) y)
    (hi : ∀ L h₀, FmOk C n (cmFm F scope cl L h₀ (tg ++ cx)) → EvI C (cmFm F scope cl L h₀ (tg ++ cx)) i1 W1') (hs : ∀ env x, foldedSetIterable i1 env x = pure x)
    (he : ∀ L h₀, FmOk C n (cmFm F scope cl L h₀ (tg ++ cx)) → EvX C (cmFm F scope cl L h₀ (tg ++ cx)) elt W2) :
    EvF C F (.ListComp elt [⟨.Name x px, iter, [], 0⟩, ⟨.Name y py, i1, [], 0⟩] scope pos) (wComp W1 tg.length js (wNst 1 W1' (wOne W2))) :=
  EvF.comp (X := fun F' => xNest C.prog C.w F'.A (.ListComp elt [⟨.Name x px, iter, [], 0⟩, ⟨.Name y py, i1, [], 0⟩] scope pos) 1 i1 F'.env) ok co hit hx so
    (fun L h₀ ok' => EmT.nest ok' 1 hy (soy L h₀) (hi L h₀ ok').c (EmT.emit ok' (he L h₀ ok')) loop_in rfl rfl) (fun _ _ => loop_out (hs _))
variable {z : Str} {pz spos : Pos}
theorem ExS.assignComp2 (ok : FmOk C n F) (i : Nat) (hi : F.names[i]? = some z) (soz : StoreOk F z) (co : CmOk F scope cl tg cx js) {i1 : Expr} {y : Str} {py : Pos} {W1' : WXs} {W2 : WX} (hit : EvI2 C F iter W1) (hx : tg[0]? = some x) (so : ∀ L h₀, StoreOk (cmFm F scope cl L h₀ (tg ++ cx)) x)
    (hy : (tg ++ cx)[1]? = some y) (soy : ∀ L h₀, StoreOk (cmFm F scope cl L h₀ (tg ++ cx)) y)
    (hi2 : ∀ L h₀, FmOk C n (cmFm F scope cl L h₀ (tg ++ cx)) → EvI C (cmFm F scope cl L h₀ (tg ++ cx)) i1 W1') (hs : ∀ env x, foldedSetIterable i1 env x = pure x)
    (he : ∀ L h₀, FmOk C n (cmFm F scope cl L h₀ (tg ++ cx)) → EvX C (cmFm F scope cl L h₀ (tg ++ cx)) elt W2)
    (hsw : swapsWith (.ListComp elt [⟨.Name x px, iter, [], 0⟩, ⟨.Name y py, i1, [], 0⟩] scope pos) (some (.Name z pz)) spos.line F.env = pure true) :
    ExS C F (.Assign [.Name z pz] (.ListComp elt [⟨.Name x px, iter, [], 0⟩, ⟨.Name y py, i1, [], 0⟩] scope pos) spos) (sAssign i (wComp W1 tg.length js (wNst 1 W1' (wOne W2)))) :=
  ExS.assignComp (X := fun F' => xNest C.prog C.w F'.A (.ListComp elt [⟨.Name x px, iter, [], 0⟩, ⟨.Name y py, i1, [], 0⟩] scope pos) 1 i1 F'.env) ok i hi soz co hit hx so
    (fun L h₀ ok' => EmT.nest ok' 1 hy (soy L h₀) (hi2 L h₀ ok').c (EmT.emit ok' (he L h₀ ok')) loop_in rfl rfl) (fun _ _ => loop_out (hs _)) hsw
end
end
end Mine
end
section
open PySem PySem.Calls PyProof.Rows PySem.W PySem.Spec
set_option Elab.async false
set_option maxRecDepth 10000
namespace Mine
noncomputable def zipO (f0 f1 : Value) (TI TO : Addr) : Obj := { cls := .type "zip", dict := none, data := .fields #[f0, f1, .bool false, .ref TI, .ref TO], slots := #[] }
section
variable {prog : Program} {w : World} {A : Around} {E : Value → Shared → Prop} {s : Shared}
theorem wp_alive {M : Model} {a : Addr} {o : Obj} {Q : Option Obj → Shared → Prop} (ho : s.heap.get? a = some o) (h : Q (some o) s) : wpAny M A (loadIfAlive a) Q E s := fun Γ p _ => by
  unfold loadIfAlive; rw [Sem.wp_loadIfAlive, ho]; exact h
theorem zip_busy {z TI TO T : Addr} {oT : Obj} {f1 : Value} {Q : Bool → Shared → Prop} (hz : s.heap.get? z = some (zipO (rawInt T) f1 TI TO)) (hT : s.heap.get? T = some oT)
    (h : ∀ h' f1', h'.get? z = some (zipO (rawInt T) f1' TI TO) → Heap.SameBut z s.heap h' → Q false { s with heap := h' }) :
    wpAny (model prog w) A (Builtin.SmallTypes.ownedTupleIsFree (.ref z)) Q E s := by
  unfold Builtin.SmallTypes.ownedTupleIsFree
  refine wpAny_bind (wpAny_field hz rfl (x := rawInt T) rfl ?_)
  show wpAny _ _ (loadIfAlive ((T : Int).toNat) >>= _) _ _ _
  refine wpAny_bind (wp_alive (a := ((T : Int).toNat)) (by rw [Int.toNat_natCast]; exact hT) ?_)
  show wpAny _ _ (field (.ref z) 1 >>= _) _ _ _
  refine wpAny_bind (wpAny_field hz rfl (x := f1) rfl ?_)
  by_cases hf : (f1 != .bool true) = true
  · rw [if_pos hf]
    refine wpAny_bind (wpAny_setField_rec hz (by simp) fun h₁ hz₁ hs₁ => ?_)
    exact wpAny_pure (h h₁ (.bool true) hz₁ hs₁)
  · rw [if_neg hf]
    exact wpAny_pure (h s.heap f1 hz (.refl ..))
theorem zip_held {z TI TO i1 i2 : Addr} {T : Addr} {oT : Obj} {f1 : Value} {Q : Fin → Shared → Prop} {E : Value → Shared → Prop} (hz : s.heap.get? z = some (zipO (rawInt T) f1 TI TO)) (hT : s.heap.get? T = some oT) (hTI : IsPair s.heap TI (.ref i1) (.ref i2))
    (h : ∀ h' f1', h'.get? z = some (zipO (rawInt T) f1' TI TO) → Heap.SameBut z s.heap h' →
      wpAny (model prog w) A (Builtin.SmallTypes.nextOf (.ref i1)) (fun x s₁ => wpAny (model prog w) A (Builtin.SmallTypes.nextOf (.ref i2)) (fun y s₂ => wpAny (model prog w) A (newTuple [x, y]) (fun t s₃ => Q (.done (.ret t)) s₃) E s₂) E s₁) E { s with heap := h' }) :
    wpAny (model prog w) A (Builtin.«zip.__next__» ⟨[.ref z], []⟩) Q E s := by
  show wpAny _ _ (field (.ref z) 2 >>= _) _ _ _
  refine wpAny_bind (wpAny_field hz rfl (x := .bool false) rfl ?_)
  show wpAny _ _ (field (.ref z) 3 >>= _) _ _ _
  refine wpAny_bind (wpAny_field hz rfl (x := .ref TI) rfl ?_)
  refine wpAny_bind (wpAny_seqItems hTI rfl ?_)
  show wpAny _ _ (Builtin.SmallTypes.ownedTupleIsFree (.ref z) >>= _) _ _ _
  refine wpAny_bind (zip_busy hz hT fun h' f1' h1 h2 => ?_)
  simp only [Bool.false_eq_true, if_false]
  refine wpAny_bind ?_
  rw [← Array.forIn_toList]
  simp only [List.forIn_cons, List.forIn_nil]
  refine wpAny_bind (wpAny_bind (wpAny_holding ?_))
  show wpAny _ _ (Builtin.SmallTypes.nextOf (.ref i1) >>= _) _ _ _
  refine wpAny_bind (wpAny_mono (h h' f1' h1 h2) (fun x s₁ hx => wpAny_pure ?_) fun _ _ e => e)
  refine wpAny_pure ?_
  refine wpAny_bind (wpAny_bind (wpAny_holding ?_))
  show wpAny _ _ (Builtin.SmallTypes.nextOf (.ref i2) >>= _) _ _ _
  refine wpAny_bind (wpAny_mono hx (fun y s₂ hy => wpAny_pure ?_) fun _ _ e => e)
  refine wpAny_pure (wpAny_pure ?_)
  exact wpAny_bind (wpAny_mono hy (fun t s₃ ht => wpAny_pure ht) fun _ _ e => e)
theorem pyNext_zip_held {z TI TO i1 i2 l1 l2 T : Addr} {k : Nat} {xs ys : Array Value} {x y : Value} {oT : Obj} {f1 : Value} {Q : Option Value → Shared → Prop} (D : ZipApart z TI TO i1 i2 l1 l2)
    (hz : s.heap.get? z = some (zipO (rawInt T) f1 TI TO)) (hT : s.heap.get? T = some oT) (hTI : IsPair s.heap TI (.ref i1) (.ref i2))
    (h1 : s.heap.IsListIter i1 l1 k) (h2 : s.heap.IsListIter i2 l2 k) (hl1 : s.heap.IsList l1 xs) (hl2 : s.heap.IsList l2 ys) (hx : xs[k]? = some x) (hy : ys[k]? = some y)
    (hQ : ∀ h' f1', h'.get? z = some (zipO (rawInt T) f1' TI TO) → h'.IsListIter i1 l1 (k + 1) → h'.IsListIter i2 l2 (k + 1) → IsPair h' s.heap.objs.size x y →
      (∀ c o, c ≠ z → c ≠ i1 → c ≠ i2 → s.heap.get? c = some o → h'.get? c = some o) → Q (some (.ref s.heap.objs.size)) { s with heap := h' }) :
    wpAny (model prog w) A (pyNext (.ref z)) Q E s := by
  have hZ : s.TypeIs (.ref z) "zip" := ⟨_, hz, rfl⟩
  unfold pyNext
  refine wpAny_bind (wpAny_attempt (wpAny_callSpecial?_slot (name := Str.ofString "__next__") hZ F.slot_zip_next
    (wpAny_call_entry F.slot_zip_next hZ F.entry_zip_next (zip_held hz hT hTI fun h₁ f1' hz₁ hs₁ => ?_) (F.args_zip_next_1 _))))
  refine wpAny_nextOf_list_item (h1.extBut hs₁.extBut D.i1z) (hl1.extBut hs₁.extBut D.l1z) hx fun h₂ h1₂ hs₂ => ?_
  refine wpAny_nextOf_list_item (((h2.extBut hs₁.extBut D.i2z).extBut hs₂.extBut D.i12.symm)) ((hl2.extBut hs₁.extBut D.l2z).extBut hs₂.extBut D.l2i1) hy fun h₃ h2₃ hs₃ => ?_
  refine wpAny_newTuple ⟨_, rfl, wpAny_pure ?_⟩
  have hsz : h₃.objs.size = s.heap.objs.size := by rw [hs₃.1, hs₂.1, hs₁.1]
  show Q (some (.ref h₃.objs.size)) { s with heap := h₃.push _ }
  rw [hsz]
  have up : ∀ c o, h₃.get? c = some o → (h₃.push { cls := .type "tuple", data := .seq [x, y].toArray }).get? c = some o := fun c o e => Heap.get?_push_of_some _ e
  refine hQ _ f1' (up _ _ (hs₃.extBut _ _ D.i2z.symm (hs₂.extBut _ _ D.i1z.symm hz₁))) ((h1₂.extBut hs₃.extBut D.i12).at fun o => up _ o) (h2₃.at fun o => up _ o) ?_ fun c o c1 c2 c3 e => up _ _ (hs₃.extBut _ _ c3 (hs₂.extBut _ _ c2 (hs₁.extBut _ _ c1 e)))
  rw [← hsz]; exact Heap.get?_push_size _ rfl
theorem pyNext_zip_held_end {z TI TO i1 i2 l1 l2 T : Addr} {k : Nat} {xs : Array Value} {oT : Obj} {f1 : Value} {Q : Option Value → Shared → Prop} (hh : A.handled = none) (D : ZipApart z TI TO i1 i2 l1 l2)
    (hz : s.heap.get? z = some (zipO (rawInt T) f1 TI TO)) (hT : s.heap.get? T = some oT) (hTI : IsPair s.heap TI (.ref i1) (.ref i2))
    (h1 : s.heap.IsListIter i1 l1 k) (hl1 : s.heap.IsList l1 xs) (hx : xs[k]? = none)
    (hQ : ∀ h', (∀ c o, c ≠ z → c ≠ i1 → s.heap.get? c = some o → h'.get? c = some o) → Q none { s with heap := h' }) :
    wpAny (model prog w) A (pyNext (.ref z)) Q E s := by
  have hZ : s.TypeIs (.ref z) "zip" := ⟨_, hz, rfl⟩
  unfold pyNext
  refine wpAny_bind (wpAny_attempt (wpAny_callSpecial?_slot (name := Str.ofString "__next__") hZ F.slot_zip_next
    (wpAny_call_entry F.slot_zip_next hZ F.entry_zip_next (zip_held hz hT hTI fun h₁ f1' hz₁ hs₁ => ?_) (F.args_zip_next_1 _))))
  refine wpAny_nextOf_list_end hh (h1.extBut hs₁.extBut D.i1z) (hl1.extBut hs₁.extBut D.l1z) hx fun h₂ e hs₂ he => ?_
  obtain ⟨o, ho, hc⟩ := he
  refine wpAny_bind (wpAny_isInstance (T := "StopIteration") (b := true) ⟨o, ho, hc⟩ isSubtype_stop ?_)
  exact wpAny_pure (hQ _ fun c o c1 c2 e => hs₂ _ _ c2 (hs₁.extBut _ _ c1 e))
theorem pyIter_zipO {z TI TO : Addr} {f0 f1 : Value} {Q : Value → Shared → Prop} (hz : s.heap.get? z = some (zipO f0 f1 TI TO)) (h : Q (.ref z) s) : wpAny (model prog w) A (pyIter (.ref z)) Q E s := by
  have hT : s.TypeIs (.ref z) "zip" := ⟨_, hz, rfl⟩
  refine wpAny_pyIter_slot hT F.slot_zip_iter (wpAny_call_entry F.slot_zip_iter hT F.entry_zip_iter ?_ (F.args_zip_iter_1 _))
  show wpAny _ _ (ret (.ref z)) _ _ s
  exact wpAny_pure ⟨_, rfl, "zip", _, hT, F.slot_zip_next.lookup, h⟩
structure ZipSt (z TI TO i1 i2 l1 l2 : Addr) (xs ys : Array Value) (U' : List Addr) (i : Nat) (h : Heap) : Prop where
  z : h.get? z = some (zipO .none (.bool false) TI TO) ∨ ∃ (T : Addr) (oT : Obj) (f1 : Value), h.get? z = some (zipO (rawInt T) f1 TI TO) ∧ T ∉ U' ∧ h.get? T = some oT
  TI : IsPair h TI (.ref i1) (.ref i2)
  TO : ∃ a b, IsPair h TO a b
  i1 : h.IsListIter i1 l1 i
  i2 : h.IsListIter i2 l2 i
  l1 : h.IsList l1 xs
  l2 : h.IsList l2 ys
end
end Mine
end
section
open PySem PySem.Calls PyProof.Rows PySem.W PySem.Spec
set_option Elab.async false
set_option maxRecDepth 10000
namespace Mine
section
variable {C : Cx} {F : Fm} {n : Nat}
noncomputable def pairsV : List Int → List Int → List V
  | a :: as, b :: bs => .tup [.int a, .int b] :: pairsV as bs
  | _, _ => []
theorem pairsV_get : ∀ {l m : List Int} {j : Nat} {a b : Int}, l[j]? = some a → m[j]? = some b → (pairsV l m)[j]? = some (.tup [.int a, .int b])
  | [], _, _, _, _, h, _ => by simp at h
  | _ :: _, [], _, _, _, _, h => by simp at h
  | x :: l, y :: m, 0, a, b, h1, h2 => by simp at h1 h2; subst h1 h2; rfl
  | x :: l, y :: m, j + 1, a, b, h1, h2 => by
    simp only [List.getElem?_cons_succ] at h1 h2
    simpa [pairsV] using pairsV_get (l := l) (m := m) (j := j) h1 h2
theorem pairsV_length : ∀ {l m : List Int}, l.length = m.length → (pairsV l m).length = l.length
  | [], m, _ => rfl
  | x :: l, [], h => by simp at h
  | x :: l, y :: m, h => by simp at h; simp [pairsV, pairsV_length h]
theorem itr_zip {A : Around} {U : List Addr} {h h' : Heap} {l1 l2 : Addr} {ws us : List Value} {l m : List Int} (hA : A.handled = none) (h1 : l1 ∉ U) (h2 : l2 ∉ U) (hp1 : h.PlainList l1 ws.toArray) (hp2 : h.PlainList l2 us.toArray) (hi1 : IntsAre ws l) (hi2 : IntsAre us m) (hlen : l.length = m.length)
    (hz : IsZip h' (h.objs.size + 4) (h.objs.size + 2) (h.objs.size + 3) .none) (hTI : IsPair h' (h.objs.size + 2) (.ref h.objs.size) (.ref (h.objs.size + 1)))
    (hTO : IsPair h' (h.objs.size + 3) .none .none) (k1 : h'.IsListIter h.objs.size l1 0) (k2 : h'.IsListIter (h.objs.size + 1) l2 0) (up : ∀ c o, h.get? c = some o → h'.get? c = some o) :
    ItrC C A U h h' (h.objs.size + 4) (pairsV l m) [h.objs.size + 4, h.objs.size + 2, h.objs.size + 3, h.objs.size, h.objs.size + 1, l1, l2] [h.objs.size + 4, h.objs.size + 2, h.objs.size + 3, h.objs.size, h.objs.size + 1]
      (ZipSt (h.objs.size + 4) (h.objs.size + 2) (h.objs.size + 3) h.objs.size (h.objs.size + 1) l1 l2 ws.toArray us.toArray) := by
  have a1 : l1 < h.objs.size := by obtain ⟨_, e⟩ := hp1; exact Heap.lt_size e
  have a2 : l2 < h.objs.size := by obtain ⟨_, e⟩ := hp2; exact Heap.lt_size e
  have D := zipApart_new a1 a2
  have dead : ∀ b, h.objs.size ≤ b → h.get? b = none := fun b hb => by
    cases q : h.get? b with
    | none => rfl
    | some o => exact absurd (Heap.lt_size q) (Nat.not_lt.mpr hb)
  have hd : ∀ b ∈ [h.objs.size + 4, h.objs.size + 2, h.objs.size + 3, h.objs.size, h.objs.size + 1], h.get? b = none := fa_c (dead _ (by (clear hA h1 h2 hp1 hp2 hi1 hi2 hlen hz hTI hTO k1 k2 up a1 a2 D dead; lia))) (fa_c (dead _ (by (clear hA h1 h2 hp1 hp2 hi1 hi2 hlen hz hTI hTO k1 k2 up a1 a2 D dead; lia))) (fa_c (dead _ (by (clear hA h1 h2 hp1 hp2 hi1 hi2 hlen hz hTI hTO k1 k2 up a1 a2 D dead; lia))) (fa_c (dead _ (by (clear hA h1 h2 hp1 hp2 hi1 hi2 hlen hz hTI hTO k1 k2 up a1 a2 D dead; lia))) (fa_c (dead _ (by (clear hA h1 h2 hp1 hp2 hi1 hi2 hlen hz hTI hTO k1 k2 up a1 a2 D dead; lia))) fa_n))))
  have hwu : ws.length = us.length := by rw [hi1.length, hi2.length, hlen]
  generalize h.objs.size + 4 = z at *
  generalize h.objs.size + 2 = TI at *
  generalize h.objs.size + 3 = TO at *
  generalize h.objs.size + 1 = i2 at *
  generalize h.objs.size = i1 at *
  have p1 := hp1.isList.at (h' := h') fun o => up _ o
  have p2 := hp2.isList.at (h' := h') fun o => up _ o
  refine ⟨fun U' => ⟨.inl hz, hTI, ⟨_, _, hTO⟩, k1, k2, p1, p2⟩, hd, ?_, ?_, ?_, ?_, ?_, ?_⟩
  · intro U' j h₁ S
    refine fa_c ?_ (fa_c ?_ (fa_c ?_ (fa_c ?_ (fa_c ?_ fa_n))))
    · rcases S.z with e | ⟨T, oT, f1, e, _⟩
      · exact ⟨_, e, fun _ _ => by show Value.type "zip" ≠ Value.type "code"; decide⟩
      · exact ⟨_, e, fun _ _ => by show Value.type "zip" ≠ Value.type "code"; decide⟩
    · exact ⟨_, S.TI, fun _ _ => by show Value.type "tuple" ≠ Value.type "code"; decide⟩
    · obtain ⟨a, b, e⟩ := S.TO; exact ⟨_, e, fun _ _ => by show Value.type "tuple" ≠ Value.type "code"; decide⟩
    · obtain ⟨o, e, c, d⟩ := S.i1; exact ⟨o, e, fun _ _ => by rw [c]; decide⟩
    · obtain ⟨o, e, c, d⟩ := S.i2; exact ⟨o, e, fun _ _ => by rw [c]; decide⟩
  · refine fa_c (.inl mm0) (fa_c (.inl mm1) (fa_c (.inl mm2) (fa_c (.inl mm3) (fa_c (.inl mm4) (fa_c ?_ (fa_c ?_ fa_n))))))
    · exact .inr ⟨h1, by obtain ⟨o, e, _⟩ := p1; rw [e]; simp⟩
    · exact .inr ⟨h2, by obtain ⟨o, e, _⟩ := p2; rw [e]; simp⟩
  · intro U' i h₁ h₂ S k
    refine ⟨?_, k _ _ (.inl (by first | exact mm0 | exact mm1 | exact mm2 | exact mm3 | exact mm4 | exact mm5 | exact mm6)) S.TI, ?_, S.i1.at fun o => k _ o (.inl (by first | exact mm0 | exact mm1 | exact mm2 | exact mm3 | exact mm4 | exact mm5 | exact mm6)), S.i2.at fun o => k _ o (.inl (by first | exact mm0 | exact mm1 | exact mm2 | exact mm3 | exact mm4 | exact mm5 | exact mm6)), S.l1.at fun o => k _ o (.inl (by first | exact mm0 | exact mm1 | exact mm2 | exact mm3 | exact mm4 | exact mm5 | exact mm6)), S.l2.at fun o => k _ o (.inl (by first | exact mm0 | exact mm1 | exact mm2 | exact mm3 | exact mm4 | exact mm5 | exact mm6))⟩
    · rcases S.z with e | ⟨T, oT, f1, e, t1, t2⟩
      · exact .inl (k _ _ (.inl (by first | exact mm0 | exact mm1 | exact mm2 | exact mm3 | exact mm4 | exact mm5 | exact mm6)) e)
      · exact .inr ⟨T, oT, f1, k _ _ (.inl (by first | exact mm0 | exact mm1 | exact mm2 | exact mm3 | exact mm4 | exact mm5 | exact mm6)) e, t1, k _ _ (.inr t1) t2⟩
    · obtain ⟨a, b, e⟩ := S.TO; exact ⟨a, b, k _ _ (.inl (by first | exact mm0 | exact mm1 | exact mm2 | exact mm3 | exact mm4 | exact mm5 | exact mm6)) e⟩
  · intro U' j s Q E hU' al hw hj S kp kk
    have hj1 : j < l.length := by rw [← pairsV_length hlen]; exact hj
    obtain ⟨t1, ht1⟩ := ints_at hi1 (i := j) hj1
    obtain ⟨t2, ht2⟩ := ints_at hi2 (i := j) (by (clear hA h1 h2 hp1 hp2 hi1 hi2 up hwu hTO hz k2 k1 a1 a2 dead hTI D hd p1 p2 hU' al hw hj S kp kk ht1; lia))
    have hv := pairsV_get (l := l) (m := m) (j := j) (a := l.getD j 0) (b := m.getD j 0) (by rw [List.getD_eq_getElem?_getD]; simp [hj1]) (by rw [List.getD_eq_getElem?_getD]; simp [show j < m.length by omega])
    have hx : ws.toArray[j]? = some (Value.int (l.getD j 0) t1) := by simpa using ht1
    have hy : us.toArray[j]? = some (Value.int (m.getD j 0) t2) := by simpa using ht2
    have hs : s.heap.objs.size ∉ U' := size_notin al
    have lt : ∀ {c o}, s.heap.get? c = some o → s.heap.objs.size ≠ c := fun e => Nat.ne_of_gt (Heap.lt_size e)
    have val : ∀ h₁ : Heap, IsPair h₁ s.heap.objs.size (Value.int (l.getD j 0) t1) (Value.int (m.getD j 0) t2) → VR U' h₁ (.tup [.int (l.getD j 0), .int (m.getD j 0)]) (.ref s.heap.objs.size) := fun h₁ e => by
      simp only [VR, VRs]
      exact ⟨_, [_, _], rfl, hs, ⟨0, e⟩, _, _, rfl, ⟨_, rfl⟩, _, _, rfl, ⟨_, rfl⟩, rfl⟩
    obtain ⟨a, b, eTO⟩ := S.TO
    rcases S.z with e | ⟨T, oT, f1, e, q1, q2⟩
    · refine wpAny_pyNext_zip_item D e S.TI eTO S.i1 S.i2 S.l1 S.l2 hx hy fun h₁ b1 b2 b3 b4 b5 b6 hk => ?_
      refine kk _ _ h₁ s.toks hv (val h₁ b5) ⟨.inr ⟨_, _, _, b1, hs, b5⟩, hk _ _ D.TIz D.TITO D.TIi1 D.TIi2 S.TI, ⟨_, _, b2⟩, b3, b4, S.l1.at fun o e => hk _ o D.l1z D.l1TO D.l1i1 D.l1i2 e, S.l2.at fun o e => hk _ o D.l2z D.l2TO D.l2i1 D.l2i2 e⟩
        fun c o hc e => hk c o (ne_in hc (by first | exact mm0 | exact mm1 | exact mm2 | exact mm3 | exact mm4 | exact mm5 | exact mm6)) (ne_in hc (by first | exact mm0 | exact mm1 | exact mm2 | exact mm3 | exact mm4 | exact mm5 | exact mm6)) (ne_in hc (by first | exact mm0 | exact mm1 | exact mm2 | exact mm3 | exact mm4 | exact mm5 | exact mm6)) (ne_in hc (by first | exact mm0 | exact mm1 | exact mm2 | exact mm3 | exact mm4 | exact mm5 | exact mm6)) e
    · have Tn : ∀ b ∈ [z, TI, TO, i1, i2], T ≠ b := fun b hb x => q1 (x ▸ hw b hb)
      refine pyNext_zip_held D e q2 S.TI S.i1 S.i2 S.l1 S.l2 hx hy fun h₁ f1' b1 b3 b4 b5 hk => ?_
      refine kk _ _ h₁ s.toks hv (val h₁ b5) ⟨.inr ⟨T, oT, f1', b1, q1, hk _ _ (Tn _ (by first | exact mm0 | exact mm1 | exact mm2 | exact mm3 | exact mm4 | exact mm5 | exact mm6)) (Tn _ (by first | exact mm0 | exact mm1 | exact mm2 | exact mm3 | exact mm4 | exact mm5 | exact mm6)) (Tn _ (by first | exact mm0 | exact mm1 | exact mm2 | exact mm3 | exact mm4 | exact mm5 | exact mm6)) q2⟩, hk _ _ D.TIz D.TIi1 D.TIi2 S.TI, ⟨_, _, hk _ _ D.TOz D.TOi1 D.TOi2 eTO⟩, b3, b4, S.l1.at fun o e => hk _ o D.l1z D.l1i1 D.l1i2 e, S.l2.at fun o e => hk _ o D.l2z D.l2i1 D.l2i2 e⟩
        fun c o hc e => hk c o (ne_in hc (by first | exact mm0 | exact mm1 | exact mm2 | exact mm3 | exact mm4 | exact mm5 | exact mm6)) (ne_in hc (by first | exact mm0 | exact mm1 | exact mm2 | exact mm3 | exact mm4 | exact mm5 | exact mm6)) (ne_in hc (by first | exact mm0 | exact mm1 | exact mm2 | exact mm3 | exact mm4 | exact mm5 | exact mm6)) e
  · intro U' s Q E S kk
    rw [pairsV_length hlen] at S
    have hend : ws.toArray[l.length]? = none := by simp [hi1.length]
    obtain ⟨a, b, eTO⟩ := S.TO
    rcases S.z with e | ⟨T, oT, f1, e, q1, q2⟩
    · exact wpAny_pyNext_zip_end hA D e S.TI eTO S.i1 S.i2 S.l1 S.l2 (.inl hend) fun h₁ hk => kk h₁ s.toks fun c o hc e => hk c o (ne_in hc (by first | exact mm0 | exact mm1 | exact mm2 | exact mm3 | exact mm4 | exact mm5 | exact mm6)) (ne_in hc (by first | exact mm0 | exact mm1 | exact mm2 | exact mm3 | exact mm4 | exact mm5 | exact mm6)) (ne_in hc (by first | exact mm0 | exact mm1 | exact mm2 | exact mm3 | exact mm4 | exact mm5 | exact mm6)) (ne_in hc (by first | exact mm0 | exact mm1 | exact mm2 | exact mm3 | exact mm4 | exact mm5 | exact mm6)) e
    · exact pyNext_zip_held_end hA D e q2 S.TI S.i1 S.l1 hend fun h₁ hk => kk h₁ s.toks fun c o hc e => hk c o (ne_in hc (by first | exact mm0 | exact mm1 | exact mm2 | exact mm3 | exact mm4 | exact mm5 | exact mm6)) (ne_in hc (by first | exact mm0 | exact mm1 | exact mm2 | exact mm3 | exact mm4 | exact mm5 | exact mm6)) e
  · intro U' i s Q E S h
    rcases S.z with e | ⟨T, oT, f1, e, q1, q2⟩
    · exact pyIter_zipO e h
    · exact pyIter_zipO e h
noncomputable def zipT : List V → (List V → Prop) → Prop
  | [.ints l, .ints m], P => l.length = m.length ∧ P (pairsV l m)
  | _, _ => False
theorem EvI2.zip (ok : FmOk C n F) {x : Str} {args : List Expr} {p pos : Pos} {Wa : WXs} (g : GN C x (.type "zip")) (hx : F.env.kindOf x = some .globalImplicit) (ha : EvXs C F args Wa) :
    EvI2 C F (.Call (.Name x p) args [] pos) (fun st P => Wa st fun vs => zipT vs P) := by
  refine ⟨folded_no rfl, fun ad st s P Q E hW R k => ?_⟩
  refine call_name ok g hx (.inr (.inl ⟨_, rfl⟩)) ha hW R fun ws vs h₁ t₁ hT g₁ r₁ => ?_
  have R1 := R.grow ok g₁ (tk := t₁)
  unfold zipT at hT
  split at hT
  · simp only [VRs, VR] at r₁
    obtain ⟨w, ws', rfl, ⟨a, us, rfl, ha', hp, hi⟩, w2, ws2, rfl, ⟨a2, us2, rfl, ha2, hp2, hi2⟩, rfl⟩ := r₁
    refine call_zip_2 (s := { s with heap := h₁, toks := t₁ }) hp.isList hp2.isList fun h' hz hTI hTO k1 k2 _ up => ?_
    refine pyIter_zipO (s := { s with heap := h', toks := t₁ }) (f0 := .none) (f1 := .bool false) hz ?_
    have ic := itr_zip (C := C) (A := F.A) (U := F.U ad) (h := h₁) ok.a.handled ha' ha2 hp hp2 hi hi2 hT.1 hz hTI hTO k1 k2 up
    refine k _ _ _ _ _ h' t₁ hT.2 (g₁.trans (.of up)) { ic with dead := fun b hb => g₁.dead (fun q => C.alive _ R1.tb b q (ic.dead b hb)) (ic.dead b hb) }
  · exact hT.elim
end
end Mine
end
section
open PySem PySem.Calls PyProof.Rows PySem.W PySem.Spec PySem.SeqAt
set_option Elab.async false
set_option maxRecDepth 10000
namespace Mine
section
variable {C : Cx} {F : Fm} {n : Nat}
noncomputable def sortT : List V → (V → Prop) → Prop
  | [.ints l], P => l.length < 64 ∧ ∀ m : List Int, m.Perm l → m.Pairwise (· ≤ ·) → P (.ints m)
  | _, _ => False
theorem pc_sorted : PC C 0 (.builtin "sorted") sortT := by
  intro A U s vs ws P Q E hA wd tb al gU r hT k
  unfold sortT at hT
  split at hT
  · simp only [VRs, VR] at r
    obtain ⟨w, ws', rfl, ⟨a, its, rfl, ha, hp, hi⟩, rfl⟩ := r
    refine sorted_ints hp.isList hi (Nat.lt_of_le_of_lt (Nat.le_of_eq hi.length) hT.1) fun out ns' h1 h2 h3 => ?_
    obtain ⟨e, he⟩ := sortedAll_at s.heap its out
    refine k _ _ _ s.toks (hT.2 ns' h2 h3) (.of fun b o q => sortedAll_old q) ?_
    simp only [VR]
    refine ⟨_, out.toList, rfl, fun q => ?_, ⟨e, he⟩, h1⟩
    cases q' : s.heap.get? (s.heap.objs.size + 1) with
    | none => exact al _ q q'
    | some o => exact absurd (Heap.lt_size q') (Nat.not_lt.mpr (Nat.le_succ _))
  · exact hT.elim
theorem intsAre_of : ∀ {ws : List Value} {l : List Int}, ws.length = l.length → (∀ j v, ws[j]? = some v → ∃ t, v = Value.int (l.getD j 0) t) → IntsAre ws l
  | [], [], _, _ => .nil
  | [], _ :: _, h, _ => by simp at h
  | _ :: _, [], h, _ => by simp at h
  | w :: ws, x :: l, h, k => by
    obtain ⟨t, e⟩ := k 0 w rfl
    simp only [List.getD_cons_zero] at e
    subst e
    refine .cons x t (intsAre_of (by simpa using h) fun j v hv => ?_)
    have := k (j + 1) v (by simpa using hv)
    simpa using this
noncomputable def lrangeT : List V → (V → Prop) → Prop
  | [.int b], P => Builtin.Range.small 0 b 1 = true ∧ b ≤ 2 ^ 24 ∧ P (.ints (rangeL 0 b 1))
  | _, _ => False
theorem EvF.listRange (ok : FmOk C n F) {x y : Str} {args : List Expr} {p p' pos pos' : Pos} {Wa : WXs} (g : GN C x (.type "list")) (hx : F.env.kindOf x = some .globalImplicit) (g' : GN C y (.type "range")) (hy : F.env.kindOf y = some .globalImplicit) (ha : EvXs C F args Wa) :
    EvF C F (.Call (.Name x p) [.Call (.Name y p') args [] pos'] [] pos) (fun st P => Wa st fun vs => lrangeT vs P) := by
  intro ad st s P Q E hW R k
  show wpAny _ F.A (eval (.Name x p) F.env >>= fun f => callWith pos f [] (backTo pos (starEach [.Call (.Name y p') args [] pos'] F.env)) (backToKw pos [])) Q E s
  refine wpAny_bind (name_gn ok.kind ok.globals ok.builtins hx (R.wd ok) g ?_)
  refine callWith_of (P := Wd C) (by rw [starEach_cons rfl]; rfl) (fun h w => keep_looks (C := C) (.inr (.inl ⟨_, rfl⟩)) h w) (evalArgs_all (by rw [starEach_cons rfl]; rfl) ?_)
  refine args_cons (call_name ok g' hy (.inr (.inl ⟨_, rfl⟩)) ha hW R fun ws vs h₁ t₁ hT g₁ r₁ => ?_) (starEach_cons rfl)
  unfold lrangeT at hT
  split at hT
  · rename_i b
    simp only [VRs, VR] at r₁
    obtain ⟨w, ws', rfl, ⟨t, rfl⟩, rfl⟩ := r₁
    refine call_range_1 (args_nil ?_)
    have g2 : Gr C h₁ (h₁.push { cls := .type "range", data := .fields #[.int 0 t₁, .int b t, .int 1 (t₁ + 1)] }) := .push ..
    have R2 := R.grow ok (g₁.trans g2) (tk := t₁ + 1 + 1)
    have h0 := rangeSize_nonneg (a := 0) (b := b) (c := 1) (by decide)
    have hsz : Builtin.Range.rangeSize 0 b 1 ≤ 2 ^ 24 := by
      have := hT.2.1
      unfold Builtin.Range.rangeSize
      split <;> split <;> omega
    refine ⟨R2.wd ok, ?_⟩
    refine call_list_range (s := { s with heap := h₁.push { cls := .type "range", data := .fields #[.int 0 t₁, .int b t, .int 1 (t₁ + 1)] }, toks := t₁ + 1 + 1 }) (n := (Builtin.Range.rangeSize 0 b 1).toNat) ok.a.handled (IsRange.new h₁ 0 b 1 t₁ t (t₁ + 1)) hT.1 (by (clear ok g hx g' hy ha hW R k g₁ hT g2 R2; lia)) (by (clear ok g hx g' hy ha hW R k g₁ hT g2 R2; lia)) fun h' tk acc' c' up hl hit => ?_
    have dead : (h₁.push { cls := .type "range", data := .fields #[.int 0 t₁, .int b t, .int 1 (t₁ + 1)] } : Heap).get? (h₁.push { cls := .type "range", data := .fields #[.int 0 t₁, .int b t, .int 1 (t₁ + 1)] } : Heap).objs.size = Option.none := dead_size _
    have nG := fun q => C.alive _ R2.tb _ q dead
    refine k _ _ h' tk hT.2.2 ((g₁.trans g2).trans (.of up)) ?_ ?_
    · simp only [VR]
      refine ⟨_, acc'.toList, rfl, fun q => R2.U_alive _ q dead, ⟨c', hl⟩, intsAre_of ?_ fun j v hv => ?_⟩
      · rw [Array.length_toList, hit.1]; simp [rangeL]
      · obtain ⟨tt, e⟩ := hit.2 j v (by simpa using hv)
        have hj : j < (Builtin.Range.rangeSize 0 b 1).toNat := by
          have := (List.getElem?_eq_some_iff.mp hv).1
          rw [Array.length_toList, hit.1] at this; exact this
        exact ⟨tt, by rw [e, List.getD_eq_getElem?_getD]; simp [rangeL, hj]⟩
    · intro a e
      injection e with e; subst e
      exact ⟨nG, (g₁.trans g2).dead nG dead, _, _, hl⟩
  · exact hT.elim
theorem index_ints {prog : Program} {w : World} {A : Around} {E : Value → Shared → Prop} {s : Shared} {l : Addr} {vs : List Value} {ns : List Int} {k : Int} {t : Tok} {Q : Value → Shared → Prop} (hl : s.heap.IsList l vs.toArray) (hi : IntsAre vs ns)
    (hb : ns.length < 2 ^ 62) (hk : k ∈ ns) (h : Q (.int (ns.idxOf k : Nat) s.toks) { s with toks := s.toks + 1 }) :
    wpAny (model prog w) A (call (.builtin "list.index") [.ref l, .int k t]) Q E s := by
  obtain ⟨⟨cls, dd, data, sl⟩, ho, hc, n, hd⟩ := id hl
  simp only at hc hd
  subst hc hd
  have hlen := hi.length
  have hj : ns.idxOf k < ns.length := List.idxOf_lt_length_iff.mpr hk
  refine call_meets PySem.F.slot_list_index ⟨_, ho, rfl⟩ PySem.F.entry_list_index (PySem.F.args_list_index_2 _ _)
    (list_indexAt l vs.toArray n dd sl (.int k t) (isInt k) (ns.idxOf k) (by simpa [hlen] using hj) (by (clear hl hi hk h ho; lia)) ?_ fun m hm hlt => ?_) ⟨ho, fun y hy => (eq_isInt k t hi y (by simpa using hy)).at _ _, h⟩
  · have := isInt_at k hi (ns.idxOf k) (by (clear hl hi hb hk h ho; lia)) hj
    simp only [List.getElem_toArray]
    rw [this]; simp
  · have := isInt_at k hi m (by simpa using hm) (by (clear hl hi hb hk h ho hm; lia))
    simp only [List.getElem_toArray]
    rw [this]; exact ne_of_lt_idxOf hlt _
theorem EvX.index (ok : FmOk C n F) {o arg : Expr} {apos pos : Pos} {W1 W2 : WX} {pl : Sem Bool} (h1 : EvX C F o W1) (h2 : EvX C F arg W2) (hs : notStar arg = true)
    (he : eval (.Call (.Attribute o (Str.ofString "index") apos) [arg] [] pos) F.env = (do
      let ov ← eval o F.env
      standAt apos.atName
      let (f, first) ← holding [ov] (getMethod ov (Str.ofString "index") pl)
      callWith pos f first (backTo pos (starEach [arg] F.env)) [])) :
    EvX C F (.Call (.Attribute o (Str.ofString "index") apos) [arg] [] pos) (fun st P => W1 st fun v => match v with | .ints l => W2 st (fun u => match u with | .int a => l.length < 2 ^ 62 ∧ a ∈ l ∧ P (.int (l.idxOf a : Nat)) | _ => False) | _ => False) := by
  intro ad st s P Q E hW R k
  refine MethodCall_ (pl := pl) (h1 ad st s _ _ _ hW R fun w v h₁ t₁ hb g₁ r₁ => ?_) he
  have R1 := R.grow ok g₁ (tk := t₁)
  split at hb
  · rename_i l
    simp only [VR] at r₁
    obtain ⟨a, ws, rfl, ha, hp, hi⟩ := r₁
    refine getMethod_list (C := C) PySem.F.slot_list_index PySem.F.type_list_index hp ?_
    refine callWith_method1 (first := [.ref a]) (args_cons (h2 ad st _ _ _ _ hb R1 fun w u h₂ t₂ hP g₂ r₂ => args_nil ?_) (starEach_cons hs)) (starEach_cons hs) rfl
    split at hP
    · simp only [VR] at r₂; obtain ⟨t, rfl⟩ := r₂
      exact index_ints (s := { s with heap := h₂, toks := t₂ }) (hp.at fun o => g₂.keep a o (fun q => ha (R.UG a q))).isList hi hP.1 hP.2.1 (k _ _ h₂ _ hP.2.2 (g₁.trans g₂) (by simp [VR]))
    · exact hP.elim
  · exact hb.elim
end
end Mine
end
section
open PySem PySem.Calls PyProof.Rows PySem.W PySem.Spec PySem.SeqAt
set_option Elab.async false
set_option maxRecDepth 10000
namespace Mine
noncomputable def itemsM : V → List V
  | .mints l => l.map V.int
  | .mlist l => l
  | _ => []
noncomputable def isM : V → Prop
  | .mints _ => True
  | .mlist _ => True
  | _ => False
noncomputable abbrev iZip (Wa : WXs) : WXs := fun st P => Wa st fun vs => zipT vs P
noncomputable abbrev wLRange (Wa : WXs) : WX := fun st P => Wa st fun vs => lrangeT vs P
noncomputable abbrev wIndex (W1 W2 : WX) : WX := fun st P => W1 st fun v => match v with | .ints l => W2 st (fun u => match u with | .int a => l.length < 2 ^ 62 ∧ a ∈ l ∧ P (.int (l.idxOf a : Nat)) | _ => False) | _ => False
noncomputable abbrev sAppNone (i : Nat) : WS := fun st P => isM (getV st i) ∧ (itemsM (getV st i)).length < 2 ^ 24 ∧ P .nxt (st.set i (.mlist (itemsM (getV st i) ++ [.none])))
section
variable {C : Cx} {F : Fm} {n : Nat}
theorem app_none (ok : FmOk C n F) {x : Str} {p apos pos pos' cp : Pos} {ck : Nat} {pl : Sem Bool} {A : Around} (i : Nat) (hi : F.names[i]? = some x) {ad : Ad} {st : List V} {s : Shared} {P : Out → List V → Prop} {Q : Flow → Shared → Prop} {E : Value → Shared → Prop} (R : Rep C F ad st s)
    (he : eval (.Call (.Attribute (.Name x p) (Str.ofString "append") apos) [.Constant .none ck cp] [] pos) F.env = (do
      let ov ← eval (.Name x p) F.env
      standAt apos.atName
      let (f, first) ← holding [ov] (getMethod ov (Str.ofString "append") pl)
      callWith pos f first (backTo pos (starEach [.Constant .none ck cp] F.env)) []))
    (hP : sAppNone i st P) (k : Post C F ad s P Q) : wpAny (model C.prog C.w) A (execs [.Expr (.Call (.Attribute (.Name x p) (Str.ofString "append") apos) [.Constant .none ck cp] [] pos) pos'] F.env) Q E s := by
  have hx := ok.names x (List.mem_of_getElem? hi)
  obtain ⟨hm, hl, hP⟩ := hP
  obtain ⟨a, ws, e1, e2, e3, e4⟩ : ∃ a ws, (i, a) ∈ ad.m ∧ Rd F.env s.heap x (.ref a) ∧ s.heap.PlainList a ws.toArray ∧ VRs (F.U ad) s.heap (itemsM (getV st i)) ws := by
    cases hv : getV st i <;> rw [hv] at hm <;> first | exact hm.elim | skip
    · obtain ⟨a, ws, e1, e2, e3, e4⟩ := R.mints hi hv; exact ⟨a, ws, e1, e2, e3, VRs.of_ints e4⟩
    · exact R.mlist hi hv
  refine wpAny_execs_cons (wpAny_Expr ?_ (interactive_no ok) (swaps_no rfl))
  refine MethodCall_ (pl := pl) (wpAny_Name (wp_load_rd ok.kind hx e2 ?_) (okName_debug hx)) he
  refine getMethod_list (C := C) slot_list_append type_list_append e3 ?_
  refine callWith_method1 (first := [.ref a]) (args_cons (wpAny_pure (args_nil ?_)) (starEach_cons rfl)) (starEach_cons rfl) rfl
  refine wpAny_list_append_plain e3 (fun h' hp' hs' => ?_) (by have := e4.length; simp only [sizeLine, List.size_toArray]; (clear ok hi R he k hx hm hP e1 e2 e3 e4; lia))
  replace hp' : h'.PlainList a (ws ++ [Value.none]).toArray := by simpa using hp'
  obtain ⟨R2, sp⟩ := R.relist ok (tk := s.toks) (v := .mlist (itemsM (getV st i) ++ [.none])) hi e1 e2 (same_of hs') (.inl ⟨_, hp'⟩) fun rd kU => ⟨a, _, e1, rd, hp', VRs.append (VRs.mono kU (fun _ hb => .inl hb) _ _ e4) (by simp only [VRs, VR]; exact ⟨_, [], rfl, rfl, rfl⟩)⟩
  exact wpAny_execs_nil (k .nxt _ ad h' s.toks _ hP sp R2 rfl)
end
end Mine
end
section
open PySem PySem.W PyProof.Rows
set_option Elab.async false
set_option maxRecDepth 100000
namespace Mine
noncomputable abbrev pw : Program := PySem.Challenge.pw_ph0083_02
noncomputable abbrev kS (s : String) (n : Nat) : Value := .str (Str.ofString s) n
noncomputable def kE (P : Params) (s : String) (n : Nat) (v : Value) : DictEntry := { hash := PyData.keyHash P (Str.ofString s), key := .str (Str.ofString s) n, val := v }
noncomputable def kC (vs : Array Value) : Obj := { cls := .type "code", data := .fields vs }
noncomputable def kF (m : String) (n : Nat) (c : Addr) : Stmt → Obj
  | .FunctionDef x ps b _ _ _ sc _ _ _ => { cls := .type "function", data := .func { name := x, qualname := x, params := ps, body := .stmts b, scope := sc, globals := 3, closure := [], defaults := .none, kwdefaults := .none, pyModule := .str (Str.ofString m) n, code := .ref c } }
  | _ => { cls := .none, data := .fields #[] }
noncomputable def KK (P : Params) : Frag := [
(3, { cls := .type "dict", data := .dict #[kE P "__name__" 165 (kS "law_ph0083_02" 280), kE P "__doc__" 166 (.none), kE P "__package__" 167 (.none), kE P "__loader__" 168 (.builtin "__main__.__loader__#opaque"), kE P "__spec__" 169 (.none), kE P "__annotations__" 170 (.ref 6), kE P "__builtins__" 171 (.ref 4), kE P "__file__" 173 (kS "/claim/cut.py" 172), kE P "__cached__" 174 (.none), kE P "_DIV_LIMIT" 190 (.int 4000 189), kE P "_div2n1n" 207 (.ref 21), kE P "_div3n2n" 221 (.ref 28), kE P "_int2digits" 232 (.ref 35), kE P "_digits2int" 243 (.ref 42), kE P "_divmod_pos" 258 (.ref 49), kE P "int_divmod" 268 (.ref 56), kE P "_parse_varint" 279 (.ref 63), kE P "_law_goes" 287 (.ref 68), kE P "_law_rows" 293 (.ref 73), kE P "_law_told" 299 (.ref 78), kE P "_law_walk" 310 (.ref 85), kE P "_law_octets" 328 (.ref 92), kE P "_law_read" 339 (.ref 99), kE P "law" 345 (.ref 104)] 24 }),
  (21, kF "cpy313._pylong" 187 20 (defAt pw 2)),
  (28, kF "cpy313._pylong" 187 27 (defAt pw 3)),
  (35, kF "cpy313._pylong" 187 34 (defAt pw 4)),
  (42, kF "cpy313._pylong" 187 41 (defAt pw 5)),
  (49, kF "cpy313._pylong" 187 48 (defAt pw 6)),
  (56, kF "cpy313._pylong" 187 55 (defAt pw 7)),
  (63, kF "cpy313.dis" 269 62 (defAt pw 9)),
  (68, kF "law_ph0083_02" 280 67 (defAt pw 11)),
  (73, kF "law_ph0083_02" 280 72 (defAt pw 12)),
  (78, kF "law_ph0083_02" 280 77 (defAt pw 13)),
  (85, kF "law_ph0083_02" 280 84 (defAt pw 14)),
  (92, kF "law_ph0083_02" 280 91 (defAt pw 15)),
  (99, kF "law_ph0083_02" 280 98 (defAt pw 16)),
  (104, kF "law_ph0083_02" 280 103 (defAt pw 17)),
  (20, kC #[kS "_div2n1n" 191, kS "_div2n1n" 192, kS "/claim/cut.py" 193, .int 3 0, .int 3 0, .int 0 0, .int 0 0, .int 3 0, .ref 15, .bool true, .int 181 0, .ref 16, .none, .ref 17, .ref 18, .ref 19, .int 205 0, .int 3 0, kS "/claim/cut.py" 206]),
  (27, kC #[kS "_div3n2n" 208, kS "_div3n2n" 209, kS "/claim/cut.py" 210, .int 19 0, .int 6 0, .int 0 0, .int 0 0, .int 3 0, .ref 22, .bool true, .int 181 0, .ref 23, .none, .ref 24, .ref 25, .ref 26, .int 219 0, .int 19 0, kS "/claim/cut.py" 220]),
  (34, kC #[kS "_int2digits" 222, kS "_int2digits" 223, kS "/claim/cut.py" 224, .int 29 0, .int 2 0, .int 0 0, .int 0 0, .int 3 0, .ref 29, .bool true, .int 181 0, .ref 30, .none, .ref 31, .ref 32, .ref 33, .int 230 0, .int 29 0, kS "/claim/cut.py" 231]),
  (41, kC #[kS "_digits2int" 233, kS "_digits2int" 234, kS "/claim/cut.py" 235, .int 45 0, .int 2 0, .int 0 0, .int 0 0, .int 3 0, .ref 36, .bool true, .int 181 0, .ref 37, .none, .ref 38, .ref 39, .ref 40, .int 241 0, .int 45 0, kS "/claim/cut.py" 242]),
  (48, kC #[kS "_divmod_pos" 244, kS "_divmod_pos" 245, kS "/claim/cut.py" 246, .int 54 0, .int 2 0, .int 0 0, .int 0 0, .int 3 0, .ref 43, .bool true, .int 181 0, .ref 44, .none, .ref 45, .ref 46, .ref 47, .int 256 0, .int 54 0, kS "/claim/cut.py" 257]),
  (55, kC #[kS "int_divmod" 259, kS "int_divmod" 260, kS "/claim/cut.py" 261, .int 65 0, .int 2 0, .int 0 0, .int 0 0, .int 3 0, .ref 50, .bool true, .int 181 0, .ref 51, .none, .ref 52, .ref 53, .ref 54, .int 266 0, .int 65 0, kS "/claim/cut.py" 267]),
  (62, kC #[kS "_parse_varint" 271, kS "_parse_varint" 272, kS "/claim/cut.py" 273, .int 77 0, .int 1 0, .int 0 0, .int 0 0, .int 3 0, .ref 57, .bool true, .int 181 0, .ref 58, .none, .ref 59, .ref 60, .ref 61, .int 277 0, .int 77 0, kS "/claim/cut.py" 278]),
  (67, kC #[kS "_law_goes" 282, kS "_law_goes" 283, kS "/claim/cut.py" 284, .int 86 0, .int 1 0, .int 0 0, .int 0 0, .int 3 0, .ref 64, .bool true, .int 181 0, .ref 65, .none, .none, .none, .ref 66, .int 285 0, .int 86 0, kS "/claim/cut.py" 286]),
  (72, kC #[kS "_law_rows" 288, kS "_law_rows" 289, kS "/claim/cut.py" 290, .int 92 0, .int 4 0, .int 0 0, .int 0 0, .int 3 0, .ref 69, .bool true, .int 181 0, .ref 70, .none, .none, .none, .ref 71, .int 291 0, .int 92 0, kS "/claim/cut.py" 292]),
  (77, kC #[kS "_law_told" 294, kS "_law_told" 295, kS "/claim/cut.py" 296, .int 97 0, .int 4 0, .int 0 0, .int 0 0, .int 3 0, .ref 74, .bool true, .int 181 0, .ref 75, .none, .none, .none, .ref 76, .int 297 0, .int 97 0, kS "/claim/cut.py" 298]),
  (84, kC #[kS "_law_walk" 300, kS "_law_walk" 301, kS "/claim/cut.py" 302, .int 100 0, .int 3 0, .int 0 0, .int 0 0, .int 3 0, .ref 79, .bool true, .int 181 0, .ref 80, .none, .ref 81, .ref 82, .ref 83, .int 308 0, .int 100 0, kS "/claim/cut.py" 309]),
  (91, kC #[kS "_law_octets" 311, kS "_law_octets" 312, kS "/claim/cut.py" 313, .int 106 0, .int 1 0, .int 0 0, .int 0 0, .int 3 0, .ref 86, .bool true, .int 181 0, .ref 87, .none, .ref 88, .ref 89, .ref 90, .int 326 0, .int 106 0, kS "/claim/cut.py" 327]),
  (98, kC #[kS "_law_read" 329, kS "_law_read" 330, kS "/claim/cut.py" 331, .int 117 0, .int 2 0, .int 0 0, .int 0 0, .int 3 0, .ref 93, .bool true, .int 181 0, .ref 94, .none, .ref 95, .ref 96, .ref 97, .int 337 0, .int 117 0, kS "/claim/cut.py" 338]),
  (103, kC #[kS "law" 340, kS "law" 341, kS "/claim/cut.py" 342, .int 126 0, .int 1 0, .int 0 0, .int 0 0, .int 3 0, .ref 100, .bool true, .int 181 0, .ref 101, .none, .none, .none, .ref 102, .int 343 0, .int 126 0, kS "/claim/cut.py" 344])]
theorem kk_as (P : Params) : [3, 21, 28, 35, 42, 49, 56, 63, 68, 73, 78, 85, 92, 99, 104, 20, 27, 34, 41, 48, 55, 62, 67, 72, 77, 84, 91, 98, 103] = (KK P).map (·.1) := by kernel_rfl
end Mine
end
section
open PySem PySem.Calls PyProof.Rows PySem.W PySem.Spec PySem.SeqAt
set_option Elab.async false
set_option maxRecDepth 100000
set_option linter.unusedVariables false
namespace Mine
theorem gn__div2n1n (C : Cx) (hK : C.K = KK C.w.params) : GN C (Str.ofString "_div2n1n") (.ref 21) := ⟨by decide, .inl (by rw [hK]; kernel_rfl)⟩
theorem kp__div2n1n (C : Cx) (hK : C.K = KK C.w.params) : KeepOk C (.ref 21) := .inr (.inr (by rw [hK]; kernel_rfl))
theorem gn__div3n2n (C : Cx) (hK : C.K = KK C.w.params) : GN C (Str.ofString "_div3n2n") (.ref 28) := ⟨by decide, .inl (by rw [hK]; kernel_rfl)⟩
theorem kp__div3n2n (C : Cx) (hK : C.K = KK C.w.params) : KeepOk C (.ref 28) := .inr (.inr (by rw [hK]; kernel_rfl))
theorem gn__int2digits (C : Cx) (hK : C.K = KK C.w.params) : GN C (Str.ofString "_int2digits") (.ref 35) := ⟨by decide, .inl (by rw [hK]; kernel_rfl)⟩
theorem kp__int2digits (C : Cx) (hK : C.K = KK C.w.params) : KeepOk C (.ref 35) := .inr (.inr (by rw [hK]; kernel_rfl))
theorem gn__digits2int (C : Cx) (hK : C.K = KK C.w.params) : GN C (Str.ofString "_digits2int") (.ref 42) := ⟨by decide, .inl (by rw [hK]; kernel_rfl)⟩
theorem kp__digits2int (C : Cx) (hK : C.K = KK C.w.params) : KeepOk C (.ref 42) := .inr (.inr (by rw [hK]; kernel_rfl))
theorem gn__divmod_pos (C : Cx) (hK : C.K = KK C.w.params) : GN C (Str.ofString "_divmod_pos") (.ref 49) := ⟨by decide, .inl (by rw [hK]; kernel_rfl)⟩
theorem kp__divmod_pos (C : Cx) (hK : C.K = KK C.w.params) : KeepOk C (.ref 49) := .inr (.inr (by rw [hK]; kernel_rfl))
theorem gn_int_divmod (C : Cx) (hK : C.K = KK C.w.params) : GN C (Str.ofString "int_divmod") (.ref 56) := ⟨by decide, .inl (by rw [hK]; kernel_rfl)⟩
theorem kp_int_divmod (C : Cx) (hK : C.K = KK C.w.params) : KeepOk C (.ref 56) := .inr (.inr (by rw [hK]; kernel_rfl))
theorem gn_len (C : Cx) (hK : C.K = KK C.w.params) : GN C (Str.ofString "len") (.builtin "len") := ⟨by decide, .inr ⟨by rw [hK]; kernel_rfl, by decide +kernel, by decide⟩⟩
theorem kp_len (C : Cx) (_hK : C.K = KK C.w.params) : KeepOk C (.builtin "len") := .inl ⟨_, rfl⟩
theorem gn_divmod (C : Cx) (hK : C.K = KK C.w.params) : GN C (Str.ofString "divmod") (.builtin "divmod") := ⟨by decide, .inr ⟨by rw [hK]; kernel_rfl, by decide +kernel, by decide⟩⟩
theorem kp_divmod (C : Cx) (_hK : C.K = KK C.w.params) : KeepOk C (.builtin "divmod") := .inl ⟨_, rfl⟩
theorem gn_range (C : Cx) (hK : C.K = KK C.w.params) : GN C (Str.ofString "range") (.type "range") := ⟨by decide, .inr ⟨by rw [hK]; kernel_rfl, by decide +kernel, by decide⟩⟩
theorem gn_reversed (C : Cx) (hK : C.K = KK C.w.params) : GN C (Str.ofString "reversed") (.type "reversed") := ⟨by decide, .inr ⟨by rw [hK]; kernel_rfl, by decide +kernel, by decide⟩⟩
theorem gn_sorted (C : Cx) (hK : C.K = KK C.w.params) : GN C (Str.ofString "sorted") (.builtin "sorted") := ⟨by decide, .inr ⟨by rw [hK]; kernel_rfl, by decide +kernel, by decide⟩⟩
theorem kp_sorted (C : Cx) (_hK : C.K = KK C.w.params) : KeepOk C (.builtin "sorted") := .inl ⟨_, rfl⟩
theorem gn_iter (C : Cx) (hK : C.K = KK C.w.params) : GN C (Str.ofString "iter") (.builtin "iter") := ⟨by decide, .inr ⟨by rw [hK]; kernel_rfl, by decide +kernel, by decide⟩⟩
theorem gn_next (C : Cx) (hK : C.K = KK C.w.params) : GN C (Str.ofString "next") (.builtin "next") := ⟨by decide, .inr ⟨by rw [hK]; kernel_rfl, by decide +kernel, by decide⟩⟩
theorem gn_list (C : Cx) (hK : C.K = KK C.w.params) : GN C (Str.ofString "list") (.type "list") := ⟨by decide, .inr ⟨by rw [hK]; kernel_rfl, by decide +kernel, by decide⟩⟩
theorem gn_zip (C : Cx) (hK : C.K = KK C.w.params) : GN C (Str.ofString "zip") (.type "zip") := ⟨by decide, .inr ⟨by rw [hK]; kernel_rfl, by decide +kernel, by decide⟩⟩
theorem gn__DIV_LIMIT (C : Cx) (hK : C.K = KK C.w.params) : GN C (Str.ofString "_DIV_LIMIT") (.int 4000 189) := ⟨by decide, .inl (by rw [hK]; kernel_rfl)⟩
section
variable {n : Nat}
noncomputable def nm_div2 : List Str := [Str.ofString "a", Str.ofString "b", Str.ofString "n", Str.ofString "pad", Str.ofString "half_n", Str.ofString "mask", Str.ofString "b1", Str.ofString "b2", Str.ofString "q1", Str.ofString "r", Str.ofString "q2"]
theorem fnok_div2 (C : Cx) (hK : C.K = KK C.w.params) : FnOk C 21 (fnAt (KK C.w.params) 21) (bodyOf (defAt pw 2)) 3 nm_div2 where
  at_ := by rw [hK]; exact ⟨_, _, _, rfl⟩
  code := by rw [hK]; kernel_rfl
  body := by rfl
  clo := rfl
  glob := rfl
  blt := rfl
  kind := rfl
  co := rfl
  gen := rfl
  bind := fun ws h => by
    obtain ⟨_, ws1, rfl, h1⟩ := len_s h
    obtain ⟨_, ws2, rfl, h2⟩ := len_s h1
    obtain ⟨_, ws3, rfl, h3⟩ := len_s h2
    obtain rfl := len_z h3
    rfl
  kinds := kinds_of (by kernel_rfl) 3
  len := by decide
  okn := by decide
  nodup := by decide
  cnames := by rw [show (fnAt (KK C.w.params) 21).scope = scopeOf (defAt pw 2) from rfl]; decide
noncomputable def W_div2_1_0 (T__div3n2n : List V → (V → Prop) → Prop) : WS := bCons (sRet (wCall divmodT (wCons (wName 0) (wCons (wName 1) wNil)))) bNil
noncomputable def W_div2_2_2 (T__div3n2n : List V → (V → Prop) → Prop) : WS := bCons (sAug 2 .Add (wInt 1)) bNil
noncomputable def W_div2_2_1 (T__div3n2n : List V → (V → Prop) → Prop) : WS := bCons (sAug 1 .LShift (wInt 1)) (W_div2_2_2 T__div3n2n)
noncomputable def W_div2_2_0 (T__div3n2n : List V → (V → Prop) → Prop) : WS := bCons (sAug 0 .LShift (wInt 1)) (W_div2_2_1 T__div3n2n)
noncomputable def W_div2_3_0 (T__div3n2n : List V → (V → Prop) → Prop) : WS := bCons (sAug 9 .RShift (wInt 1)) bNil
noncomputable def W_div2_0_9 (T__div3n2n : List V → (V → Prop) → Prop) : WS := bCons (sRet (wTup (wCons (wBin .BitOr (wBin .LShift (wName 8) (wName 4)) (wName 10)) (wCons (wName 9) wNil)))) bNil
noncomputable def W_div2_0_8 (T__div3n2n : List V → (V → Prop) → Prop) : WS := bCons (sIte (cPlain (wName 3))
 (W_div2_3_0 T__div3n2n)
 bNil) (W_div2_0_9 T__div3n2n)
noncomputable def W_div2_0_7 (T__div3n2n : List V → (V → Prop) → Prop) : WS := bCons (sUnpack [10, 9] (wCall T__div3n2n (wCons (wName 9) (wCons (wBin .BitAnd (wName 0) (wName 5)) (wCons (wName 1) (wCons (wName 6) (wCons (wName 7) (wCons (wName 4) wNil)))))))) (W_div2_0_8 T__div3n2n)
noncomputable def W_div2_0_6 (T__div3n2n : List V → (V → Prop) → Prop) : WS := bCons (sUnpack [8, 9] (wCall T__div3n2n (wCons (wBin .RShift (wName 0) (wName 2)) (wCons (wBin .BitAnd (wBin .RShift (wName 0) (wName 4)) (wName 5)) (wCons (wName 1) (wCons (wName 6) (wCons (wName 7) (wCons (wName 4) wNil)))))))) (W_div2_0_7 T__div3n2n)
noncomputable def W_div2_0_5 (T__div3n2n : List V → (V → Prop) → Prop) : WS := bCons (sSwap 2 [7, 6] (wTup (wCons (wBin .RShift (wName 1) (wName 4)) (wCons (wBin .BitAnd (wName 1) (wName 5)) wNil)))) (W_div2_0_6 T__div3n2n)
noncomputable def W_div2_0_4 (T__div3n2n : List V → (V → Prop) → Prop) : WS := bCons (sAssign 5 (wBin .Sub (wBin .LShift (wInt 1) (wName 4)) (wInt 1))) (W_div2_0_5 T__div3n2n)
noncomputable def W_div2_0_3 (T__div3n2n : List V → (V → Prop) → Prop) : WS := bCons (sAssign 4 (wBin .RShift (wName 2) (wInt 1))) (W_div2_0_4 T__div3n2n)
noncomputable def W_div2_0_2 (T__div3n2n : List V → (V → Prop) → Prop) : WS := bCons (sIte (cPlain (wName 3))
 (W_div2_2_0 T__div3n2n)
 bNil) (W_div2_0_3 T__div3n2n)
noncomputable def W_div2_0_1 (T__div3n2n : List V → (V → Prop) → Prop) : WS := bCons (sAssign 3 (wBin .BitAnd (wName 2) (wInt 1))) (W_div2_0_2 T__div3n2n)
noncomputable def W_div2 (T__div3n2n : List V → (V → Prop) → Prop) : WS := bCons (sIte (cCmp .LtE (wBin .Sub (wBitLen (wName 0)) (wName 2)) (wInt 4000))
 (W_div2_1_0 T__div3n2n)
 bNil) (W_div2_0_1 T__div3n2n)
theorem ex_div2 (C : Cx) (hK : C.K = KK C.w.params) {T__div3n2n : List V → (V → Prop) → Prop} {m__div3n2n : Nat} (h__div3n2n : PC C m__div3n2n (.ref 28) T__div3n2n) (le__div3n2n : m__div3n2n ≤ n) (A : Around) (L : Addr) (h₀ : Heap) (ok : FmOk C n (fnFm A (fnAt (KK C.w.params) 21) 21 L h₀ nm_div2)) :
    ExB C (fnFm A (fnAt (KK C.w.params) 21) 21 L h₀ nm_div2) (bodyOf (defAt pw 2)) (W_div2 T__div3n2n) := by
  have so := stores_of (A := A) (fd := fnAt (KK C.w.params) 21) (f := 21) (L := L) (h₀ := h₀) (names := nm_div2) (by kernel_rfl)
  exact (ExB.cons (ExS.ite ok (EvC.cmp ok (EvF.x (EvF.bin ok (EvX.bitLength (EvX.name ok 0 rfl) rfl) (EvX.name ok 2 rfl))) (EvX.gint ok (gn__DIV_LIMIT C hK) rfl) rfl)
 (ExB.cons (ExS.ret ok (EvX.call ok (gn_divmod C hK) rfl (kp_divmod C hK) (EvXs.cons ok (EvX.name ok 0 rfl) (EvXs.cons ok (EvX.name ok 1 rfl) EvXs.nil rfl) rfl) pc_divmod (Nat.zero_le _)))
 ExB.nil)
 ExB.nil ok)
 (ExB.cons (ExS.assign ok 3 rfl (so _ (List.mem_of_getElem? (i := 3) rfl)) (EvF.x (EvF.bin ok (EvX.name ok 2 rfl) (EvF.x EvF.int))) rfl)
 (ExB.cons (ExS.ite ok (EvC.plain (EvX.name ok 3 rfl) rfl)
 (ExB.cons (ExS.aug ok 0 rfl (so _ (List.mem_of_getElem? (i := 0) rfl)) (EvF.x EvF.int))
 (ExB.cons (ExS.aug ok 1 rfl (so _ (List.mem_of_getElem? (i := 1) rfl)) (EvF.x EvF.int))
 (ExB.cons (ExS.aug ok 2 rfl (so _ (List.mem_of_getElem? (i := 2) rfl)) (EvF.x EvF.int))
 ExB.nil)))
 ExB.nil ok)
 (ExB.cons (ExS.assign ok 4 rfl (so _ (List.mem_of_getElem? (i := 4) rfl)) (EvF.x (EvF.bin ok (EvX.name ok 2 rfl) (EvF.x EvF.int))) rfl)
 (ExB.cons (ExS.assign ok 5 rfl (so _ (List.mem_of_getElem? (i := 5) rfl)) (EvF.x (EvF.bin ok (EvF.x (EvF.bin ok (EvF.x EvF.int) (EvX.name ok 4 rfl))) (EvF.x EvF.int))) rfl)
 (ExB.cons (ExS.swap (names := [Str.ofString "b1", Str.ofString "b2"]) ok (EvF.x (EvF.tup ok (EvXs.cons ok (EvF.x (EvF.bin ok (EvX.name ok 1 rfl) (EvX.name ok 4 rfl))) (EvXs.cons ok (EvF.x (EvF.bin ok (EvX.name ok 1 rfl) (EvX.name ok 5 rfl))) EvXs.nil rfl) rfl))) (Tgts.bindName 7 rfl (so _ (List.mem_of_getElem? (i := 7) rfl)) (Tgts.bindName 6 rfl (so _ (List.mem_of_getElem? (i := 6) rfl)) Tgts.nil)) rfl rfl)
 (ExB.cons (ExS.unpack ok (EvX.call ok (gn__div3n2n C hK) rfl (kp__div3n2n C hK) (EvXs.cons ok (EvF.x (EvF.bin ok (EvX.name ok 0 rfl) (EvX.name ok 2 rfl))) (EvXs.cons ok (EvF.x (EvF.bin ok (EvF.x (EvF.bin ok (EvX.name ok 0 rfl) (EvX.name ok 4 rfl))) (EvX.name ok 5 rfl))) (EvXs.cons ok (EvX.name ok 1 rfl) (EvXs.cons ok (EvX.name ok 6 rfl) (EvXs.cons ok (EvX.name ok 7 rfl) (EvXs.cons ok (EvX.name ok 4 rfl) EvXs.nil rfl) rfl) rfl) rfl) rfl) rfl) h__div3n2n le__div3n2n) (Tgts.name 8 rfl (so _ (List.mem_of_getElem? (i := 8) rfl)) (Tgts.name 9 rfl (so _ (List.mem_of_getElem? (i := 9) rfl)) Tgts.nil)) rfl rfl rfl)
 (ExB.cons (ExS.unpack ok (EvX.call ok (gn__div3n2n C hK) rfl (kp__div3n2n C hK) (EvXs.cons ok (EvX.name ok 9 rfl) (EvXs.cons ok (EvF.x (EvF.bin ok (EvX.name ok 0 rfl) (EvX.name ok 5 rfl))) (EvXs.cons ok (EvX.name ok 1 rfl) (EvXs.cons ok (EvX.name ok 6 rfl) (EvXs.cons ok (EvX.name ok 7 rfl) (EvXs.cons ok (EvX.name ok 4 rfl) EvXs.nil rfl) rfl) rfl) rfl) rfl) rfl) h__div3n2n le__div3n2n) (Tgts.name 10 rfl (so _ (List.mem_of_getElem? (i := 10) rfl)) (Tgts.name 9 rfl (so _ (List.mem_of_getElem? (i := 9) rfl)) Tgts.nil)) rfl rfl rfl)
 (ExB.cons (ExS.ite ok (EvC.plain (EvX.name ok 3 rfl) rfl)
 (ExB.cons (ExS.aug ok 9 rfl (so _ (List.mem_of_getElem? (i := 9) rfl)) (EvF.x EvF.int))
 ExB.nil)
 ExB.nil ok)
 (ExB.cons (ExS.ret ok (EvF.x (EvF.tup ok (EvXs.cons ok (EvF.x (EvF.bin ok (EvF.x (EvF.bin ok (EvX.name ok 8 rfl) (EvX.name ok 4 rfl))) (EvX.name ok 10 rfl))) (EvXs.cons ok (EvX.name ok 9 rfl) EvXs.nil rfl) rfl))))
 ExB.nil))))))))))
noncomputable def nm_dmp : List Str := [Str.ofString "a", Str.ofString "b", Str.ofString "n", Str.ofString "a_digits", Str.ofString "r", Str.ofString "q_digits", Str.ofString "a_digit", Str.ofString "q_digit", Str.ofString "q"]
theorem fnok_dmp (C : Cx) (hK : C.K = KK C.w.params) : FnOk C 49 (fnAt (KK C.w.params) 49) (bodyOf (defAt pw 6)) 2 nm_dmp where
  at_ := by rw [hK]; exact ⟨_, _, _, rfl⟩
  code := by rw [hK]; kernel_rfl
  body := by rfl
  clo := rfl
  glob := rfl
  blt := rfl
  kind := rfl
  co := rfl
  gen := rfl
  bind := fun ws h => by
    obtain ⟨_, ws1, rfl, h1⟩ := len_s h
    obtain ⟨_, ws2, rfl, h2⟩ := len_s h1
    obtain rfl := len_z h2
    rfl
  kinds := kinds_of (by kernel_rfl) 2
  len := by decide
  okn := by decide
  nodup := by decide
  cnames := by rw [show (fnAt (KK C.w.params) 49).scope = scopeOf (defAt pw 6) from rfl]; decide
noncomputable def W_dmp_1_1 (T__int2digits : List V → (V → Prop) → Prop) (T__div2n1n : List V → (V → Prop) → Prop) (T__digits2int : List V → (V → Prop) → Prop) : WS := bCons (sAppend 5 (wName 7)) bNil
noncomputable def W_dmp_1_0 (T__int2digits : List V → (V → Prop) → Prop) (T__div2n1n : List V → (V → Prop) → Prop) (T__digits2int : List V → (V → Prop) → Prop) : WS := bCons (sUnpack [7, 4] (wCall T__div2n1n (wCons (wBin .Add (wBin .LShift (wName 4) (wName 2)) (wName 6)) (wCons (wName 1) (wCons (wName 2) wNil))))) (W_dmp_1_1 T__int2digits T__div2n1n T__digits2int)
noncomputable def W_dmp_0_7 (T__int2digits : List V → (V → Prop) → Prop) (T__div2n1n : List V → (V → Prop) → Prop) (T__digits2int : List V → (V → Prop) → Prop) : WS := bCons (sRet (wTup (wCons (wName 8) (wCons (wName 4) wNil)))) bNil
noncomputable def W_dmp_0_6 (T__int2digits : List V → (V → Prop) → Prop) (T__div2n1n : List V → (V → Prop) → Prop) (T__digits2int : List V → (V → Prop) → Prop) : WS := bCons (sFrz 5 (sAssign 8 (wCall T__digits2int (wCons (wName 5) (wCons (wName 2) wNil))))) (W_dmp_0_7 T__int2digits T__div2n1n T__digits2int)
noncomputable def W_dmp_0_5 (T__int2digits : List V → (V → Prop) → Prop) (T__div2n1n : List V → (V → Prop) → Prop) (T__digits2int : List V → (V → Prop) → Prop) : WS := bCons (sReverse 5) (W_dmp_0_6 T__int2digits T__div2n1n T__digits2int)
noncomputable def W_dmp_0_4 (T__int2digits : List V → (V → Prop) → Prop) (T__div2n1n : List V → (V → Prop) → Prop) (T__digits2int : List V → (V → Prop) → Prop) : WS := bCons (sFor 6 (iRev (wCons (wName 3) wNil))
 (W_dmp_1_0 T__int2digits T__div2n1n T__digits2int)) (W_dmp_0_5 T__int2digits T__div2n1n T__digits2int)
noncomputable def W_dmp_0_3 (T__int2digits : List V → (V → Prop) → Prop) (T__div2n1n : List V → (V → Prop) → Prop) (T__digits2int : List V → (V → Prop) → Prop) : WS := bCons (sAssignM 5 (wLst wNil)) (W_dmp_0_4 T__int2digits T__div2n1n T__digits2int)
noncomputable def W_dmp_0_2 (T__int2digits : List V → (V → Prop) → Prop) (T__div2n1n : List V → (V → Prop) → Prop) (T__digits2int : List V → (V → Prop) → Prop) : WS := bCons (sAssign 4 (wInt 0)) (W_dmp_0_3 T__int2digits T__div2n1n T__digits2int)
noncomputable def W_dmp_0_1 (T__int2digits : List V → (V → Prop) → Prop) (T__div2n1n : List V → (V → Prop) → Prop) (T__digits2int : List V → (V → Prop) → Prop) : WS := bCons (sAssign 3 (wCall T__int2digits (wCons (wName 0) (wCons (wName 2) wNil)))) (W_dmp_0_2 T__int2digits T__div2n1n T__digits2int)
noncomputable def W_dmp (T__int2digits : List V → (V → Prop) → Prop) (T__div2n1n : List V → (V → Prop) → Prop) (T__digits2int : List V → (V → Prop) → Prop) : WS := bCons (sAssign 2 (wBitLen (wName 1))) (W_dmp_0_1 T__int2digits T__div2n1n T__digits2int)
theorem ex_dmp (C : Cx) (hK : C.K = KK C.w.params) {T__int2digits : List V → (V → Prop) → Prop} {m__int2digits : Nat} (h__int2digits : PC C m__int2digits (.ref 35) T__int2digits) (le__int2digits : m__int2digits ≤ n) {T__div2n1n : List V → (V → Prop) → Prop} {m__div2n1n : Nat} (h__div2n1n : PC C m__div2n1n (.ref 21) T__div2n1n) (le__div2n1n : m__div2n1n ≤ n) {T__digits2int : List V → (V → Prop) → Prop} {m__digits2int : Nat} (h__digits2int : PC C m__digits2int (.ref 42) T__digits2int) (le__digits2int : m__digits2int ≤ n) (A : Around) (L : Addr) (h₀ : Heap) (ok : FmOk C n (fnFm A (fnAt (KK C.w.params) 49) 49 L h₀ nm_dmp)) :
    ExB C (fnFm A (fnAt (KK C.w.params) 49) 49 L h₀ nm_dmp) (bodyOf (defAt pw 6)) (W_dmp T__int2digits T__div2n1n T__digits2int) := by
  have so := stores_of (A := A) (fd := fnAt (KK C.w.params) 49) (f := 49) (L := L) (h₀ := h₀) (names := nm_dmp) (by kernel_rfl)
  exact (ExB.cons (ExS.assign ok 2 rfl (so _ (List.mem_of_getElem? (i := 2) rfl)) (EvX.bitLength (EvX.name ok 1 rfl) rfl) rfl)
 (ExB.cons (ExS.assign ok 3 rfl (so _ (List.mem_of_getElem? (i := 3) rfl)) (EvX.call ok (gn__int2digits C hK) rfl (kp__int2digits C hK) (EvXs.cons ok (EvX.name ok 0 rfl) (EvXs.cons ok (EvX.name ok 2 rfl) EvXs.nil rfl) rfl) h__int2digits le__int2digits) rfl)
 (ExB.cons (ExS.assign ok 4 rfl (so _ (List.mem_of_getElem? (i := 4) rfl)) (EvF.x EvF.int) rfl)
 (ExB.cons (ExS.assignM ok 5 rfl (so _ (List.mem_of_getElem? (i := 5) rfl)) (EvF.lst ok EvXs.nil) rfl)
 (ExB.cons (ExS.for ok 6 rfl (so _ (List.mem_of_getElem? (i := 6) rfl)) (EvI.reversed ok (gn_reversed C hK) rfl (EvXs.cons ok (EvX.name ok 3 rfl) EvXs.nil rfl))
 (ExB.cons (ExS.unpack ok (EvX.call ok (gn__div2n1n C hK) rfl (kp__div2n1n C hK) (EvXs.cons ok (EvF.x (EvF.bin ok (EvF.x (EvF.bin ok (EvX.name ok 4 rfl) (EvX.name ok 2 rfl))) (EvX.name ok 6 rfl))) (EvXs.cons ok (EvX.name ok 1 rfl) (EvXs.cons ok (EvX.name ok 2 rfl) EvXs.nil rfl) rfl) rfl) h__div2n1n le__div2n1n) (Tgts.name 7 rfl (so _ (List.mem_of_getElem? (i := 7) rfl)) (Tgts.name 4 rfl (so _ (List.mem_of_getElem? (i := 4) rfl)) Tgts.nil)) rfl rfl rfl)
 (ExB.cons (ExS.append ok 5 rfl (EvX.name ok 7 rfl) rfl rfl)
 ExB.nil)))
 (ExB.cons (ExS.reverse ok 5 rfl rfl)
 (ExB.cons (ExS.frz 5 (ExS.assign ok 8 rfl (so _ (List.mem_of_getElem? (i := 8) rfl)) (EvX.call ok (gn__digits2int C hK) rfl (kp__digits2int C hK) (EvXs.cons ok (EvX.name ok 5 rfl) (EvXs.cons ok (EvX.name ok 2 rfl) EvXs.nil rfl) rfl) h__digits2int le__digits2int) rfl))
 (ExB.cons (ExS.ret ok (EvF.x (EvF.tup ok (EvXs.cons ok (EvX.name ok 8 rfl) (EvXs.cons ok (EvX.name ok 4 rfl) EvXs.nil rfl) rfl))))
 ExB.nil))))))))
noncomputable def nm_idm : List Str := [Str.ofString "a", Str.ofString "b", Str.ofString "q", Str.ofString "r"]
theorem fnok_idm (C : Cx) (hK : C.K = KK C.w.params) : FnOk C 56 (fnAt (KK C.w.params) 56) (bodyOf (defAt pw 7)) 2 nm_idm where
  at_ := by rw [hK]; exact ⟨_, _, _, rfl⟩
  code := by rw [hK]; kernel_rfl
  body := by rfl
  clo := rfl
  glob := rfl
  blt := rfl
  kind := rfl
  co := rfl
  gen := rfl
  bind := fun ws h => by
    obtain ⟨_, ws1, rfl, h1⟩ := len_s h
    obtain ⟨_, ws2, rfl, h2⟩ := len_s h1
    obtain rfl := len_z h2
    rfl
  kinds := kinds_of (by kernel_rfl) 2
  len := by decide
  okn := by decide
  nodup := by decide
  cnames := by rw [show (fnAt (KK C.w.params) 56).scope = scopeOf (defAt pw 7) from rfl]; decide
noncomputable def W_idm_1_0 (T_int_divmod : List V → (V → Prop) → Prop) (T__divmod_pos : List V → (V → Prop) → Prop) : WS := bCons sNever bNil
noncomputable def W_idm_3_1 (T_int_divmod : List V → (V → Prop) → Prop) (T__divmod_pos : List V → (V → Prop) → Prop) : WS := bCons (sRet (wTup (wCons (wName 2) (wCons (wUn .USub (wName 3)) wNil)))) bNil
noncomputable def W_idm_3_0 (T_int_divmod : List V → (V → Prop) → Prop) (T__divmod_pos : List V → (V → Prop) → Prop) : WS := bCons (sUnpack [2, 3] (wCall T_int_divmod (wCons (wUn .USub (wName 0)) (wCons (wUn .USub (wName 1)) wNil)))) (W_idm_3_1 T_int_divmod T__divmod_pos)
noncomputable def W_idm_5_1 (T_int_divmod : List V → (V → Prop) → Prop) (T__divmod_pos : List V → (V → Prop) → Prop) : WS := bCons (sRet (wTup (wCons (wUn .Invert (wName 2)) (wCons (wBin .Add (wName 1) (wUn .Invert (wName 3))) wNil)))) bNil
noncomputable def W_idm_5_0 (T_int_divmod : List V → (V → Prop) → Prop) (T__divmod_pos : List V → (V → Prop) → Prop) : WS := bCons (sUnpack [2, 3] (wCall T_int_divmod (wCons (wUn .Invert (wName 0)) (wCons (wName 1) wNil)))) (W_idm_5_1 T_int_divmod T__divmod_pos)
noncomputable def W_idm_6_0 (T_int_divmod : List V → (V → Prop) → Prop) (T__divmod_pos : List V → (V → Prop) → Prop) : WS := bCons (sRet (wCall T__divmod_pos (wCons (wName 0) (wCons (wName 1) wNil)))) bNil
noncomputable def W_idm_4_0 (T_int_divmod : List V → (V → Prop) → Prop) (T__divmod_pos : List V → (V → Prop) → Prop) : WS := bCons (sIte (cCmp .Lt (wName 0) (wInt 0))
 (W_idm_5_0 T_int_divmod T__divmod_pos)
 (W_idm_6_0 T_int_divmod T__divmod_pos)) bNil
noncomputable def W_idm_2_0 (T_int_divmod : List V → (V → Prop) → Prop) (T__divmod_pos : List V → (V → Prop) → Prop) : WS := bCons (sIte (cCmp .Lt (wName 1) (wInt 0))
 (W_idm_3_0 T_int_divmod T__divmod_pos)
 (W_idm_4_0 T_int_divmod T__divmod_pos)) bNil
noncomputable def W_idm (T_int_divmod : List V → (V → Prop) → Prop) (T__divmod_pos : List V → (V → Prop) → Prop) : WS := bCons (sIte (cCmp .Eq (wName 1) (wInt 0))
 (W_idm_1_0 T_int_divmod T__divmod_pos)
 (W_idm_2_0 T_int_divmod T__divmod_pos)) bNil
theorem ex_idm (C : Cx) (hK : C.K = KK C.w.params) {T_int_divmod : List V → (V → Prop) → Prop} {m_int_divmod : Nat} (h_int_divmod : PC C m_int_divmod (.ref 56) T_int_divmod) (le_int_divmod : m_int_divmod ≤ n) {T__divmod_pos : List V → (V → Prop) → Prop} {m__divmod_pos : Nat} (h__divmod_pos : PC C m__divmod_pos (.ref 49) T__divmod_pos) (le__divmod_pos : m__divmod_pos ≤ n) (A : Around) (L : Addr) (h₀ : Heap) (ok : FmOk C n (fnFm A (fnAt (KK C.w.params) 56) 56 L h₀ nm_idm)) :
    ExB C (fnFm A (fnAt (KK C.w.params) 56) 56 L h₀ nm_idm) (bodyOf (defAt pw 7)) (W_idm T_int_divmod T__divmod_pos) := by
  have so := stores_of (A := A) (fd := fnAt (KK C.w.params) 56) (f := 56) (L := L) (h₀ := h₀) (names := nm_idm) (by kernel_rfl)
  exact (ExB.cons (ExS.ite ok (EvC.cmp ok (EvX.name ok 1 rfl) (EvF.x EvF.int) rfl)
 (ExB.cons ExS.never
 ExB.nil)
 (ExB.cons (ExS.ite ok (EvC.cmp ok (EvX.name ok 1 rfl) (EvF.x EvF.int) rfl)
 (ExB.cons (ExS.unpack ok (EvX.call ok (gn_int_divmod C hK) rfl (kp_int_divmod C hK) (EvXs.cons ok (EvF.x (EvF.un (EvX.name ok 0 rfl))) (EvXs.cons ok (EvF.x (EvF.un (EvX.name ok 1 rfl))) EvXs.nil rfl) rfl) h_int_divmod le_int_divmod) (Tgts.name 2 rfl (so _ (List.mem_of_getElem? (i := 2) rfl)) (Tgts.name 3 rfl (so _ (List.mem_of_getElem? (i := 3) rfl)) Tgts.nil)) rfl rfl rfl)
 (ExB.cons (ExS.ret ok (EvF.x (EvF.tup ok (EvXs.cons ok (EvX.name ok 2 rfl) (EvXs.cons ok (EvF.x (EvF.un (EvX.name ok 3 rfl))) EvXs.nil rfl) rfl))))
 ExB.nil))
 (ExB.cons (ExS.ite ok (EvC.cmp ok (EvX.name ok 0 rfl) (EvF.x EvF.int) rfl)
 (ExB.cons (ExS.unpack ok (EvX.call ok (gn_int_divmod C hK) rfl (kp_int_divmod C hK) (EvXs.cons ok (EvF.x (EvF.un (EvX.name ok 0 rfl))) (EvXs.cons ok (EvX.name ok 1 rfl) EvXs.nil rfl) rfl) h_int_divmod le_int_divmod) (Tgts.name 2 rfl (so _ (List.mem_of_getElem? (i := 2) rfl)) (Tgts.name 3 rfl (so _ (List.mem_of_getElem? (i := 3) rfl)) Tgts.nil)) rfl rfl rfl)
 (ExB.cons (ExS.ret ok (EvF.x (EvF.tup ok (EvXs.cons ok (EvF.x (EvF.un (EvX.name ok 2 rfl))) (EvXs.cons ok (EvF.x (EvF.bin ok (EvX.name ok 1 rfl) (EvF.x (EvF.un (EvX.name ok 3 rfl))))) EvXs.nil rfl) rfl))))
 ExB.nil))
 (ExB.cons (ExS.ret ok (EvX.call ok (gn__divmod_pos C hK) rfl (kp__divmod_pos C hK) (EvXs.cons ok (EvX.name ok 0 rfl) (EvXs.cons ok (EvX.name ok 1 rfl) EvXs.nil rfl) rfl) h__divmod_pos le__divmod_pos))
 ExB.nil) ok)
 ExB.nil) ok)
 ExB.nil) ok)
 ExB.nil)
end
end Mine
end
section
open PySem PySem.Calls PyProof.Rows PySem.W PySem.Spec PySem.SeqAt
set_option Elab.async false
set_option maxRecDepth 100000
set_option linter.unusedVariables false
namespace Mine
noncomputable def nm_in1 : List Str := [Str.ofString "x", Str.ofString "L", Str.ofString "R", Str.ofString "mid", Str.ofString "shift", Str.ofString "upper", Str.ofString "lower", Str.ofString "n", Str.ofString "a_digits"]
noncomputable def W_in1_1_1 (T : List V → List Int → (V → List Int → Prop) → Prop) : WS := bCons sRetNone bNil
noncomputable def W_in1_1_0 (T : List V → List Int → (V → List Int → Prop) → Prop) : WS := bCons (sSetSub 8 (wName 1) (wName 0)) (W_in1_1_1 T)
noncomputable def W_in1_0_6 (T : List V → List Int → (V → List Int → Prop) → Prop) : WS := bCons (sCallM 8 T (wCons (wName 5) (wCons (wName 3) (wCons (wName 2) wNil)))) bNil
noncomputable def W_in1_0_5 (T : List V → List Int → (V → List Int → Prop) → Prop) : WS := bCons (sCallM 8 T (wCons (wName 6) (wCons (wName 1) (wCons (wName 3) wNil)))) (W_in1_0_6 T)
noncomputable def W_in1_0_4 (T : List V → List Int → (V → List Int → Prop) → Prop) : WS := bCons (sAssign 6 (wBin .BitXor (wName 0) (wBin .LShift (wName 5) (wName 4)))) (W_in1_0_5 T)
noncomputable def W_in1_0_3 (T : List V → List Int → (V → List Int → Prop) → Prop) : WS := bCons (sAssign 5 (wBin .RShift (wName 0) (wName 4))) (W_in1_0_4 T)
noncomputable def W_in1_0_2 (T : List V → List Int → (V → List Int → Prop) → Prop) : WS := bCons (sAssign 4 (wBin .Mult (wBin .Sub (wName 3) (wName 1)) (wName 7))) (W_in1_0_3 T)
noncomputable def W_in1_0_1 (T : List V → List Int → (V → List Int → Prop) → Prop) : WS := bCons (sAssign 3 (wBin .RShift (wBin .Add (wName 1) (wName 2)) (wInt 1))) (W_in1_0_2 T)
noncomputable def W_in1 (T : List V → List Int → (V → List Int → Prop) → Prop) : WS := bCons (sIte (cCmp .Eq (wBin .Add (wName 1) (wInt 1)) (wName 2))
 (W_in1_1_0 T)
 bNil) (W_in1_0_1 T)
theorem ex_in1 {C : Cx} {n m : Nat} {f : Addr} {fd : FuncData} {la : Addr} {T : List V → List Int → (V → List Int → Prop) → Prop} (hsc : fd.scope = scopeOf (subAt pw 4 1)) (hr : ∀ L h, C.K.In h → Rd (callEnv fd L f) h (Str.ofString "inner") (.ref f)) (hk : KeepOk C (.ref f))
    (hu : ∀ L h w, C.K.In h → Rd (callEnv fd L f) h (Str.ofString "a_digits") w → w = .ref la) (hT : PCM C m (.ref f) la T) (le : m ≤ n) (A : Around) (L : Addr) (h₀ : Heap) (ok : FmOk C n (cloFm A fd f L h₀ nm_in1)) :
    ExB C (cloFm A fd f L h₀ nm_in1) (bodyOf (subAt pw 4 1)) (W_in1 T) := by
  have so := stores_clo (A := A) (fd := fd) (f := f) (L := L) (h₀ := h₀) (names := nm_in1) (k := 7) (by rw [hsc]; kernel_rfl)
  replace hr := hr L
  replace hu := hu L
  exact (ExB.cons (ExS.ite ok (EvC.cmp ok (EvF.x (EvF.bin ok (EvX.name ok 1 rfl) (EvF.x EvF.int))) (EvX.name ok 2 rfl) rfl)
 (ExB.cons (ExS.setSub ok 8 rfl (EvX.name ok 1 rfl) (EvX.name ok 0 rfl) rfl)
 (ExB.cons ExS.retNone
 ExB.nil))
 ExB.nil ok)
 (ExB.cons (ExS.assign ok 3 rfl (so _ (List.mem_of_getElem? (i := 3) rfl)) (EvF.x (EvF.bin ok (EvF.x (EvF.bin ok (EvX.name ok 1 rfl) (EvX.name ok 2 rfl))) (EvF.x EvF.int))) rfl)
 (ExB.cons (ExS.assign ok 4 rfl (so _ (List.mem_of_getElem? (i := 4) rfl)) (EvF.x (EvF.bin ok (EvF.x (EvF.bin ok (EvX.name ok 3 rfl) (EvX.name ok 1 rfl))) (EvX.name ok 7 rfl))) rfl)
 (ExB.cons (ExS.assign ok 5 rfl (so _ (List.mem_of_getElem? (i := 5) rfl)) (EvF.x (EvF.bin ok (EvX.name ok 0 rfl) (EvX.name ok 4 rfl))) rfl)
 (ExB.cons (ExS.assign ok 6 rfl (so _ (List.mem_of_getElem? (i := 6) rfl)) (EvF.x (EvF.bin ok (EvX.name ok 0 rfl) (EvF.x (EvF.bin ok (EvX.name ok 5 rfl) (EvX.name ok 4 rfl))))) rfl)
 (ExB.cons (ExS.callM ok 8 rfl rfl hr hk hu (EvXs.cons ok (EvX.name ok 6 rfl) (EvXs.cons ok (EvX.name ok 1 rfl) (EvXs.cons ok (EvX.name ok 3 rfl) EvXs.nil rfl) rfl) rfl) hT le)
 (ExB.cons (ExS.callM ok 8 rfl rfl hr hk hu (EvXs.cons ok (EvX.name ok 5 rfl) (EvXs.cons ok (EvX.name ok 3 rfl) (EvXs.cons ok (EvX.name ok 2 rfl) EvXs.nil rfl) rfl) rfl) hT le)
 ExB.nil)))))))
noncomputable def nm_in2 : List Str := [Str.ofString "L", Str.ofString "R", Str.ofString "mid", Str.ofString "shift", Str.ofString "n"]
noncomputable def W_in2_1_0 (ds : List Int) (T : List V → (V → Prop) → Prop) : WS := bCons (sRet (wSubK ds (wName 0))) bNil
noncomputable def W_in2_0_3 (ds : List Int) (T : List V → (V → Prop) → Prop) : WS := bCons (sRet (wBin .Add (wBin .LShift (wCall T (wCons (wName 2) (wCons (wName 1) wNil))) (wName 3)) (wCall T (wCons (wName 0) (wCons (wName 2) wNil))))) bNil
noncomputable def W_in2_0_2 (ds : List Int) (T : List V → (V → Prop) → Prop) : WS := bCons (sAssign 3 (wBin .Mult (wBin .Sub (wName 2) (wName 0)) (wName 4))) (W_in2_0_3 ds T)
noncomputable def W_in2_0_1 (ds : List Int) (T : List V → (V → Prop) → Prop) : WS := bCons (sAssign 2 (wBin .RShift (wBin .Add (wName 0) (wName 1)) (wInt 1))) (W_in2_0_2 ds T)
noncomputable def W_in2 (ds : List Int) (T : List V → (V → Prop) → Prop) : WS := bCons (sIte (cCmp .Eq (wBin .Add (wName 0) (wInt 1)) (wName 1))
 (W_in2_1_0 ds T)
 bNil) (W_in2_0_1 ds T)
theorem ex_in2 {C : Cx} {n m : Nat} {f : Addr} {fd : FuncData} {ld : Addr} {ds : List Int} {T : List V → (V → Prop) → Prop} (hsc : fd.scope = scopeOf (subAt pw 5 0)) (hr : ∀ L h, C.K.In h → Rd (callEnv fd L f) h (Str.ofString "inner") (.ref f)) (hk : KeepOk C (.ref f))
    (hl : ∀ L h, C.K.In h → Rd (callEnv fd L f) h (Str.ofString "digits") (.ref ld)) (hd : ∀ h, C.K.In h → LI h ld ds) (hT : PC C m (.ref f) T) (le : m ≤ n) (A : Around) (L : Addr) (h₀ : Heap) (ok : FmOk C n (cloFm A fd f L h₀ nm_in2)) :
    ExB C (cloFm A fd f L h₀ nm_in2) (bodyOf (subAt pw 5 0)) (W_in2 ds T) := by
  have so := stores_clo (A := A) (fd := fd) (f := f) (L := L) (h₀ := h₀) (names := nm_in2) (k := 4) (by rw [hsc]; kernel_rfl)
  replace hr := hr L
  replace hl := hl L
  exact (ExB.cons (ExS.ite ok (EvC.cmp ok (EvF.x (EvF.bin ok (EvX.name ok 0 rfl) (EvF.x EvF.int))) (EvX.name ok 1 rfl) rfl)
 (ExB.cons (ExS.ret ok (EvX.subK ok rfl hl hd (EvX.name ok 0 rfl) rfl))
 ExB.nil)
 ExB.nil ok)
 (ExB.cons (ExS.assign ok 2 rfl (so _ (List.mem_of_getElem? (i := 2) rfl)) (EvF.x (EvF.bin ok (EvF.x (EvF.bin ok (EvX.name ok 0 rfl) (EvX.name ok 1 rfl))) (EvF.x EvF.int))) rfl)
 (ExB.cons (ExS.assign ok 3 rfl (so _ (List.mem_of_getElem? (i := 3) rfl)) (EvF.x (EvF.bin ok (EvF.x (EvF.bin ok (EvX.name ok 2 rfl) (EvX.name ok 0 rfl))) (EvX.name ok 4 rfl))) rfl)
 (ExB.cons (ExS.ret ok (EvF.x (EvF.bin ok (EvF.x (EvF.bin ok (EvX.callK ok rfl hr hk (EvXs.cons ok (EvX.name ok 2 rfl) (EvXs.cons ok (EvX.name ok 1 rfl) EvXs.nil rfl) rfl) hT le) (EvX.name ok 3 rfl))) (EvX.callK ok rfl hr hk (EvXs.cons ok (EvX.name ok 0 rfl) (EvXs.cons ok (EvX.name ok 2 rfl) EvXs.nil rfl) rfl) hT le))))
 ExB.nil))))
end Mine
end
section
open PySem PySem.Calls PyProof.Rows PySem.W PySem.Spec PySem.SeqAt
set_option Elab.async false
set_option maxRecDepth 100000
set_option linter.unusedVariables false
namespace Mine
noncomputable def nm_i2d : List Str := [Str.ofString "a", Str.ofString "n", Str.ofString "a_digits", Str.ofString "inner"]
theorem fnok_i2d (C : Cx) (hK : C.K = KK C.w.params) : FnOk C 35 (fnAt (KK C.w.params) 35) (bodyOf (defAt pw 4)) 2 nm_i2d where
  at_ := by rw [hK]; exact ⟨_, _, _, rfl⟩
  code := by rw [hK]; kernel_rfl
  body := by rfl
  clo := rfl
  glob := rfl
  blt := rfl
  kind := rfl
  co := rfl
  gen := rfl
  bind := fun ws h => by
    obtain ⟨_, ws1, rfl, h1⟩ := len_s h
    obtain ⟨_, ws2, rfl, h2⟩ := len_s h1
    obtain rfl := len_z h2
    rfl
  kinds := kinds_of (by kernel_rfl) 2
  len := by decide
  okn := by decide
  nodup := by decide
  cnames := by rw [show (fnAt (KK C.w.params) 35).scope = scopeOf (defAt pw 4) from rfl]; decide
noncomputable def nm_d2i : List Str := [Str.ofString "digits", Str.ofString "n", Str.ofString "inner"]
theorem fnok_d2i (C : Cx) (hK : C.K = KK C.w.params) : FnOk C 42 (fnAt (KK C.w.params) 42) (bodyOf (defAt pw 5)) 2 nm_d2i where
  at_ := by rw [hK]; exact ⟨_, _, _, rfl⟩
  code := by rw [hK]; kernel_rfl
  body := by rfl
  clo := rfl
  glob := rfl
  blt := rfl
  kind := rfl
  co := rfl
  gen := rfl
  bind := fun ws h => by
    obtain ⟨_, ws1, rfl, h1⟩ := len_s h
    obtain ⟨_, ws2, rfl, h2⟩ := len_s h1
    obtain rfl := len_z h2
    rfl
  kinds := kinds_of (by kernel_rfl) 2
  len := by decide
  okn := by decide
  nodup := by decide
  cnames := by rw [show (fnAt (KK C.w.params) 42).scope = scopeOf (defAt pw 5) from rfl]; decide
noncomputable def W_i2d_head : WS := (sAssignM 2 (wBin .Mult (wLst (wCons (wInt 0) wNil)) (wBin .FloorDiv (wBin .Sub (wBin .Add (wBitLen (wName 0)) (wName 1)) (wInt 1)) (wName 1))))
theorem ex_i2d_head (C : Cx) (hK : C.K = KK C.w.params) {n : Nat} (A : Around) (L : Addr) (h₀ : Heap) (ok : FmOk C n (fnFm A (fnAt (KK C.w.params) 35) 35 L h₀ nm_i2d)) :
    ExS C (fnFm A (fnAt (KK C.w.params) 35) 35 L h₀ nm_i2d) (subAt pw 4 0) W_i2d_head := by
  have so := stores_of (A := A) (fd := fnAt (KK C.w.params) 35) (f := 35) (L := L) (h₀ := h₀) (names := nm_i2d) (by kernel_rfl)
  exact (ExS.assignM ok 2 rfl (so _ (List.mem_of_getElem? (i := 2) rfl)) (EvF.bin ok (EvF.x (EvF.lst ok (EvXs.cons ok (EvF.x EvF.int) EvXs.nil rfl))) (EvF.x (EvF.bin ok (EvF.x (EvF.bin ok (EvF.x (EvF.bin ok (EvX.bitLength (EvX.name ok 0 rfl) rfl) (EvX.name ok 1 rfl))) (EvF.x EvF.int))) (EvX.name ok 1 rfl)))) rfl)
noncomputable def W_i2dr_1_0 (T : List V → List Int → (V → List Int → Prop) → Prop) : WS := bCons (sCallM 2 T (wCons (wName 0) (wCons (wInt 0) (wCons (wLenM 2) wNil)))) bNil
noncomputable def W_i2dr_0_1 (T : List V → List Int → (V → List Int → Prop) → Prop) : WS := bCons (sFrz 2 (sRet (wName 2))) bNil
noncomputable def W_i2dr (T : List V → List Int → (V → List Int → Prop) → Prop) : WS := bCons (sIte (cPlain (wName 0))
 (W_i2dr_1_0 T)
 bNil) (W_i2dr_0_1 T)
theorem ex_i2dr {C : Cx} {F : Fm} {n m : Nat} {f la : Addr} {T : List V → List Int → (V → List Int → Prop) → Prop} (hnm : F.names = nm_i2d) (gl : GN C (Str.ofString "len") (.builtin "len")) (hlen : F.env.kindOf (Str.ofString "len") = some .globalImplicit)
    (hr : ∀ h, C.K.In h → Rd F.env h (Str.ofString "inner") (.ref f)) (hk : KeepOk C (.ref f))
    (hu : ∀ h w, C.K.In h → Rd F.env h (Str.ofString "a_digits") w → w = .ref la) (hT : PCM C m (.ref f) la T) (le : m ≤ n) (ok : FmOk C n F) : ExB C F ((bodyOf (defAt pw 4)).drop 2) (W_i2dr T) := by
  obtain ⟨A, env, h₀, cells, names⟩ := F
  subst hnm
  exact (ExB.cons (ExS.ite ok (EvC.plain (EvX.name ok 0 rfl) rfl)
 (ExB.cons (ExS.callM ok 2 rfl rfl hr hk hu (EvXs.cons ok (EvX.name ok 0 rfl) (EvXs.cons ok (EvF.x EvF.int) (EvXs.cons ok (EvX.lenM ok 2 rfl gl hlen) EvXs.nil rfl) rfl) rfl) hT le)
 ExB.nil)
 ExB.nil ok)
 (ExB.cons (ExS.frz 2 (ExS.ret ok (EvX.name ok 2 rfl)))
 ExB.nil))
noncomputable def W_d2ir (T : List V → (V → Prop) → Prop) : WS := bCons (sRet (wIf (cPlain (wName 0)) (wCall T (wCons (wInt 0) (wCons (wCall lenT (wCons (wName 0) wNil)) wNil))) (wInt 0))) bNil
theorem ex_d2ir {C : Cx} {F : Fm} {n m : Nat} {f : Addr} {T : List V → (V → Prop) → Prop} (hnm : F.names = nm_d2i) (gl : GN C (Str.ofString "len") (.builtin "len")) (hlen : F.env.kindOf (Str.ofString "len") = some .globalImplicit)
    (hr : ∀ h, C.K.In h → Rd F.env h (Str.ofString "inner") (.ref f)) (hk : KeepOk C (.ref f)) (hT : PC C m (.ref f) T) (le : m ≤ n) (ok : FmOk C n F) : ExB C F ((bodyOf (defAt pw 5)).drop 1) (W_d2ir T) := by
  obtain ⟨A, env, h₀, cells, names⟩ := F
  subst hnm
  exact (ExB.cons (ExS.ret ok (EvX.ifExp ok (EvC.plain (EvX.name ok 0 rfl) rfl) (EvX.callK ok rfl hr hk (EvXs.cons ok (EvF.x EvF.int) (EvXs.cons ok (EvX.call ok gl hlen (.inl ⟨_, rfl⟩) (EvXs.cons ok (EvX.name ok 0 rfl) EvXs.nil rfl) pc_len (Nat.zero_le _)) EvXs.nil rfl) rfl) hT le) (EvF.x EvF.int)))
 ExB.nil)
end Mine
end
section
open PySem PySem.Calls PyProof.Rows PySem.W PySem.Spec PySem.SeqAt
set_option Elab.async false
set_option maxRecDepth 100000
set_option linter.unusedVariables false
namespace Mine
noncomputable def nm_pv : List Str := [Str.ofString "iterator", Str.ofString "b", Str.ofString "val"]
theorem clok_pv (C : Cx) (hK : C.K = KK C.w.params) : CloOk C 63 (fnAt (KK C.w.params) 63) (bodyOf (defAt pw 9)) 1 nm_pv where
  at_ := fun h inK => by rw [hK] at inK; exact inK 63 _ rfl
  code := fun h inK => codeRec_of inK (by rw [hK]; kernel_rfl)
  body := by rfl
  glob := rfl
  blt := rfl
  kind := rfl
  co := rfl
  gen := rfl
  bind := fun ws h => by
    obtain ⟨_, ws1, rfl, h1⟩ := len_s h
    obtain rfl := len_z h1
    rfl
  kinds := by rw [show (fnAt (KK C.w.params) 63).scope = scopeOf (defAt pw 9) from rfl]; decide
  nocell := by rw [show (fnAt (KK C.w.params) 63).scope = scopeOf (defAt pw 9) from rfl]; decide
  len := by decide
  okn := by decide
  nodup := by decide
  cells := fun h inK c hc => by rw [show (fnAt (KK C.w.params) 63).closure = [] from rfl] at hc; cases hc
  cnd := by rw [show (fnAt (KK C.w.params) 63).closure = [] from rfl]; exact List.nodup_nil
  cG := fun c hc => by rw [show (fnAt (KK C.w.params) 63).closure = [] from rfl] at hc; cases hc
theorem gn__parse_varint (C : Cx) (hK : C.K = KK C.w.params) : GN C (Str.ofString "_parse_varint") (.ref 63) := ⟨by decide, .inl (by rw [hK]; kernel_rfl)⟩
theorem kp__parse_varint (C : Cx) (hK : C.K = KK C.w.params) : KeepOk C (.ref 63) := .inr (.inr (by rw [hK]; kernel_rfl))
theorem gn_StopIteration (C : Cx) (hK : C.K = KK C.w.params) : GN C (Str.ofString "StopIteration") (.type "StopIteration") := ⟨by decide, .inr ⟨by rw [hK]; kernel_rfl, by decide +kernel, by decide⟩⟩
noncomputable def W_pv_1 : WSX := xCons (xLift (sAug 2 .LShift (wInt 6))) (xCons (xNext 0 1) (xCons (xLift (sAug 2 .BitOr (wBin .BitAnd (wName 1) (wInt 63)))) xNil))
noncomputable def W_pv_0_2 : WSX := xCons (xWhile (cPlain (wBin .BitAnd (wName 1) (wInt 64))) W_pv_1) (xLift (bCons (sRet (wName 2)) bNil))
noncomputable def W_pv : WSX := xCons (xNext 0 1) (xCons (xLift (sAssign 2 (wBin .BitAnd (wName 1) (wInt 63)))) W_pv_0_2)
theorem ex_pv (C : Cx) (hK : C.K = KK C.w.params) {n : Nat} (l : List (Addr × Obj)) (hl : FrL C l) (A : Around) (L : Addr) (h₀ : Heap) (outer : List Env) (fx : FX l (cloFm A (fnAt (KK C.w.params) 63) 63 L h₀ nm_pv) outer) (ok : FmOk (frC C l hl) n (cloFm A (fnAt (KK C.w.params) 63) 63 L h₀ nm_pv)) :
    ExBX (XF (frC C l hl) (cloFm A (fnAt (KK C.w.params) 63) 63 L h₀ nm_pv) outer) (frC C l hl) (cloFm A (fnAt (KK C.w.params) 63) 63 L h₀ nm_pv) (bodyOf (defAt pw 9)) W_pv := by
  have so := stores_clo (A := A) (fd := fnAt (KK C.w.params) 63) (f := 63) (L := L) (h₀ := h₀) (names := nm_pv) (k := 3) (by kernel_rfl)
  have hK' : (frC C l hl).K = KK (frC C l hl).w.params := hK
  exact ExBX.cons (ExSX.next fx ok 0 1 rfl rfl (so _ (List.mem_of_getElem? (i := 1) rfl)) (gn_next _ hK') rfl)
    (ExBX.cons (ExSX.lift (ExS.assign ok 2 rfl (so _ (List.mem_of_getElem? (i := 2) rfl)) (EvF.x (EvF.bin ok (EvX.name ok 1 rfl) (EvF.x EvF.int))) rfl))
    (ExBX.cons (ExSX.while (xcl fx.hf fx.fr) ok (EvC.plain (EvF.x (EvF.bin ok (EvX.name ok 1 rfl) (EvF.x EvF.int))) rfl)
      (ExBX.cons (ExSX.lift (ExS.aug ok 2 rfl (so _ (List.mem_of_getElem? (i := 2) rfl)) (EvF.x EvF.int)))
      (ExBX.cons (ExSX.next fx ok 0 1 rfl rfl (so _ (List.mem_of_getElem? (i := 1) rfl)) (gn_next _ hK') rfl)
      (ExBX.cons (ExSX.lift (ExS.aug ok 2 rfl (so _ (List.mem_of_getElem? (i := 2) rfl)) (EvF.x (EvF.bin ok (EvX.name ok 1 rfl) (EvF.x EvF.int))))) ExBX.nil))))
    (ExBX.lift (ExB.cons (ExS.ret ok (EvX.name ok 2 rfl)) ExB.nil))))
end Mine
end
section
open PySem PySem.Calls PyProof.Rows PySem.W PySem.Spec PySem.SeqAt
set_option Elab.async false
set_option maxRecDepth 100000
set_option linter.unusedVariables false
namespace Mine
theorem gn__law_goes (C : Cx) (hK : C.K = KK C.w.params) : GN C (Str.ofString "_law_goes") (.ref 68) := ⟨by decide, .inl (by rw [hK]; kernel_rfl)⟩
theorem kp__law_goes (C : Cx) (hK : C.K = KK C.w.params) : KeepOk C (.ref 68) := .inr (.inr (by rw [hK]; kernel_rfl))
theorem gn__law_rows (C : Cx) (hK : C.K = KK C.w.params) : GN C (Str.ofString "_law_rows") (.ref 73) := ⟨by decide, .inl (by rw [hK]; kernel_rfl)⟩
theorem kp__law_rows (C : Cx) (hK : C.K = KK C.w.params) : KeepOk C (.ref 73) := .inr (.inr (by rw [hK]; kernel_rfl))
theorem gn__law_told (C : Cx) (hK : C.K = KK C.w.params) : GN C (Str.ofString "_law_told") (.ref 78) := ⟨by decide, .inl (by rw [hK]; kernel_rfl)⟩
theorem kp__law_told (C : Cx) (hK : C.K = KK C.w.params) : KeepOk C (.ref 78) := .inr (.inr (by rw [hK]; kernel_rfl))
theorem gn__law_walk (C : Cx) (hK : C.K = KK C.w.params) : GN C (Str.ofString "_law_walk") (.ref 85) := ⟨by decide, .inl (by rw [hK]; kernel_rfl)⟩
theorem kp__law_walk (C : Cx) (hK : C.K = KK C.w.params) : KeepOk C (.ref 85) := .inr (.inr (by rw [hK]; kernel_rfl))
theorem gn__law_octets (C : Cx) (hK : C.K = KK C.w.params) : GN C (Str.ofString "_law_octets") (.ref 92) := ⟨by decide, .inl (by rw [hK]; kernel_rfl)⟩
theorem kp__law_octets (C : Cx) (hK : C.K = KK C.w.params) : KeepOk C (.ref 92) := .inr (.inr (by rw [hK]; kernel_rfl))
theorem gn__law_read (C : Cx) (hK : C.K = KK C.w.params) : GN C (Str.ofString "_law_read") (.ref 99) := ⟨by decide, .inl (by rw [hK]; kernel_rfl)⟩
theorem kp__law_read (C : Cx) (hK : C.K = KK C.w.params) : KeepOk C (.ref 99) := .inr (.inr (by rw [hK]; kernel_rfl))
section
variable {n : Nat}
noncomputable def nm_goes : List Str := [Str.ofString "size", Str.ofString "deck", Str.ofString "upper", Str.ofString "lower", Str.ofString "out", Str.ofString "inward"]
theorem fnok_goes (C : Cx) (hK : C.K = KK C.w.params) : FnOk C 68 (fnAt (KK C.w.params) 68) (bodyOf (defAt pw 11)) 1 nm_goes where
  at_ := by rw [hK]; exact ⟨_, _, _, rfl⟩
  code := by rw [hK]; kernel_rfl
  body := by rfl
  clo := rfl
  glob := rfl
  blt := rfl
  kind := rfl
  co := rfl
  gen := rfl
  bind := fun ws h => by
    obtain ⟨_, ws1, rfl, h1⟩ := len_s h
    obtain rfl := len_z h1
    rfl
  kinds := kinds_of (by kernel_rfl) 1
  len := by decide
  okn := by decide
  nodup := by decide
  cnames := by rw [show (fnAt (KK C.w.params) 68).scope = scopeOf (defAt pw 11) from rfl]; decide
noncomputable def W_goes_0_4 : WS := bCons (sRet (wComp (iSeq (wTup (wCons (wName 4) (wCons (wName 5) wNil)))) 1 [1] (wOne (wComp (iSeq (wName 1)) 1 [0] (wOne (wIndex (wName 1) (wName 0))))))) bNil
noncomputable def W_goes_0_3 : WS := bCons (sAssign 5 (wComp (iZip (wCons (wName 3) (wCons (wName 2) wNil))) 2 [] (wNst 1 (iSeq (wName 0)) (wOne (wName 1))))) W_goes_0_4
noncomputable def W_goes_0_2 : WS := bCons (sAssign 4 (wComp (iZip (wCons (wName 2) (wCons (wName 3) wNil))) 2 [] (wNst 1 (iSeq (wName 0)) (wOne (wName 1))))) W_goes_0_3
noncomputable def W_goes_0_1 : WS := bCons (sSwap 2 [3, 2] (wTup (wCons (wCut (wName 1) pNone (pSome (wBin .FloorDiv (wName 0) (wInt 2))) pNone) (wCons (wCut (wName 1) (pSome (wBin .FloorDiv (wName 0) (wInt 2))) pNone pNone) wNil)))) W_goes_0_2
noncomputable def W_goes : WS := bCons (sAssign 1 (wLRange (wCons (wName 0) wNil))) W_goes_0_1
theorem ex_goes (C : Cx) (hK : C.K = KK C.w.params) (A : Around) (L : Addr) (h₀ : Heap) (ok : FmOk C n (fnFm A (fnAt (KK C.w.params) 68) 68 L h₀ nm_goes)) :
    ExB C (fnFm A (fnAt (KK C.w.params) 68) 68 L h₀ nm_goes) (bodyOf (defAt pw 11)) (W_goes) := by
  have so := stores_of (A := A) (fd := fnAt (KK C.w.params) 68) (f := 68) (L := L) (h₀ := h₀) (names := nm_goes) (by kernel_rfl)
  exact (ExB.cons (ExS.assign ok 1 rfl (so _ (List.mem_of_getElem? (i := 1) rfl)) (EvF.x (EvF.listRange ok (gn_list C hK) rfl (gn_range C hK) rfl (EvXs.cons ok (EvX.name ok 0 rfl) EvXs.nil rfl))) rfl)
 (ExB.cons (ExS.swap (names := [Str.ofString "upper", Str.ofString "lower"]) ok (EvF.x (EvF.tup ok (EvXs.cons ok (EvF.x (EvF.cut ok (EvX.name ok 1 rfl) EvP.none (EvP.some (EvF.x (EvF.bin ok (EvX.name ok 0 rfl) (EvF.x EvF.int)))) EvP.none)) (EvXs.cons ok (EvF.x (EvF.cut ok (EvX.name ok 1 rfl) (EvP.some (EvF.x (EvF.bin ok (EvX.name ok 0 rfl) (EvF.x EvF.int)))) EvP.none EvP.none)) EvXs.nil rfl) rfl))) (Tgts.bindName 3 rfl (so _ (List.mem_of_getElem? (i := 3) rfl)) (Tgts.bindName 2 rfl (so _ (List.mem_of_getElem? (i := 2) rfl)) Tgts.nil)) rfl rfl)
 (ExB.cons (ExS.assignComp2 ok 4 rfl (so _ (List.mem_of_getElem? (i := 4) rfl)) (cl := []) (tg := [Str.ofString "pair", Str.ofString "card"]) (cx := []) (js := []) { clos := by kernel_rfl, kind := rfl, locs := by decide, lk := (fun _ h => nomatch h), nd := by simp, okn := by decide, nodup := by decide, caps := fun _ => rfl } (EvI2.zip ok (gn_zip C hK) rfl (EvXs.cons ok (EvX.name ok 2 rfl) (EvXs.cons ok (EvX.name ok 3 rfl) EvXs.nil rfl) rfl)) rfl (fun L1 _ => .inl rfl) rfl (fun L1 _ => .inl rfl) (fun L1 _ ok => (EvI.seq ok (EvX.name ok 0 rfl) rfl)) (fun _ _ => rfl) (fun L1 _ ok => (EvX.name ok 1 rfl)) (by kernel_rfl))
 (ExB.cons (ExS.assignComp2 ok 5 rfl (so _ (List.mem_of_getElem? (i := 5) rfl)) (cl := []) (tg := [Str.ofString "pair", Str.ofString "card"]) (cx := []) (js := []) { clos := by kernel_rfl, kind := rfl, locs := by decide, lk := (fun _ h => nomatch h), nd := by simp, okn := by decide, nodup := by decide, caps := fun _ => rfl } (EvI2.zip ok (gn_zip C hK) rfl (EvXs.cons ok (EvX.name ok 3 rfl) (EvXs.cons ok (EvX.name ok 2 rfl) EvXs.nil rfl) rfl)) rfl (fun L1 _ => .inl rfl) rfl (fun L1 _ => .inl rfl) (fun L1 _ ok => (EvI.seq ok (EvX.name ok 0 rfl) rfl)) (fun _ _ => rfl) (fun L1 _ ok => (EvX.name ok 1 rfl)) (by kernel_rfl))
 (ExB.cons (ExS.ret ok (EvF.x (EvF.comp1 ok (cl := [(Str.ofString "deck", L + 1)]) (tg := [Str.ofString "dealt"]) (cx := [Str.ofString "deck"]) (js := [1]) { clos := by kernel_rfl, kind := rfl, locs := by decide, lk := (List.forall_mem_cons.mpr ⟨rfl, (fun _ h => nomatch h)⟩), nd := by simp, okn := by decide, nodup := by decide, caps := fun _ => (Caps.cons 1 (Str.ofString "deck") (L + 1) rfl rfl rfl rfl rfl rfl) } (EvI.seq ok (EvF.x (EvF.tup ok (EvXs.cons ok (EvX.name ok 4 rfl) (EvXs.cons ok (EvX.name ok 5 rfl) EvXs.nil rfl) rfl))) rfl) rfl (fun L1 _ => .inr ⟨rfl, L1 + 1, List.Mem.head _, rfl⟩) (fun L1 _ ok => (EvF.x (EvF.comp1 ok (cl := [(Str.ofString "dealt", L1 + 1)]) (tg := [Str.ofString "card"]) (cx := [Str.ofString "dealt"]) (js := [0]) { clos := by kernel_rfl, kind := rfl, locs := by decide, lk := (List.forall_mem_cons.mpr ⟨rfl, (fun _ h => nomatch h)⟩), nd := by simp, okn := by decide, nodup := by decide, caps := fun _ => (Caps.cons 0 (Str.ofString "dealt") (L1 + 1) rfl rfl rfl rfl rfl rfl) } (EvI.seq ok (EvX.name ok 1 rfl) rfl) rfl (fun L2 _ => .inl rfl) (fun L2 _ ok => (EvX.index ok (EvX.name ok 1 rfl) (EvX.name ok 0 rfl) rfl rfl))))))))
 ExB.nil)))))
noncomputable def nm_rows : List Str := [Str.ofString "goes", Str.ofString "place", Str.ofString "goal", Str.ofString "count", Str.ofString "places", Str.ofString "turn"]
theorem fnok_rows (C : Cx) (hK : C.K = KK C.w.params) : FnOk C 73 (fnAt (KK C.w.params) 73) (bodyOf (defAt pw 12)) 4 nm_rows where
  at_ := by rw [hK]; exact ⟨_, _, _, rfl⟩
  code := by rw [hK]; kernel_rfl
  body := by rfl
  clo := rfl
  glob := rfl
  blt := rfl
  kind := rfl
  co := rfl
  gen := rfl
  bind := fun ws h => by
    obtain ⟨_, ws1, rfl, h1⟩ := len_s h
    obtain ⟨_, ws2, rfl, h2⟩ := len_s h1
    obtain ⟨_, ws3, rfl, h3⟩ := len_s h2
    obtain ⟨_, ws4, rfl, h4⟩ := len_s h3
    obtain rfl := len_z h4
    rfl
  kinds := kinds_of (by kernel_rfl) 4
  len := by decide
  okn := by decide
  nodup := by decide
  cnames := by rw [show (fnAt (KK C.w.params) 73).scope = scopeOf (defAt pw 12) from rfl]; decide
noncomputable def W_rows_1_0 : WS := bCons (sAssign 4 (wComp (iSeq (wName 4)) 2 [0] (wNst 1 (iSeq (wName 2)) (wOne (wSub (wName 1) (wName 0)))))) bNil
noncomputable def W_rows_0_2 : WS := bCons (sRet (wComp (iRange (wCons (wBin .Pow (wInt 2) (wName 3)) wNil)) 1 [4, 2] (wTst (cCmp .Eq (wSub (wName 1) (wName 0)) (wName 2)) (wOne (wName 0))))) bNil
noncomputable def W_rows_0_1 : WS := bCons (sFor 5 (iRange (wCons (wName 3) wNil))
 W_rows_1_0) W_rows_0_2
noncomputable def W_rows : WS := bCons (sAssign 4 (wLst (wCons (wName 1) wNil))) W_rows_0_1
theorem ex_rows (C : Cx) (hK : C.K = KK C.w.params) (A : Around) (L : Addr) (h₀ : Heap) (ok : FmOk C n (fnFm A (fnAt (KK C.w.params) 73) 73 L h₀ nm_rows)) :
    ExB C (fnFm A (fnAt (KK C.w.params) 73) 73 L h₀ nm_rows) (bodyOf (defAt pw 12)) (W_rows) := by
  have so := stores_of (A := A) (fd := fnAt (KK C.w.params) 73) (f := 73) (L := L) (h₀ := h₀) (names := nm_rows) (by kernel_rfl)
  exact (ExB.cons (ExS.assign ok 4 rfl (so _ (List.mem_of_getElem? (i := 4) rfl)) (EvF.x (EvF.lst ok (EvXs.cons ok (EvX.name ok 1 rfl) EvXs.nil rfl))) rfl)
 (ExB.cons (ExS.for ok 5 rfl (so _ (List.mem_of_getElem? (i := 5) rfl)) (EvI.range ok (gn_range C hK) rfl (EvXs.cons ok (EvX.name ok 3 rfl) EvXs.nil rfl))
 (ExB.cons (ExS.assignC ok 4 rfl (so _ (List.mem_of_getElem? (i := 4) rfl)) (EvF.x (EvF.comp2 ok (cl := [(Str.ofString "goes", L + 1)]) (tg := [Str.ofString "at", Str.ofString "go"]) (cx := [Str.ofString "goes"]) (js := [0]) { clos := by kernel_rfl, kind := rfl, locs := by decide, lk := (List.forall_mem_cons.mpr ⟨rfl, (fun _ h => nomatch h)⟩), nd := by simp, okn := by decide, nodup := by decide, caps := fun _ => (Caps.cons 0 (Str.ofString "goes") (L + 1) rfl rfl rfl rfl rfl rfl) } (EvI.seq ok (EvX.name ok 4 rfl) rfl).c rfl (fun L1 _ => .inl rfl) rfl (fun L1 _ => .inl rfl) (fun L1 _ ok => (EvI.seq ok (EvX.name ok 2 rfl) rfl)) (fun _ _ => rfl) (fun L1 _ ok => (EvX.sub ok (EvX.name ok 1 rfl) (EvX.name ok 0 rfl) rfl)))) (by kernel_rfl))
 ExB.nil))
 (ExB.cons (ExS.ret ok (EvF.x (EvF.compT ok (cl := [(Str.ofString "places", L + 3), (Str.ofString "goal", L + 2)]) (tg := [Str.ofString "row"]) (cx := [Str.ofString "places", Str.ofString "goal"]) (js := [4, 2]) { clos := by kernel_rfl, kind := rfl, locs := by decide, lk := (List.forall_mem_cons.mpr ⟨rfl, (List.forall_mem_cons.mpr ⟨rfl, (fun _ h => nomatch h)⟩)⟩), nd := by simp, okn := by decide, nodup := by decide, caps := fun _ => (Caps.cons 4 (Str.ofString "places") (L + 3) rfl rfl rfl rfl rfl (Caps.cons 2 (Str.ofString "goal") (L + 2) rfl rfl rfl rfl rfl rfl)) } (EvI.range ok (gn_range C hK) rfl (EvXs.cons ok (EvF.x (EvF.bin ok (EvF.x EvF.int) (EvX.name ok 3 rfl))) EvXs.nil rfl)) rfl (fun L1 _ => .inl rfl) (fun L1 _ ok => (EvC.cmp ok (EvX.sub ok (EvX.name ok 1 rfl) (EvX.name ok 0 rfl) rfl) (EvX.name ok 2 rfl) rfl)) (fun L1 _ ok => (EvX.name ok 0 rfl)))))
 ExB.nil)))
noncomputable def nm_told : List Str := [Str.ofString "size", Str.ofString "place", Str.ofString "goal", Str.ofString "count", Str.ofString "quotient", Str.ofString "rest"]
theorem fnok_told (C : Cx) (hK : C.K = KK C.w.params) : FnOk C 78 (fnAt (KK C.w.params) 78) (bodyOf (defAt pw 13)) 4 nm_told where
  at_ := by rw [hK]; exact ⟨_, _, _, rfl⟩
  code := by rw [hK]; kernel_rfl
  body := by rfl
  clo := rfl
  glob := rfl
  blt := rfl
  kind := rfl
  co := rfl
  gen := rfl
  bind := fun ws h => by
    obtain ⟨_, ws1, rfl, h1⟩ := len_s h
    obtain ⟨_, ws2, rfl, h2⟩ := len_s h1
    obtain ⟨_, ws3, rfl, h3⟩ := len_s h2
    obtain ⟨_, ws4, rfl, h4⟩ := len_s h3
    obtain rfl := len_z h4
    rfl
  kinds := kinds_of (by kernel_rfl) 4
  len := by decide
  okn := by decide
  nodup := by decide
  cnames := by rw [show (fnAt (KK C.w.params) 78).scope = scopeOf (defAt pw 13) from rfl]; decide
noncomputable def W_told_0_1 (T_int_divmod : List V → (V → Prop) → Prop) : WS := bCons (sRet (wComp (iRange (wCons (wBin .Add (wBin .FloorDiv (wBin .Add (wBin .Sub (wBin .Pow (wInt 2) (wName 3)) (wInt 1)) (wName 5)) (wName 0)) (wInt 1)) wNil)) 1 [0, 5, 4] (wOne (wBin .BitXor (wBin .Sub (wBin .Mult (wName 1) (wName 0)) (wName 2)) (wBin .Sub (wName 0) (wName 3)))))) bNil
noncomputable def W_told (T_int_divmod : List V → (V → Prop) → Prop) : WS := bCons (sUnpack [4, 5] (wCall T_int_divmod (wCons (wBin .Sub (wBin .LShift (wName 1) (wName 3)) (wName 2)) (wCons (wUn .USub (wName 0)) wNil)))) (W_told_0_1 T_int_divmod)
theorem ex_told (C : Cx) (hK : C.K = KK C.w.params) {T_int_divmod : List V → (V → Prop) → Prop} {m_int_divmod : Nat} (h_int_divmod : PC C m_int_divmod (.ref 56) T_int_divmod) (le_int_divmod : m_int_divmod ≤ n) (A : Around) (L : Addr) (h₀ : Heap) (ok : FmOk C n (fnFm A (fnAt (KK C.w.params) 78) 78 L h₀ nm_told)) :
    ExB C (fnFm A (fnAt (KK C.w.params) 78) 78 L h₀ nm_told) (bodyOf (defAt pw 13)) (W_told T_int_divmod) := by
  have so := stores_of (A := A) (fd := fnAt (KK C.w.params) 78) (f := 78) (L := L) (h₀ := h₀) (names := nm_told) (by kernel_rfl)
  exact (ExB.cons (ExS.unpack ok (EvX.call ok (gn_int_divmod C hK) rfl (kp_int_divmod C hK) (EvXs.cons ok (EvF.x (EvF.bin ok (EvF.x (EvF.bin ok (EvX.name ok 1 rfl) (EvX.name ok 3 rfl))) (EvX.name ok 2 rfl))) (EvXs.cons ok (EvF.x (EvF.un (EvX.name ok 0 rfl))) EvXs.nil rfl) rfl) h_int_divmod le_int_divmod) (Tgts.name 4 rfl (so _ (List.mem_of_getElem? (i := 4) rfl)) (Tgts.name 5 rfl (so _ (List.mem_of_getElem? (i := 5) rfl)) Tgts.nil)) rfl rfl rfl)
 (ExB.cons (ExS.ret ok (EvF.x (EvF.comp1 ok (cl := [(Str.ofString "size", L + 1), (Str.ofString "rest", L + 3), (Str.ofString "quotient", L + 2)]) (tg := [Str.ofString "k"]) (cx := [Str.ofString "size", Str.ofString "rest", Str.ofString "quotient"]) (js := [0, 5, 4]) { clos := by kernel_rfl, kind := rfl, locs := by decide, lk := (List.forall_mem_cons.mpr ⟨rfl, (List.forall_mem_cons.mpr ⟨rfl, (List.forall_mem_cons.mpr ⟨rfl, (fun _ h => nomatch h)⟩)⟩)⟩), nd := by simp, okn := by decide, nodup := by decide, caps := fun _ => (Caps.cons 0 (Str.ofString "size") (L + 1) rfl rfl rfl rfl rfl (Caps.cons 5 (Str.ofString "rest") (L + 3) rfl rfl rfl rfl rfl (Caps.cons 4 (Str.ofString "quotient") (L + 2) rfl rfl rfl rfl rfl rfl))) } (EvI.range ok (gn_range C hK) rfl (EvXs.cons ok (EvF.x (EvF.bin ok (EvF.x (EvF.bin ok (EvF.x (EvF.bin ok (EvF.x (EvF.bin ok (EvF.x (EvF.bin ok (EvF.x EvF.int) (EvX.name ok 3 rfl))) (EvF.x EvF.int))) (EvX.name ok 5 rfl))) (EvX.name ok 0 rfl))) (EvF.x EvF.int))) EvXs.nil rfl)) rfl (fun L1 _ => .inl rfl) (fun L1 _ ok => (EvF.x (EvF.bin ok (EvF.x (EvF.bin ok (EvF.x (EvF.bin ok (EvX.name ok 1 rfl) (EvX.name ok 0 rfl))) (EvX.name ok 2 rfl))) (EvF.x (EvF.bin ok (EvX.name ok 0 rfl) (EvX.name ok 3 rfl)))))))))
 ExB.nil))
noncomputable def nm_walk : List Str := [Str.ofString "goes", Str.ofString "run", Str.ofString "place", Str.ofString "halves", Str.ofString "inward"]
theorem fnok_walk (C : Cx) (hK : C.K = KK C.w.params) : FnOk C 85 (fnAt (KK C.w.params) 85) (bodyOf (defAt pw 14)) 3 nm_walk where
  at_ := by rw [hK]; exact ⟨_, _, _, rfl⟩
  code := by rw [hK]; kernel_rfl
  body := by rfl
  clo := rfl
  glob := rfl
  blt := rfl
  kind := rfl
  co := rfl
  gen := rfl
  bind := fun ws h => by
    obtain ⟨_, ws1, rfl, h1⟩ := len_s h
    obtain ⟨_, ws2, rfl, h2⟩ := len_s h1
    obtain ⟨_, ws3, rfl, h3⟩ := len_s h2
    obtain rfl := len_z h3
    rfl
  kinds := kinds_of (by kernel_rfl) 3
  len := by decide
  okn := by decide
  nodup := by decide
  cnames := by rw [show (fnAt (KK C.w.params) 85).scope = scopeOf (defAt pw 14) from rfl]; decide
noncomputable def W_walk_1_1 : WS := bCons (sAssign 2 (wSub (wSub (wName 0) (wName 4)) (wName 2))) bNil
noncomputable def W_walk_1_0 : WS := bCons (sAppend 3 (wBin .FloorDiv (wBin .Mult (wInt 2) (wName 2)) (wCall lenT (wCons (wSub (wName 0) (wName 4)) wNil)))) W_walk_1_1
noncomputable def W_walk_0_2 : WS := bCons (sFrz 3 (sRet (wTup (wCons (wName 3) (wCons (wName 2) wNil))))) bNil
noncomputable def W_walk_0_1 : WS := bCons (sFor 4 (iSeq (wName 1))
 W_walk_1_0) W_walk_0_2
noncomputable def W_walk : WS := bCons (sAssignM 3 (wLst wNil)) W_walk_0_1
theorem ex_walk (C : Cx) (hK : C.K = KK C.w.params) (A : Around) (L : Addr) (h₀ : Heap) (ok : FmOk C n (fnFm A (fnAt (KK C.w.params) 85) 85 L h₀ nm_walk)) :
    ExB C (fnFm A (fnAt (KK C.w.params) 85) 85 L h₀ nm_walk) (bodyOf (defAt pw 14)) (W_walk) := by
  have so := stores_of (A := A) (fd := fnAt (KK C.w.params) 85) (f := 85) (L := L) (h₀ := h₀) (names := nm_walk) (by kernel_rfl)
  exact (ExB.cons (ExS.assignM ok 3 rfl (so _ (List.mem_of_getElem? (i := 3) rfl)) (EvF.lst ok EvXs.nil) rfl)
 (ExB.cons (ExS.for ok 4 rfl (so _ (List.mem_of_getElem? (i := 4) rfl)) (EvI.seq ok (EvX.name ok 1 rfl) rfl)
 (ExB.cons (ExS.append ok 3 rfl (EvF.x (EvF.bin ok (EvF.x (EvF.bin ok (EvF.x EvF.int) (EvX.name ok 2 rfl))) (EvX.call ok (gn_len C hK) rfl (kp_len C hK) (EvXs.cons ok (EvX.sub ok (EvX.name ok 0 rfl) (EvX.name ok 4 rfl) rfl) EvXs.nil rfl) pc_len (Nat.zero_le _)))) rfl rfl)
 (ExB.cons (ExS.assign ok 2 rfl (so _ (List.mem_of_getElem? (i := 2) rfl)) (EvX.sub ok (EvX.sub ok (EvX.name ok 0 rfl) (EvX.name ok 4 rfl) rfl) (EvX.name ok 2 rfl) rfl) rfl)
 ExB.nil)))
 (ExB.cons (ExS.frz 3 (ExS.ret ok (EvF.x (EvF.tup ok (EvXs.cons ok (EvX.name ok 3 rfl) (EvXs.cons ok (EvX.name ok 2 rfl) EvXs.nil rfl) rfl)))))
 ExB.nil)))
noncomputable def nm_oct : List Str := [Str.ofString "rows", Str.ofString "octets", Str.ofString "row", Str.ofString "bits", Str.ofString "k", Str.ofString "a", Str.ofString "b", Str.ofString "c", Str.ofString "d", Str.ofString "e", Str.ofString "f", Str.ofString "octet"]
theorem fnok_oct (C : Cx) (hK : C.K = KK C.w.params) : FnOk C 92 (fnAt (KK C.w.params) 92) (bodyOf (defAt pw 15)) 1 nm_oct where
  at_ := by rw [hK]; exact ⟨_, _, _, rfl⟩
  code := by rw [hK]; kernel_rfl
  body := by rfl
  clo := rfl
  glob := rfl
  blt := rfl
  kind := rfl
  co := rfl
  gen := rfl
  bind := fun ws h => by
    obtain ⟨_, ws1, rfl, h1⟩ := len_s h
    obtain rfl := len_z h1
    rfl
  kinds := kinds_of (by kernel_rfl) 1
  len := by decide
  okn := by decide
  nodup := by decide
  cnames := by rw [show (fnAt (KK C.w.params) 92).scope = scopeOf (defAt pw 15) from rfl]; decide
noncomputable def W_oct_3_0 : WS := bCons (sAssign 11 (wBin .Add (wName 11) (wInt 64))) bNil
noncomputable def W_oct_2_3 : WS := bCons (sAppend 1 (wBin .Add (wName 11) (wBin .Mult (wInt 128) (wBin .Mod (wLenM 1) (wInt 2))))) bNil
noncomputable def W_oct_2_2 : WS := bCons (sIte (cCmp .Lt (wBin .Add (wName 4) (wInt 6)) (wCall lenT (wCons (wName 3) wNil)))
 W_oct_3_0
 bNil) W_oct_2_3
noncomputable def W_oct_2_1 : WS := bCons (sAssign 11 (wBin .Add (wBin .Add (wBin .Add (wBin .Add (wBin .Add (wBin .Mult (wInt 32) (wName 5)) (wBin .Mult (wInt 16) (wName 6))) (wBin .Mult (wInt 8) (wName 7))) (wBin .Mult (wInt 4) (wName 8))) (wBin .Mult (wInt 2) (wName 9))) (wName 10))) W_oct_2_2
noncomputable def W_oct_2_0 : WS := bCons (sUnpack [5, 6, 7, 8, 9, 10] (wCut (wName 3) (pSome (wName 4)) (pSome (wBin .Add (wName 4) (wInt 6))) pNone)) W_oct_2_1
noncomputable def W_oct_1_1 : WS := bCons (sFor 4 (iRange (wCons (wInt 0) (wCons (wCall lenT (wCons (wName 3) wNil)) (wCons (wInt 6) wNil))))
 W_oct_2_0) bNil
noncomputable def W_oct_1_0 : WS := bCons (sAssign 3 (wBin .Add (wBin .Mult (wLst (wCons (wInt 0) wNil)) (wBin .Sub (wInt 6) (wBin .Mod (wCall lenT (wCons (wName 2) wNil)) (wInt 6)))) (wName 2))) W_oct_1_1
noncomputable def W_oct_0_2 : WS := bCons (sFrz 1 (sRet (wBin .Add (wName 1) (wLst (wCons (wInt 69) wNil))))) bNil
noncomputable def W_oct_0_1 : WS := bCons (sFor 2 (iSeq (wName 0))
 W_oct_1_0) W_oct_0_2
noncomputable def W_oct : WS := bCons (sAssignM 1 (wLst wNil)) W_oct_0_1
theorem ex_oct (C : Cx) (hK : C.K = KK C.w.params) (A : Around) (L : Addr) (h₀ : Heap) (ok : FmOk C n (fnFm A (fnAt (KK C.w.params) 92) 92 L h₀ nm_oct)) :
    ExB C (fnFm A (fnAt (KK C.w.params) 92) 92 L h₀ nm_oct) (bodyOf (defAt pw 15)) (W_oct) := by
  have so := stores_of (A := A) (fd := fnAt (KK C.w.params) 92) (f := 92) (L := L) (h₀ := h₀) (names := nm_oct) (by kernel_rfl)
  exact (ExB.cons (ExS.assignM ok 1 rfl (so _ (List.mem_of_getElem? (i := 1) rfl)) (EvF.lst ok EvXs.nil) rfl)
 (ExB.cons (ExS.for ok 2 rfl (so _ (List.mem_of_getElem? (i := 2) rfl)) (EvI.seq ok (EvX.name ok 0 rfl) rfl)
 (ExB.cons (ExS.assign ok 3 rfl (so _ (List.mem_of_getElem? (i := 3) rfl)) (EvF.x (EvF.bin ok (EvF.x (EvF.bin ok (EvF.x (EvF.lst ok (EvXs.cons ok (EvF.x EvF.int) EvXs.nil rfl))) (EvF.x (EvF.bin ok (EvF.x EvF.int) (EvF.x (EvF.bin ok (EvX.call ok (gn_len C hK) rfl (kp_len C hK) (EvXs.cons ok (EvX.name ok 2 rfl) EvXs.nil rfl) pc_len (Nat.zero_le _)) (EvF.x EvF.int))))))) (EvX.name ok 2 rfl))) rfl)
 (ExB.cons (ExS.for ok 4 rfl (so _ (List.mem_of_getElem? (i := 4) rfl)) (EvI.range ok (gn_range C hK) rfl (EvXs.cons ok (EvF.x EvF.int) (EvXs.cons ok (EvX.call ok (gn_len C hK) rfl (kp_len C hK) (EvXs.cons ok (EvX.name ok 3 rfl) EvXs.nil rfl) pc_len (Nat.zero_le _)) (EvXs.cons ok (EvF.x EvF.int) EvXs.nil rfl) rfl) rfl))
 (ExB.cons (ExS.unpack ok (EvF.x (EvF.cut ok (EvX.name ok 3 rfl) (EvP.some (EvX.name ok 4 rfl)) (EvP.some (EvF.x (EvF.bin ok (EvX.name ok 4 rfl) (EvF.x EvF.int)))) EvP.none)) (Tgts.name 5 rfl (so _ (List.mem_of_getElem? (i := 5) rfl)) (Tgts.name 6 rfl (so _ (List.mem_of_getElem? (i := 6) rfl)) (Tgts.name 7 rfl (so _ (List.mem_of_getElem? (i := 7) rfl)) (Tgts.name 8 rfl (so _ (List.mem_of_getElem? (i := 8) rfl)) (Tgts.name 9 rfl (so _ (List.mem_of_getElem? (i := 9) rfl)) (Tgts.name 10 rfl (so _ (List.mem_of_getElem? (i := 10) rfl)) Tgts.nil)))))) rfl rfl rfl)
 (ExB.cons (ExS.assign ok 11 rfl (so _ (List.mem_of_getElem? (i := 11) rfl)) (EvF.x (EvF.bin ok (EvF.x (EvF.bin ok (EvF.x (EvF.bin ok (EvF.x (EvF.bin ok (EvF.x (EvF.bin ok (EvF.x (EvF.bin ok (EvF.x EvF.int) (EvX.name ok 5 rfl))) (EvF.x (EvF.bin ok (EvF.x EvF.int) (EvX.name ok 6 rfl))))) (EvF.x (EvF.bin ok (EvF.x EvF.int) (EvX.name ok 7 rfl))))) (EvF.x (EvF.bin ok (EvF.x EvF.int) (EvX.name ok 8 rfl))))) (EvF.x (EvF.bin ok (EvF.x EvF.int) (EvX.name ok 9 rfl))))) (EvX.name ok 10 rfl))) rfl)
 (ExB.cons (ExS.ite ok (EvC.cmp ok (EvF.x (EvF.bin ok (EvX.name ok 4 rfl) (EvF.x EvF.int))) (EvX.call ok (gn_len C hK) rfl (kp_len C hK) (EvXs.cons ok (EvX.name ok 3 rfl) EvXs.nil rfl) pc_len (Nat.zero_le _)) rfl)
 (ExB.cons (ExS.assign ok 11 rfl (so _ (List.mem_of_getElem? (i := 11) rfl)) (EvF.x (EvF.bin ok (EvX.name ok 11 rfl) (EvF.x EvF.int))) rfl)
 ExB.nil)
 ExB.nil ok)
 (ExB.cons (ExS.append ok 1 rfl (EvF.x (EvF.bin ok (EvX.name ok 11 rfl) (EvF.x (EvF.bin ok (EvF.x EvF.int) (EvF.x (EvF.bin ok (EvX.lenM ok 1 rfl (gn_len C hK) rfl) (EvF.x EvF.int))))))) rfl rfl)
 ExB.nil)))))
 ExB.nil)))
 (ExB.cons (ExS.frz 1 (ExS.ret ok (EvF.x (EvF.bin ok (EvX.name ok 1 rfl) (EvF.x (EvF.lst ok (EvXs.cons ok (EvF.x EvF.int) EvXs.nil rfl)))))))
 ExB.nil)))
noncomputable def nm_law : List Str := [Str.ofString "script", Str.ofString "size", Str.ofString "goes", Str.ofString "run", Str.ofString "wish", Str.ofString "left", Str.ofString "count", Str.ofString "place", Str.ofString "goal", Str.ofString "choice", Str.ofString "told", Str.ofString "row", Str.ofString "walks", Str.ofString "rows", Str.ofString "read", Str.ofString "at", Str.ofString "shuffles", Str.ofString "halves", Str.ofString "dividend"]
theorem fnok_law (C : Cx) (hK : C.K = KK C.w.params) : FnOk C 104 (fnAt (KK C.w.params) 104) (bodyOf (defAt pw 17)) 1 nm_law where
  at_ := by rw [hK]; exact ⟨_, _, _, rfl⟩
  code := by rw [hK]; kernel_rfl
  body := by rfl
  clo := rfl
  glob := rfl
  blt := rfl
  kind := rfl
  co := rfl
  gen := rfl
  bind := fun ws h => by
    obtain ⟨_, ws1, rfl, h1⟩ := len_s h
    obtain rfl := len_z h1
    rfl
  kinds := kinds_of (by kernel_rfl) 1
  len := by decide
  okn := by decide
  nodup := by decide
  cnames := by rw [show (fnAt (KK C.w.params) 104).scope = scopeOf (defAt pw 17) from rfl]; decide
noncomputable def W_law_2_0 (T__law_goes : List V → (V → Prop) → Prop) (T__law_rows : List V → (V → Prop) → Prop) (T__law_told : List V → (V → Prop) → Prop) (T__law_walk : List V → (V → Prop) → Prop) (T__law_octets : List V → (V → Prop) → Prop) (T_int_divmod : List V → (V → Prop) → Prop) (T__law_read : List V → (V → Prop) → Prop) : WS := bCons (sRet (wBool false)) bNil
noncomputable def W_law_3_1 (T__law_goes : List V → (V → Prop) → Prop) (T__law_rows : List V → (V → Prop) → Prop) (T__law_told : List V → (V → Prop) → Prop) (T__law_walk : List V → (V → Prop) → Prop) (T__law_octets : List V → (V → Prop) → Prop) (T_int_divmod : List V → (V → Prop) → Prop) (T__law_read : List V → (V → Prop) → Prop) : WS := bCons (sAssign 3 (wBin .Add (wName 3) (wComp (iRange (wCons (wBin .Sub (wName 6) (wInt 1)) (wCons (wUn .USub (wInt 1)) (wCons (wUn .USub (wInt 1)) wNil)))) 1 [11] (wOne (wBin .BitAnd (wBin .RShift (wName 1) (wName 0)) (wInt 1)))))) bNil
noncomputable def W_law_3_0 (T__law_goes : List V → (V → Prop) → Prop) (T__law_rows : List V → (V → Prop) → Prop) (T__law_told : List V → (V → Prop) → Prop) (T__law_walk : List V → (V → Prop) → Prop) (T__law_octets : List V → (V → Prop) → Prop) (T_int_divmod : List V → (V → Prop) → Prop) (T__law_read : List V → (V → Prop) → Prop) : WS := bCons (sAssign 11 (wSub (wName 10) (wBin .Mod (wName 9) (wCall lenT (wCons (wName 10) wNil))))) (W_law_3_1 T__law_goes T__law_rows T__law_told T__law_walk T__law_octets T_int_divmod T__law_read)
noncomputable def W_law_1_4 (T__law_goes : List V → (V → Prop) → Prop) (T__law_rows : List V → (V → Prop) → Prop) (T__law_told : List V → (V → Prop) → Prop) (T__law_walk : List V → (V → Prop) → Prop) (T__law_octets : List V → (V → Prop) → Prop) (T_int_divmod : List V → (V → Prop) → Prop) (T__law_read : List V → (V → Prop) → Prop) : WS := bCons (sIte (cCmp .NotEq (wName 10) (wLst wNil))
 (W_law_3_0 T__law_goes T__law_rows T__law_told T__law_walk T__law_octets T_int_divmod T__law_read)
 bNil) bNil
noncomputable def W_law_1_3 (T__law_goes : List V → (V → Prop) → Prop) (T__law_rows : List V → (V → Prop) → Prop) (T__law_told : List V → (V → Prop) → Prop) (T__law_walk : List V → (V → Prop) → Prop) (T__law_octets : List V → (V → Prop) → Prop) (T_int_divmod : List V → (V → Prop) → Prop) (T__law_read : List V → (V → Prop) → Prop) : WS := bCons (sIte (cCmp .NotEq (wCall sortT (wCons (wName 10) wNil)) (wCall T__law_rows (wCons (wName 2) (wCons (wName 7) (wCons (wName 8) (wCons (wName 6) wNil))))))
 (W_law_2_0 T__law_goes T__law_rows T__law_told T__law_walk T__law_octets T_int_divmod T__law_read)
 bNil) (W_law_1_4 T__law_goes T__law_rows T__law_told T__law_walk T__law_octets T_int_divmod T__law_read)
noncomputable def W_law_1_2 (T__law_goes : List V → (V → Prop) → Prop) (T__law_rows : List V → (V → Prop) → Prop) (T__law_told : List V → (V → Prop) → Prop) (T__law_walk : List V → (V → Prop) → Prop) (T__law_octets : List V → (V → Prop) → Prop) (T_int_divmod : List V → (V → Prop) → Prop) (T__law_read : List V → (V → Prop) → Prop) : WS := bCons (sAssign 10 (wCall T__law_told (wCons (wName 1) (wCons (wName 7) (wCons (wName 8) (wCons (wName 6) wNil)))))) (W_law_1_3 T__law_goes T__law_rows T__law_told T__law_walk T__law_octets T_int_divmod T__law_read)
noncomputable def W_law_1_1 (T__law_goes : List V → (V → Prop) → Prop) (T__law_rows : List V → (V → Prop) → Prop) (T__law_told : List V → (V → Prop) → Prop) (T__law_walk : List V → (V → Prop) → Prop) (T__law_octets : List V → (V → Prop) → Prop) (T_int_divmod : List V → (V → Prop) → Prop) (T__law_read : List V → (V → Prop) → Prop) : WS := bCons (sSwap 3 [9, 8, 7] (wTup (wCons (wBin .Mod (wName 5) (wName 1)) (wCons (wBin .Mod (wBin .FloorDiv (wName 5) (wName 1)) (wName 1)) (wCons (wBin .FloorDiv (wBin .FloorDiv (wName 5) (wName 1)) (wName 1)) wNil))))) (W_law_1_2 T__law_goes T__law_rows T__law_told T__law_walk T__law_octets T_int_divmod T__law_read)
noncomputable def W_law_1_0 (T__law_goes : List V → (V → Prop) → Prop) (T__law_rows : List V → (V → Prop) → Prop) (T__law_told : List V → (V → Prop) → Prop) (T__law_walk : List V → (V → Prop) → Prop) (T__law_octets : List V → (V → Prop) → Prop) (T_int_divmod : List V → (V → Prop) → Prop) (T__law_read : List V → (V → Prop) → Prop) : WS := bCons (sSwap 2 [6, 5] (wTup (wCons (wBin .FloorDiv (wName 4) (wInt 7)) (wCons (wBin .Mod (wName 4) (wInt 7)) wNil)))) (W_law_1_1 T__law_goes T__law_rows T__law_told T__law_walk T__law_octets T_int_divmod T__law_read)
noncomputable def W_law_4_0 (T__law_goes : List V → (V → Prop) → Prop) (T__law_rows : List V → (V → Prop) → Prop) (T__law_told : List V → (V → Prop) → Prop) (T__law_walk : List V → (V → Prop) → Prop) (T__law_octets : List V → (V → Prop) → Prop) (T_int_divmod : List V → (V → Prop) → Prop) (T__law_read : List V → (V → Prop) → Prop) : WS := bCons (sRet (wBool false)) bNil
noncomputable def W_law_6_0 (T__law_goes : List V → (V → Prop) → Prop) (T__law_rows : List V → (V → Prop) → Prop) (T__law_told : List V → (V → Prop) → Prop) (T__law_walk : List V → (V → Prop) → Prop) (T__law_octets : List V → (V → Prop) → Prop) (T_int_divmod : List V → (V → Prop) → Prop) (T__law_read : List V → (V → Prop) → Prop) : WS := bCons (sRet (wBool false)) bNil
noncomputable def W_law_5_2 (T__law_goes : List V → (V → Prop) → Prop) (T__law_rows : List V → (V → Prop) → Prop) (T__law_told : List V → (V → Prop) → Prop) (T__law_walk : List V → (V → Prop) → Prop) (T__law_octets : List V → (V → Prop) → Prop) (T_int_divmod : List V → (V → Prop) → Prop) (T__law_read : List V → (V → Prop) → Prop) : WS := bCons (sIte (cCmp .NotEq (wCall T_int_divmod (wCons (wName 18) (wCons (wName 1) wNil))) (wTup (wCons (wName 17) (wCons (wSub (wSub (wName 12) (wName 15)) (wInt 1)) wNil))))
 (W_law_6_0 T__law_goes T__law_rows T__law_told T__law_walk T__law_octets T_int_divmod T__law_read)
 bNil) bNil
noncomputable def W_law_5_1 (T__law_goes : List V → (V → Prop) → Prop) (T__law_rows : List V → (V → Prop) → Prop) (T__law_told : List V → (V → Prop) → Prop) (T__law_walk : List V → (V → Prop) → Prop) (T__law_octets : List V → (V → Prop) → Prop) (T_int_divmod : List V → (V → Prop) → Prop) (T__law_read : List V → (V → Prop) → Prop) : WS := bCons (sAssign 18 (wBin .Add (wBin .LShift (wName 15) (wBin .Sub (wCall lenT (wCons (wName 3) wNil)) (wName 15))) (wBin .BitXor (wName 16) (wName 17)))) (W_law_5_2 T__law_goes T__law_rows T__law_told T__law_walk T__law_octets T_int_divmod T__law_read)
noncomputable def W_law_5_0 (T__law_goes : List V → (V → Prop) → Prop) (T__law_rows : List V → (V → Prop) → Prop) (T__law_told : List V → (V → Prop) → Prop) (T__law_walk : List V → (V → Prop) → Prop) (T__law_octets : List V → (V → Prop) → Prop) (T_int_divmod : List V → (V → Prop) → Prop) (T__law_read : List V → (V → Prop) → Prop) : WS := bCons (sSwap 2 [17, 16] (wTup (wCons (wSub (wName 14) (wBin .Mult (wInt 2) (wName 15))) (wCons (wSub (wName 14) (wBin .Add (wBin .Mult (wInt 2) (wName 15)) (wInt 1))) wNil)))) (W_law_5_1 T__law_goes T__law_rows T__law_told T__law_walk T__law_octets T_int_divmod T__law_read)
noncomputable def W_law_0_9 (T__law_goes : List V → (V → Prop) → Prop) (T__law_rows : List V → (V → Prop) → Prop) (T__law_told : List V → (V → Prop) → Prop) (T__law_walk : List V → (V → Prop) → Prop) (T__law_octets : List V → (V → Prop) → Prop) (T_int_divmod : List V → (V → Prop) → Prop) (T__law_read : List V → (V → Prop) → Prop) : WS := bCons (sRet (wBool true)) bNil
noncomputable def W_law_0_8 (T__law_goes : List V → (V → Prop) → Prop) (T__law_rows : List V → (V → Prop) → Prop) (T__law_told : List V → (V → Prop) → Prop) (T__law_walk : List V → (V → Prop) → Prop) (T__law_octets : List V → (V → Prop) → Prop) (T_int_divmod : List V → (V → Prop) → Prop) (T__law_read : List V → (V → Prop) → Prop) : WS := bCons (sFor 15 (iRange (wCons (wName 1) wNil))
 (W_law_5_0 T__law_goes T__law_rows T__law_told T__law_walk T__law_octets T_int_divmod T__law_read)) (W_law_0_9 T__law_goes T__law_rows T__law_told T__law_walk T__law_octets T_int_divmod T__law_read)
noncomputable def W_law_0_7 (T__law_goes : List V → (V → Prop) → Prop) (T__law_rows : List V → (V → Prop) → Prop) (T__law_told : List V → (V → Prop) → Prop) (T__law_walk : List V → (V → Prop) → Prop) (T__law_octets : List V → (V → Prop) → Prop) (T_int_divmod : List V → (V → Prop) → Prop) (T__law_read : List V → (V → Prop) → Prop) : WS := bCons (sIte (cCmp .NotEq (wComp (iSeq (wName 14)) 1 [] (wOne (wCmp .Is (wName 0) wNone))) (wBin .Add (wBin .Mult (wLst (wCons (wBool false) wNil)) (wBin .Mult (wInt 2) (wName 1))) (wLst (wCons (wBool true) (wCons (wBool true) wNil)))))
 (W_law_4_0 T__law_goes T__law_rows T__law_told T__law_walk T__law_octets T_int_divmod T__law_read)
 bNil) (W_law_0_8 T__law_goes T__law_rows T__law_told T__law_walk T__law_octets T_int_divmod T__law_read)
noncomputable def W_law_0_6 (T__law_goes : List V → (V → Prop) → Prop) (T__law_rows : List V → (V → Prop) → Prop) (T__law_told : List V → (V → Prop) → Prop) (T__law_walk : List V → (V → Prop) → Prop) (T__law_octets : List V → (V → Prop) → Prop) (T_int_divmod : List V → (V → Prop) → Prop) (T__law_read : List V → (V → Prop) → Prop) : WS := bCons (sAssign 14 (wCall T__law_read (wCons (wCall T__law_octets (wCons (wName 13) wNil)) (wCons (wBin .Add (wBin .Mult (wInt 2) (wName 1)) (wInt 2)) wNil)))) (W_law_0_7 T__law_goes T__law_rows T__law_told T__law_walk T__law_octets T_int_divmod T__law_read)
noncomputable def W_law_0_5 (T__law_goes : List V → (V → Prop) → Prop) (T__law_rows : List V → (V → Prop) → Prop) (T__law_told : List V → (V → Prop) → Prop) (T__law_walk : List V → (V → Prop) → Prop) (T__law_octets : List V → (V → Prop) → Prop) (T_int_divmod : List V → (V → Prop) → Prop) (T__law_read : List V → (V → Prop) → Prop) : WS := bCons (sAssign 13 (wComp (iRange (wCons (wName 1) wNil)) 2 [12, 3] (wNst 1 (iSeq (wTup (wCons (wCut (wName 3) (pSome (wName 0)) pNone pNone) (wCons (wSub (wSub (wName 2) (wName 0)) (wInt 0)) wNil)))) (wOne (wName 1))))) (W_law_0_6 T__law_goes T__law_rows T__law_told T__law_walk T__law_octets T_int_divmod T__law_read)
noncomputable def W_law_0_4 (T__law_goes : List V → (V → Prop) → Prop) (T__law_rows : List V → (V → Prop) → Prop) (T__law_told : List V → (V → Prop) → Prop) (T__law_walk : List V → (V → Prop) → Prop) (T__law_octets : List V → (V → Prop) → Prop) (T_int_divmod : List V → (V → Prop) → Prop) (T__law_read : List V → (V → Prop) → Prop) : WS := bCons (sAssign 12 (wComp (iRange (wCons (wName 1) wNil)) 1 [3, 2] (wOne (wCall T__law_walk (wCons (wName 2) (wCons (wCut (wName 1) (pSome (wName 0)) pNone pNone) (wCons (wName 0) wNil))))))) (W_law_0_5 T__law_goes T__law_rows T__law_told T__law_walk T__law_octets T_int_divmod T__law_read)
noncomputable def W_law_0_3 (T__law_goes : List V → (V → Prop) → Prop) (T__law_rows : List V → (V → Prop) → Prop) (T__law_told : List V → (V → Prop) → Prop) (T__law_walk : List V → (V → Prop) → Prop) (T__law_octets : List V → (V → Prop) → Prop) (T_int_divmod : List V → (V → Prop) → Prop) (T__law_read : List V → (V → Prop) → Prop) : WS := bCons (sFor 4 (iSeq (wBin .Add (wCut (wName 0) (pSome (wInt 1)) (pSome (wInt 3)) pNone) (wLst (wCons (wInt 1259) (wCons (wInt 671) wNil)))))
 (W_law_1_0 T__law_goes T__law_rows T__law_told T__law_walk T__law_octets T_int_divmod T__law_read)) (W_law_0_4 T__law_goes T__law_rows T__law_told T__law_walk T__law_octets T_int_divmod T__law_read)
noncomputable def W_law_0_2 (T__law_goes : List V → (V → Prop) → Prop) (T__law_rows : List V → (V → Prop) → Prop) (T__law_told : List V → (V → Prop) → Prop) (T__law_walk : List V → (V → Prop) → Prop) (T__law_octets : List V → (V → Prop) → Prop) (T_int_divmod : List V → (V → Prop) → Prop) (T__law_read : List V → (V → Prop) → Prop) : WS := bCons (sAssign 3 (wLst wNil)) (W_law_0_3 T__law_goes T__law_rows T__law_told T__law_walk T__law_octets T_int_divmod T__law_read)
noncomputable def W_law_0_1 (T__law_goes : List V → (V → Prop) → Prop) (T__law_rows : List V → (V → Prop) → Prop) (T__law_told : List V → (V → Prop) → Prop) (T__law_walk : List V → (V → Prop) → Prop) (T__law_octets : List V → (V → Prop) → Prop) (T_int_divmod : List V → (V → Prop) → Prop) (T__law_read : List V → (V → Prop) → Prop) : WS := bCons (sAssign 2 (wCall T__law_goes (wCons (wName 1) wNil))) (W_law_0_2 T__law_goes T__law_rows T__law_told T__law_walk T__law_octets T_int_divmod T__law_read)
noncomputable def W_law (T__law_goes : List V → (V → Prop) → Prop) (T__law_rows : List V → (V → Prop) → Prop) (T__law_told : List V → (V → Prop) → Prop) (T__law_walk : List V → (V → Prop) → Prop) (T__law_octets : List V → (V → Prop) → Prop) (T_int_divmod : List V → (V → Prop) → Prop) (T__law_read : List V → (V → Prop) → Prop) : WS := bCons (sAssign 1 (wBin .Add (wInt 2) (wBin .Mult (wInt 2) (wBin .Mod (wSub (wBin .Add (wName 0) (wLst (wCons (wInt 4) wNil))) (wInt 0)) (wInt 6))))) (W_law_0_1 T__law_goes T__law_rows T__law_told T__law_walk T__law_octets T_int_divmod T__law_read)
theorem ex_law (C : Cx) (hK : C.K = KK C.w.params) {T__law_goes : List V → (V → Prop) → Prop} {m__law_goes : Nat} (h__law_goes : PC C m__law_goes (.ref 68) T__law_goes) (le__law_goes : m__law_goes ≤ n) {T__law_rows : List V → (V → Prop) → Prop} {m__law_rows : Nat} (h__law_rows : PC C m__law_rows (.ref 73) T__law_rows) (le__law_rows : m__law_rows ≤ n) {T__law_told : List V → (V → Prop) → Prop} {m__law_told : Nat} (h__law_told : PC C m__law_told (.ref 78) T__law_told) (le__law_told : m__law_told ≤ n) {T__law_walk : List V → (V → Prop) → Prop} {m__law_walk : Nat} (h__law_walk : PC C m__law_walk (.ref 85) T__law_walk) (le__law_walk : m__law_walk ≤ n) {T__law_octets : List V → (V → Prop) → Prop} {m__law_octets : Nat} (h__law_octets : PC C m__law_octets (.ref 92) T__law_octets) (le__law_octets : m__law_octets ≤ n) {T_int_divmod : List V → (V → Prop) → Prop} {m_int_divmod : Nat} (h_int_divmod : PC C m_int_divmod (.ref 56) T_int_divmod) (le_int_divmod : m_int_divmod ≤ n) {T__law_read : List V → (V → Prop) → Prop} {m__law_read : Nat} (le__law_read : m__law_read ≤ n) (A : Around) (L : Addr) (h₀ : Heap) (un__law_read : UnX C (fnFm A (fnAt (KK C.w.params) 104) 104 L h₀ nm_law) m__law_read (.ref 99) T__law_read) (ok : FmOk C n (fnFm A (fnAt (KK C.w.params) 104) 104 L h₀ nm_law)) :
    ExB C (fnFm A (fnAt (KK C.w.params) 104) 104 L h₀ nm_law) (bodyOf (defAt pw 17)) (W_law T__law_goes T__law_rows T__law_told T__law_walk T__law_octets T_int_divmod T__law_read) := by
  have so := stores_of (A := A) (fd := fnAt (KK C.w.params) 104) (f := 104) (L := L) (h₀ := h₀) (names := nm_law) (by kernel_rfl)
  exact (ExB.cons (ExS.assign ok 1 rfl (so _ (List.mem_of_getElem? (i := 1) rfl)) (EvF.x (EvF.bin ok (EvF.x EvF.int) (EvF.x (EvF.bin ok (EvF.x EvF.int) (EvF.x (EvF.bin ok (EvX.sub ok (EvF.x (EvF.bin ok (EvX.name ok 0 rfl) (EvF.x (EvF.lst ok (EvXs.cons ok (EvF.x EvF.int) EvXs.nil rfl))))) (EvF.x EvF.int) rfl) (EvF.x EvF.int))))))) rfl)
 (ExB.cons (ExS.assign ok 2 rfl (so _ (List.mem_of_getElem? (i := 2) rfl)) (EvX.call ok (gn__law_goes C hK) rfl (kp__law_goes C hK) (EvXs.cons ok (EvX.name ok 1 rfl) EvXs.nil rfl) h__law_goes le__law_goes) rfl)
 (ExB.cons (ExS.assign ok 3 rfl (so _ (List.mem_of_getElem? (i := 3) rfl)) (EvF.x (EvF.lst ok EvXs.nil)) rfl)
 (ExB.cons (ExS.for ok 4 rfl (so _ (List.mem_of_getElem? (i := 4) rfl)) (EvI.seq ok (EvF.x (EvF.bin ok (EvF.x (EvF.cut ok (EvX.name ok 0 rfl) (EvP.some (EvF.x EvF.int)) (EvP.some (EvF.x EvF.int)) EvP.none)) (EvF.x (EvF.lst ok (EvXs.cons ok (EvF.x EvF.int) (EvXs.cons ok (EvF.x EvF.int) EvXs.nil rfl) rfl))))) rfl)
 (ExB.cons (ExS.swap (names := [Str.ofString "left", Str.ofString "count"]) ok (EvF.x (EvF.tup ok (EvXs.cons ok (EvF.x (EvF.bin ok (EvX.name ok 4 rfl) (EvF.x EvF.int))) (EvXs.cons ok (EvF.x (EvF.bin ok (EvX.name ok 4 rfl) (EvF.x EvF.int))) EvXs.nil rfl) rfl))) (Tgts.bindName 6 rfl (so _ (List.mem_of_getElem? (i := 6) rfl)) (Tgts.bindName 5 rfl (so _ (List.mem_of_getElem? (i := 5) rfl)) Tgts.nil)) rfl rfl)
 (ExB.cons (ExS.swap (names := [Str.ofString "place", Str.ofString "goal", Str.ofString "choice"]) ok (EvF.x (EvF.tup ok (EvXs.cons ok (EvF.x (EvF.bin ok (EvX.name ok 5 rfl) (EvX.name ok 1 rfl))) (EvXs.cons ok (EvF.x (EvF.bin ok (EvF.x (EvF.bin ok (EvX.name ok 5 rfl) (EvX.name ok 1 rfl))) (EvX.name ok 1 rfl))) (EvXs.cons ok (EvF.x (EvF.bin ok (EvF.x (EvF.bin ok (EvX.name ok 5 rfl) (EvX.name ok 1 rfl))) (EvX.name ok 1 rfl))) EvXs.nil rfl) rfl) rfl))) (Tgts.bindName 9 rfl (so _ (List.mem_of_getElem? (i := 9) rfl)) (Tgts.bindName 8 rfl (so _ (List.mem_of_getElem? (i := 8) rfl)) (Tgts.bindName 7 rfl (so _ (List.mem_of_getElem? (i := 7) rfl)) Tgts.nil))) rfl rfl)
 (ExB.cons (ExS.assign ok 10 rfl (so _ (List.mem_of_getElem? (i := 10) rfl)) (EvX.call ok (gn__law_told C hK) rfl (kp__law_told C hK) (EvXs.cons ok (EvX.name ok 1 rfl) (EvXs.cons ok (EvX.name ok 7 rfl) (EvXs.cons ok (EvX.name ok 8 rfl) (EvXs.cons ok (EvX.name ok 6 rfl) EvXs.nil rfl) rfl) rfl) rfl) h__law_told le__law_told) rfl)
 (ExB.cons (ExS.ite ok (EvC.cmp ok (EvX.call ok (gn_sorted C hK) rfl (kp_sorted C hK) (EvXs.cons ok (EvX.name ok 10 rfl) EvXs.nil rfl) pc_sorted (Nat.zero_le _)) (EvX.call ok (gn__law_rows C hK) rfl (kp__law_rows C hK) (EvXs.cons ok (EvX.name ok 2 rfl) (EvXs.cons ok (EvX.name ok 7 rfl) (EvXs.cons ok (EvX.name ok 8 rfl) (EvXs.cons ok (EvX.name ok 6 rfl) EvXs.nil rfl) rfl) rfl) rfl) h__law_rows le__law_rows) rfl)
 (ExB.cons (ExS.ret ok (EvF.x EvF.bool))
 ExB.nil)
 ExB.nil ok)
 (ExB.cons (ExS.ite ok (EvC.cmp ok (EvX.name ok 10 rfl) (EvF.x (EvF.lst ok EvXs.nil)) rfl)
 (ExB.cons (ExS.assign ok 11 rfl (so _ (List.mem_of_getElem? (i := 11) rfl)) (EvX.sub ok (EvX.name ok 10 rfl) (EvF.x (EvF.bin ok (EvX.name ok 9 rfl) (EvX.call ok (gn_len C hK) rfl (kp_len C hK) (EvXs.cons ok (EvX.name ok 10 rfl) EvXs.nil rfl) pc_len (Nat.zero_le _)))) rfl) rfl)
 (ExB.cons (ExS.assign ok 3 rfl (so _ (List.mem_of_getElem? (i := 3) rfl)) (EvF.x (EvF.bin ok (EvX.name ok 3 rfl) (EvF.x (EvF.comp1 ok (cl := [(Str.ofString "row", L + 3)]) (tg := [Str.ofString "k"]) (cx := [Str.ofString "row"]) (js := [11]) { clos := by kernel_rfl, kind := rfl, locs := by decide, lk := (List.forall_mem_cons.mpr ⟨rfl, (fun _ h => nomatch h)⟩), nd := by simp, okn := by decide, nodup := by decide, caps := fun _ => (Caps.cons 11 (Str.ofString "row") (L + 3) rfl rfl rfl rfl rfl rfl) } (EvI.range ok (gn_range C hK) rfl (EvXs.cons ok (EvF.x (EvF.bin ok (EvX.name ok 6 rfl) (EvF.x EvF.int))) (EvXs.cons ok (EvF.x (EvF.un (EvF.x EvF.int))) (EvXs.cons ok (EvF.x (EvF.un (EvF.x EvF.int))) EvXs.nil rfl) rfl) rfl)) rfl (fun L1 _ => .inl rfl) (fun L1 _ ok => (EvF.x (EvF.bin ok (EvF.x (EvF.bin ok (EvX.name ok 1 rfl) (EvX.name ok 0 rfl))) (EvF.x EvF.int)))))))) rfl)
 ExB.nil))
 ExB.nil ok)
 ExB.nil))))))
 (ExB.cons (ExS.assignC ok 12 rfl (so _ (List.mem_of_getElem? (i := 12) rfl)) (EvF.x (EvF.comp1 ok (cl := [(Str.ofString "run", L + 2), (Str.ofString "goes", L + 1)]) (tg := [Str.ofString "at"]) (cx := [Str.ofString "run", Str.ofString "goes"]) (js := [3, 2]) { clos := by kernel_rfl, kind := rfl, locs := by decide, lk := (List.forall_mem_cons.mpr ⟨rfl, (List.forall_mem_cons.mpr ⟨rfl, (fun _ h => nomatch h)⟩)⟩), nd := by simp, okn := by decide, nodup := by decide, caps := fun _ => (Caps.cons 3 (Str.ofString "run") (L + 2) rfl rfl rfl rfl rfl (Caps.cons 2 (Str.ofString "goes") (L + 1) rfl rfl rfl rfl rfl rfl)) } (EvI.range ok (gn_range C hK) rfl (EvXs.cons ok (EvX.name ok 1 rfl) EvXs.nil rfl)) rfl (fun L1 _ => .inl rfl) (fun L1 _ ok => (EvX.call ok (gn__law_walk C hK) rfl (kp__law_walk C hK) (EvXs.cons ok (EvX.name ok 2 rfl) (EvXs.cons ok (EvF.x (EvF.cut ok (EvX.name ok 1 rfl) (EvP.some (EvX.name ok 0 rfl)) EvP.none EvP.none)) (EvXs.cons ok (EvX.name ok 0 rfl) EvXs.nil rfl) rfl) rfl) h__law_walk le__law_walk)))) (by kernel_rfl))
 (ExB.cons (ExS.assignComp2 ok 13 rfl (so _ (List.mem_of_getElem? (i := 13) rfl)) (cl := [(Str.ofString "walks", L + 4), (Str.ofString "run", L + 2)]) (tg := [Str.ofString "at", Str.ofString "bits"]) (cx := [Str.ofString "walks", Str.ofString "run"]) (js := [12, 3]) { clos := by kernel_rfl, kind := rfl, locs := by decide, lk := (List.forall_mem_cons.mpr ⟨rfl, (List.forall_mem_cons.mpr ⟨rfl, (fun _ h => nomatch h)⟩)⟩), nd := by simp, okn := by decide, nodup := by decide, caps := fun _ => (Caps.cons 12 (Str.ofString "walks") (L + 4) rfl rfl rfl rfl rfl (Caps.cons 3 (Str.ofString "run") (L + 2) rfl rfl rfl rfl rfl rfl)) } (EvI.range ok (gn_range C hK) rfl (EvXs.cons ok (EvX.name ok 1 rfl) EvXs.nil rfl)).c rfl (fun L1 _ => .inl rfl) rfl (fun L1 _ => .inl rfl) (fun L1 _ ok => (EvI.seq ok (EvF.x (EvF.tup ok (EvXs.cons ok (EvF.x (EvF.cut ok (EvX.name ok 3 rfl) (EvP.some (EvX.name ok 0 rfl)) EvP.none EvP.none)) (EvXs.cons ok (EvX.sub ok (EvX.sub ok (EvX.name ok 2 rfl) (EvX.name ok 0 rfl) rfl) (EvF.x EvF.int) rfl) EvXs.nil rfl) rfl))) rfl)) (fun _ _ => rfl) (fun L1 _ ok => (EvX.name ok 1 rfl)) (by kernel_rfl))
 (ExB.cons (ExS.assignX ok 14 rfl (so _ (List.mem_of_getElem? (i := 14) rfl)) (gn__law_read C hK) rfl (kp__law_read C hK) (EvXs.cons ok (EvX.call ok (gn__law_octets C hK) rfl (kp__law_octets C hK) (EvXs.cons ok (EvX.name ok 13 rfl) EvXs.nil rfl) h__law_octets le__law_octets) (EvXs.cons ok (EvF.x (EvF.bin ok (EvF.x (EvF.bin ok (EvF.x EvF.int) (EvX.name ok 1 rfl))) (EvF.x EvF.int))) EvXs.nil rfl) rfl) un__law_read le__law_read)
 (ExB.cons (ExS.ite ok (EvC.cmp ok (EvF.x (EvF.comp1 ok (cl := []) (tg := [Str.ofString "number"]) (cx := []) (js := []) { clos := by kernel_rfl, kind := rfl, locs := by decide, lk := (fun _ h => nomatch h), nd := by simp, okn := by decide, nodup := by decide, caps := fun _ => rfl } (EvI.seq ok (EvX.name ok 14 rfl) rfl) rfl (fun L1 _ => .inl rfl) (fun L1 _ ok => (EvF.x (EvF.cmp ok (EvX.name ok 0 rfl) (EvF.x EvF.none) rfl))))) (EvF.x (EvF.bin ok (EvF.x (EvF.bin ok (EvF.x (EvF.lst ok (EvXs.cons ok (EvF.x EvF.bool) EvXs.nil rfl))) (EvF.x (EvF.bin ok (EvF.x EvF.int) (EvX.name ok 1 rfl))))) (EvF.x (EvF.lst ok (EvXs.cons ok (EvF.x EvF.bool) (EvXs.cons ok (EvF.x EvF.bool) EvXs.nil rfl) rfl))))) rfl)
 (ExB.cons (ExS.ret ok (EvF.x EvF.bool))
 ExB.nil)
 ExB.nil ok)
 (ExB.cons (ExS.for ok 15 rfl (so _ (List.mem_of_getElem? (i := 15) rfl)) (EvI.range ok (gn_range C hK) rfl (EvXs.cons ok (EvX.name ok 1 rfl) EvXs.nil rfl))
 (ExB.cons (ExS.swap (names := [Str.ofString "shuffles", Str.ofString "halves"]) ok (EvF.x (EvF.tup ok (EvXs.cons ok (EvX.sub ok (EvX.name ok 14 rfl) (EvF.x (EvF.bin ok (EvF.x EvF.int) (EvX.name ok 15 rfl))) rfl) (EvXs.cons ok (EvX.sub ok (EvX.name ok 14 rfl) (EvF.x (EvF.bin ok (EvF.x (EvF.bin ok (EvF.x EvF.int) (EvX.name ok 15 rfl))) (EvF.x EvF.int))) rfl) EvXs.nil rfl) rfl))) (Tgts.bindName 17 rfl (so _ (List.mem_of_getElem? (i := 17) rfl)) (Tgts.bindName 16 rfl (so _ (List.mem_of_getElem? (i := 16) rfl)) Tgts.nil)) rfl rfl)
 (ExB.cons (ExS.assign ok 18 rfl (so _ (List.mem_of_getElem? (i := 18) rfl)) (EvF.x (EvF.bin ok (EvF.x (EvF.bin ok (EvX.name ok 15 rfl) (EvF.x (EvF.bin ok (EvX.call ok (gn_len C hK) rfl (kp_len C hK) (EvXs.cons ok (EvX.name ok 3 rfl) EvXs.nil rfl) pc_len (Nat.zero_le _)) (EvX.name ok 15 rfl))))) (EvF.x (EvF.bin ok (EvX.name ok 16 rfl) (EvX.name ok 17 rfl))))) rfl)
 (ExB.cons (ExS.ite ok (EvC.cmp ok (EvX.call ok (gn_int_divmod C hK) rfl (kp_int_divmod C hK) (EvXs.cons ok (EvX.name ok 18 rfl) (EvXs.cons ok (EvX.name ok 1 rfl) EvXs.nil rfl) rfl) h_int_divmod le_int_divmod) (EvF.x (EvF.tup ok (EvXs.cons ok (EvX.name ok 17 rfl) (EvXs.cons ok (EvX.sub ok (EvX.sub ok (EvX.name ok 12 rfl) (EvX.name ok 15 rfl) rfl) (EvF.x EvF.int) rfl) EvXs.nil rfl) rfl))) rfl)
 (ExB.cons (ExS.ret ok (EvF.x EvF.bool))
 ExB.nil)
 ExB.nil ok)
 ExB.nil))))
 (ExB.cons (ExS.ret ok (EvF.x EvF.bool))
 ExB.nil))))))))))
end
end Mine
end
section
open PySem PySem.Calls PyProof.Rows PySem.W PySem.Spec PySem.SeqAt
set_option Elab.async false
set_option maxRecDepth 100000
set_option linter.unusedVariables false
namespace Mine
noncomputable def nm_rd2 : List Str := [Str.ofString "octets", Str.ofString "count", Str.ofString "tape", Str.ofString "numbers", Str.ofString "turn"]
theorem fnok_rd2 (C : Cx) (hK : C.K = KK C.w.params) : FnOk C 99 (fnAt (KK C.w.params) 99) (bodyOf (defAt pw 16)) 2 nm_rd2 where
  at_ := by rw [hK]; exact ⟨_, _, _, rfl⟩
  code := by rw [hK]; kernel_rfl
  body := by rfl
  clo := rfl
  glob := rfl
  blt := rfl
  kind := rfl
  co := rfl
  gen := rfl
  bind := fun ws h => by
    obtain ⟨_, ws1, rfl, h1⟩ := len_s h
    obtain ⟨_, ws2, rfl, h2⟩ := len_s h1
    obtain rfl := len_z h2
    rfl
  kinds := kinds_of (by kernel_rfl) 2
  len := by decide
  okn := by decide
  nodup := by decide
  cnames := by rw [show (fnAt (KK C.w.params) 99).scope = scopeOf (defAt pw 16) from rfl]; decide
noncomputable def W_rd2_try (T : List Int → (V → List Int → Prop) → Prop → Prop) : WSX := xCons (appRead T 3 2) xNil
noncomputable def W_rd2_2 (T : List Int → (V → List Int → Prop) → Prop → Prop) : WS := bCons (sFor 4 (iRange (wCons (wName 1) wNil)) (bCons (sTry (W_rd2_try T) (sAppNone 3)) bNil)) (bCons (sFrz 3 (sRet (wName 3))) bNil)
noncomputable def W_rd2 (T : List Int → (V → List Int → Prop) → Prop → Prop) : WS := bCons (sIter 2 (wName 0)) (bCons (sAssignM 3 (wLst wNil)) (W_rd2_2 T))
theorem ex_rd2 (C : Cx) (hK : C.K = KK C.w.params) {n m : Nat} {T : List Int → (V → List Int → Prop) → Prop → Prop} (hT : PCI C m (.ref 63) T) (hm : m ≤ n) (l : List (Addr × Obj)) (hl : FrL C l) (A : Around) (L : Addr) (h₀ : Heap) (hz : ZF l A) (ok : FmOk (frC C l hl) n (fnFm A (fnAt (KK C.w.params) 99) 99 L h₀ nm_rd2)) :
    ExB (frC C l hl) (fnFm A (fnAt (KK C.w.params) 99) 99 L h₀ nm_rd2) (bodyOf (defAt pw 16)) (W_rd2 T) := by
  have so := stores_of (A := A) (fd := fnAt (KK C.w.params) 99) (f := 99) (L := L) (h₀ := h₀) (names := nm_rd2) (by kernel_rfl)
  have hK' : (frC C l hl).K = KK (frC C l hl).w.params := hK
  obtain ⟨outer, hfr, ho, hnf⟩ := hz
  have fx : FX l (fnFm A (fnAt (KK C.w.params) 99) 99 L h₀ nm_rd2) outer := ⟨rfl, Around.frames_deeper hfr, ho, hnf⟩
  exact ExB.cons (ExS.assignIter ok 2 rfl (so _ (List.mem_of_getElem? (i := 2) rfl)) (gn_iter _ hK') rfl (EvX.name ok 0 rfl) rfl)
    (ExB.cons (ExS.assignM ok 3 rfl (so _ (List.mem_of_getElem? (i := 3) rfl)) (EvF.lst ok EvXs.nil) rfl)
    (ExB.cons (ExS.for ok 4 rfl (so _ (List.mem_of_getElem? (i := 4) rfl)) (EvI.range ok (gn_range _ hK') rfl (EvXs.cons ok (EvX.name ok 1 rfl) EvXs.nil rfl))
      (ExB.cons (ExS.tryStop fx ok (gn_StopIteration _ hK') rfl
        (ExBX.cons (ExSX.appendRead fx ok 3 2 (by decide) rfl rfl (gn__parse_varint _ hK') rfl (kp__parse_varint _ hK') hT hm rfl) ExBX.nil)
        (fun e ad st s P Q E hW R k => app_none ok 3 rfl R rfl hW k)) ExB.nil))
    (ExB.cons (ExS.frz 3 (ExS.ret ok (EvX.name ok 3 rfl))) ExB.nil)))
end Mine
end
section
open PySem PySem.Calls PyProof.Rows PySem.W PySem.Spec PySem.SeqAt
set_option Elab.async false
namespace Mine
theorem bnot (x : Int) : Builtin.bitNot x = -x - 1 := by unfold Builtin.bitNot; lia
theorem band_nat (x y : Nat) : Builtin.bitAnd (x : Int) (y : Int) = ((x &&& y : Nat) : Int) := by
  unfold Builtin.bitAnd; simp
theorem bor_nat (x y : Nat) : Builtin.bitOr (x : Int) (y : Int) = ((x ||| y : Nat) : Int) := by
  unfold Builtin.bitOr Builtin.bitAnd
  have h1 : ¬ (0 ≤ Builtin.bitNot (x : Int)) := by rw [bnot]; lia
  have h2 : ¬ (0 ≤ Builtin.bitNot (y : Int)) := by rw [bnot]; (clear h1; omega)
  simp only [h1, h2, decide_false]
  have e1 : Builtin.bitNot (Builtin.bitNot (x : Int)) = x := by rw [bnot, bnot]; (clear h1 h2; lia)
  have e2 : Builtin.bitNot (Builtin.bitNot (y : Int)) = y := by rw [bnot, bnot]; (clear h1 h2 e1; lia)
  rw [e1, e2, bnot, bnot]; simp; (clear h1 h2 e1 e2; lia)
theorem or_split (x : Nat) : ∀ y : Nat, x ||| y = (x ^^^ y) + (x &&& y) := by
  induction x using Nat.strongRecOn with
  | _ x ih =>
    intro y
    by_cases hx : x = 0
    · subst hx; simp
    · have h := ih (x / 2) (by (clear ih; lia)) (y / 2)
      have d1 := Nat.or_div_two (a := x) (b := y)
      have d2 := Nat.xor_div_two (a := x) (b := y)
      have d3 := Nat.and_div_two (a := x) (b := y)
      have m1 := Nat.or_mod_two_eq_one (a := x) (b := y)
      have m2 := Nat.xor_mod_two_eq_one (a := x) (b := y)
      have m3 := Nat.and_mod_two_eq_one (a := x) (b := y)
      (clear ih hx; lia)
theorem bxor_nat (x y : Nat) : Builtin.bitXor (x : Int) (y : Int) = ((x ^^^ y : Nat) : Int) := by
  unfold Builtin.bitXor
  rw [bor_nat, band_nat, or_split]; lia
theorem bits_lt {x : Int} {m : Nat} (h0 : 0 ≤ x) (h : x < 2 ^ m) : Builtin.Int.intBits x ≤ m := by
  rw [intBits_le_iff]
  have : ((x.natAbs : Nat) : Int) < ((2 ^ m : Nat) : Int) := by rw [Int.natAbs_of_nonneg h0]; simpa using h
  exact Int.ofNat_lt.mp this
theorem lt_bits {x : Int} {m : Nat} (h : Builtin.Int.intBits x ≤ m) : x < 2 ^ m := by
  rw [intBits_le_iff] at h
  have : ((x.natAbs : Nat) : Int) < ((2 ^ m : Nat) : Int) := Int.ofNat_lt.mpr h
  have e : ((2 ^ m : Nat) : Int) = (2 : Int) ^ m := by simp
  (clear this; lia)
theorem le_of_bits {x : Int} (h0 : 0 < x) : (2 : Int) ^ (Builtin.Int.intBits x - 1) ≤ x ∧ 0 < Builtin.Int.intBits x := by
  have h1 : ¬ Builtin.Int.intBits x ≤ Builtin.Int.intBits x - 1 := by
    intro q
    have : Builtin.Int.intBits x = 0 := by (clear h0; lia)
    have q2 : Builtin.Int.intBits x ≤ 0 := by (clear h0 q; lia)
    have := lt_bits q2
    simp at this; (clear q q2; lia)
  refine ⟨?_, by (clear h0; lia)⟩
  rw [intBits_le_iff] at h1
  have : ((2 ^ (Builtin.Int.intBits x - 1) : Nat) : Int) ≤ ((x.natAbs : Nat) : Int) := Int.ofNat_le.mpr (Nat.le_of_not_lt h1)
  have e : ((2 ^ (Builtin.Int.intBits x - 1) : Nat) : Int) = (2 : Int) ^ (Builtin.Int.intBits x - 1) := by simp
  (clear this; lia)
theorem cast_pow2 (k : Nat) : ((2 ^ k : Nat) : Int) = (2 : Int) ^ k := by simp
theorem pow2_pos (k : Nat) : (0 : Int) < 2 ^ k := Int.pow_pos (by decide)
theorem bor_add {x y : Int} (h : 0 ≤ x) (k : Nat) (hy : 0 ≤ y) (hk : y < 2 ^ k) : Builtin.bitOr (x * 2 ^ k) y = x * 2 ^ k + y := by
  obtain ⟨a, rfl⟩ := Int.eq_ofNat_of_zero_le h
  obtain ⟨b, rfl⟩ := Int.eq_ofNat_of_zero_le hy
  have e : ((a : Nat) : Int) * 2 ^ k = ((a * 2 ^ k : Nat) : Int) := by rw [← cast_pow2]; push_cast; rfl
  have hb : b < 2 ^ k := by rw [← cast_pow2] at hk; exact Int.ofNat_lt.mp hk
  show Builtin.bitOr (((a : Nat) : Int) * 2 ^ k) (b : Int) = ((a : Nat) : Int) * 2 ^ k + (b : Int)
  rw [e, bor_nat, ← Nat.shiftLeft_eq, ← Nat.shiftLeft_add_eq_or_of_lt hb]; push_cast; rfl
theorem bxor_low {x : Int} (h : 0 ≤ x) (k : Nat) : Builtin.bitXor x (x.fdiv (2 ^ k) * 2 ^ k) = x % 2 ^ k := by
  have hp := pow2_pos k
  have hd : 0 ≤ x / 2 ^ k := Int.ediv_nonneg h (Int.le_of_lt hp)
  have hm := Int.emod_nonneg x (Int.ne_of_gt hp)
  have hl := Int.emod_lt_of_pos x hp
  rw [Int.fdiv_eq_ediv_of_nonneg _ (Int.le_of_lt hp)]
  obtain ⟨a, ha⟩ := Int.eq_ofNat_of_zero_le hd
  obtain ⟨b, hb⟩ := Int.eq_ofNat_of_zero_le hm
  have e : x = x / 2 ^ k * 2 ^ k + x % 2 ^ k := by rw [Int.mul_comm]; exact (Int.mul_ediv_add_emod x (2 ^ k)).symm
  have hbk : b < 2 ^ k := by rw [hb, ← cast_pow2] at hl; exact Int.ofNat_lt.mp hl
  have e2 : x / 2 ^ k * 2 ^ k = ((a * 2 ^ k : Nat) : Int) := by rw [ha, ← cast_pow2]; push_cast; rfl
  have e3 : x = ((a * 2 ^ k + b : Nat) : Int) := by rw [e, e2, hb]; push_cast; rfl
  rw [e2]
  conv => lhs; rw [e3]
  rw [bxor_nat, hb]
  have : a * 2 ^ k + b = a * 2 ^ k ^^^ b := by
    have o := Nat.shiftLeft_add_eq_or_of_lt hbk a
    have s := or_split (a * 2 ^ k) b
    have z : a * 2 ^ k &&& b = 0 := by
      apply Nat.eq_of_testBit_eq
      intro i
      rw [Nat.testBit_and, ← Nat.shiftLeft_eq, Nat.testBit_shiftLeft]
      by_cases hi : k ≤ i
      · rw [Nat.testBit_lt_two_pow (x := b) (i := i) (Nat.lt_of_lt_of_le hbk (Nat.pow_le_pow_right (by decide) hi))]; simp
      · simp [hi]
    rw [Nat.shiftLeft_eq] at o
    (clear h hp hd hm hl ha hb e hbk e2 e3; lia)
  rw [this, Nat.xor_comm (a * 2 ^ k), Nat.xor_assoc, Nat.xor_self, Nat.xor_zero]
theorem fdiv_ediv {a b : Int} (h : 0 ≤ b) : a.fdiv b = a / b := Int.fdiv_eq_ediv_of_nonneg _ h
theorem fmod_emod {a b : Int} (h : 0 ≤ b) : a.fmod b = a % b := Int.fmod_eq_emod_of_nonneg _ h
theorem noPylong_diff {a b : Int} (h : Builtin.Int.intBits a ≤ Builtin.Int.intBits b + 4000) : Builtin.divisionGoesByPylong a b = false := by
  unfold Builtin.divisionGoesByPylong
  unfold Builtin.Int.intBits at h
  simp only [Bool.and_eq_false_iff, decide_eq_false_iff_not]
  by_cases ha : a = 0
  · right; simp [ha]
  · by_cases hb : b = 0
    · left; simp [hb]
    · right
      simp only [beq_iff_eq, ha, hb, if_false] at h ⊢
      (clear ha hb; lia)
theorem divmod_of {a b q r : Int} (h : a = q * b + r) (h0 : 0 ≤ r) (h1 : r < b) : a / b = q ∧ a % b = r := by
  have hb : 0 < b := by (clear h; lia)
  have : a = r + b * q := by rw [h, Int.mul_comm q b]; (clear h h0 h1 hb; lia)
  refine ⟨?_, ?_⟩
  · rw [this, Int.add_mul_ediv_left _ _ (Int.ne_of_gt hb), Int.ediv_eq_zero_of_lt h0 h1]; (clear h h0 h1 hb this; lia)
  · rw [this, Int.add_mul_emod_self_left, Int.emod_eq_of_lt h0 h1]
end Mine
end
section
open PySem PySem.Calls PyProof.Rows PySem.W PySem.Spec PySem.SeqAt
set_option Elab.async false
set_option maxRecDepth 100000
set_option linter.unusedVariables false
set_option linter.unusedSimpArgs false
namespace Mine
noncomputable def pre2 (k : Nat) (a b : Int) (N : Nat) : Prop := 0 ≤ a ∧ 0 < N ∧ (2 : Int) ^ (N - 1) ≤ b ∧ b < 2 ^ N ∧ a < b * 2 ^ N ∧ N ≤ 4000 * 2 ^ k
noncomputable def T2 (k : Nat) (vs : List V) (P : V → Prop) : Prop := ∃ (a b : Int) (N : Nat), vs = [.int a, .int b, .int N] ∧ pre2 k a b N ∧ P (.tup [.int (a / b), .int (a % b)])
theorem pow_add2 (a b : Nat) : (2 : Int) ^ (a + b) = 2 ^ a * 2 ^ b := Int.pow_add ..
theorem w_div2_base {T : List V → (V → Prop) → Prop} {a b : Int} {N : Nat} {P : V → Prop} (b0 : 0 < b) (hb1 : (2 : Int) ^ (N - 1) ≤ b) (hN : 0 < N)
    (h : P (.tup [.int (a / b), .int (a % b)])) (hl : Builtin.Int.intBits a ≤ N + 4000) (Q : Out → List V → Prop) (hQ : ∀ v st, Q (.ret v) st = P v) (rest : List V) :
    W_div2_1_0 T (.int a :: .int b :: rest) Q := by
  unfold W_div2_1_0
  (try dsimp only [xNil, xCons, xLift, xNext, xWhile, xFor, sTry, sIter, sRetOwn, q_xnxt, q_xret, appRead, wSubK, wIf, sSetSub, sCallM, setSubW, Int.toNat_natCast, bCons, bNil, sIte, sRet, sRetNone, sAssign, sAssignM, sAug, sUnpack, sSwap, sAppend, sReverse, sAugSub, sNever, sFrz, sWiden, sFor, sWhile, cCmp, cPlain, wName, wInt, wBool, wNone, wBin, wCmp, wUn, wNil, wCons, wCall, wBitLen, wTup, wLst, wSub, wSubM, wLenM, wCut, pNone, pSome, iSeq, iRange, iRev, frz, appW, augSubW, List.replicate_succ, List.replicate_zero, List.cons_append, List.nil_append, List.set_cons_succ, List.set_cons_zero, List.length_cons, List.length_nil, q_rv2, q_rv3, List.reverse_nil, q_add, q_sub, q_mul, q_fdiv, q_mod, q_shl, q_shr, q_and, q_or, q_xor, q_pow, q_cat, q_catv, q_rep, q_repv, q_eq, q_ne, q_lt, q_le, q_eql, q_nel, q_neg, q_inv, q_tri, q_unpt, q_unpi, q_set, q_set0, q_nxt, q_ret, q_rret, q_rnxt, q_getn, q_get0, q_pi, q_pl, q_pv, q_pt, q_pb, q_pn, q_itl, q_divmod, q_wn, q_wr, q_ln, q_lr, q_aadd, q_asub, q_ashl, q_ashr, q_aor, q_len, q_lenv, q_thaw, q_frz, q_frzv, q_subi, q_subv, q_subt, q_cuti, q_cutv, q_part, q_itv, q_itt, q_rev, q_rng1, q_rng3, q_lst0, List.map]); (try simp only [V.isNone, true_and, and_true, Int.natCast_nonneg, decide_eq_true_eq, decide_eq_false_iff_not, List.append_nil])
  refine ⟨by (clear hb1 hN h hl hQ; lia), noPylong_diff ?_, ?_⟩
  · have : ¬ Builtin.Int.intBits b ≤ N - 1 := fun q => by have := lt_bits q; (clear b0 hN h hl hQ q; lia)
    (clear b0 hb1 h hQ; lia)
  rw [hQ, fdiv_ediv (by (clear hb1 hN h hl hQ; lia)), fmod_emod (by omega)]; exact h
theorem w_div2 {T : List V → (V → Prop) → Prop} {a b : Int} {N : Nat} (hp : pre2 0 a b N) {P : V → Prop} (h : P (.tup [.int (a / b), .int (a % b)])) :
    W_div2 T ([.int a, .int b, .int N] ++ List.replicate 8 .unb) (retP P) := by
  obtain ⟨h1, h2, h3, h4, h5, h6⟩ := hp
  have b0 : 0 < b := by have := pow2_pos (N - 1); (clear h h1 h2 h4 h5 h6; lia)
  have ab : Builtin.Int.intBits a ≤ N + N := bits_lt h1 (by
    rw [pow_add2]
    exact Int.lt_trans h5 (Int.mul_lt_mul_of_pos_right h4 (pow2_pos N)))
  unfold W_div2
  (try dsimp only [xNil, xCons, xLift, xNext, xWhile, xFor, sTry, sIter, sRetOwn, q_xnxt, q_xret, appRead, wSubK, wIf, sSetSub, sCallM, setSubW, Int.toNat_natCast, bCons, bNil, sIte, sRet, sRetNone, sAssign, sAssignM, sAug, sUnpack, sSwap, sAppend, sReverse, sAugSub, sNever, sFrz, sWiden, sFor, sWhile, cCmp, cPlain, wName, wInt, wBool, wNone, wBin, wCmp, wUn, wNil, wCons, wCall, wBitLen, wTup, wLst, wSub, wSubM, wLenM, wCut, pNone, pSome, iSeq, iRange, iRev, frz, appW, augSubW, List.replicate_succ, List.replicate_zero, List.cons_append, List.nil_append, List.set_cons_succ, List.set_cons_zero, List.length_cons, List.length_nil, q_rv2, q_rv3, List.reverse_nil, q_add, q_sub, q_mul, q_fdiv, q_mod, q_shl, q_shr, q_and, q_or, q_xor, q_pow, q_cat, q_catv, q_rep, q_repv, q_eq, q_ne, q_lt, q_le, q_eql, q_nel, q_neg, q_inv, q_tri, q_unpt, q_unpi, q_set, q_set0, q_nxt, q_ret, q_rret, q_rnxt, q_getn, q_get0, q_pi, q_pl, q_pv, q_pt, q_pb, q_pn, q_itl, q_divmod, q_wn, q_wr, q_ln, q_lr, q_aadd, q_asub, q_ashl, q_ashr, q_aor, q_len, q_lenv, q_thaw, q_frz, q_frzv, q_subi, q_subv, q_subt, q_cuti, q_cutv, q_part, q_itv, q_itt, q_rev, q_rng1, q_rng3, q_lst0, List.map]); (try simp only [V.isNone, true_and, and_true, Int.natCast_nonneg, decide_eq_true_eq, decide_eq_false_iff_not, List.append_nil])
  refine ⟨fun hc => ?_, fun hc => ?_⟩
  · exact w_div2_base b0 h3 h2 h (by (clear h h1 h2 h3 h4 h5 h6 b0 ab; lia)) _ (fun _ _ => rfl) _
  · exfalso; (clear h h1 h3 h4 h5 b0; lia)
theorem pc_div2 {C : Cx} (hK : C.K = KK C.w.params) : PC C 1 (.ref 21) (T2 0) := by
  refine PC.mono (PC.fn (n := 0) (fnok_div2 C hK) fun A L h₀ ok => ex_div2 C hK (T__div3n2n := fun _ _ => False) (m__div3n2n := 0) (fun A U s vs ws P Q E a wd tb al gU r hT k => hT.elim) (Nat.zero_le _) A L h₀ ok) ?_
  rintro vs P ⟨a, b, N, rfl, hp, h⟩
  exact ⟨rfl, w_div2 hp h⟩
end Mine
end
section
open PySem PySem.Calls PyProof.Rows PySem.W PySem.Spec PySem.SeqAt
set_option Elab.async false
set_option maxRecDepth 100000
set_option linter.unusedVariables false
set_option linter.unusedSimpArgs false
namespace Mine
noncomputable def digs (N : Nat) (x : Int) (m : Nat) : List Int := (List.range m).map fun i => x / 2 ^ (N * i) % 2 ^ N
theorem digs_length (N : Nat) (x : Int) (m : Nat) : (digs N x m).length = m := by simp [digs]
theorem digs_split {N : Nat} {x : Int} (a b : Nat) : digs N x (a + b) = digs N (x % 2 ^ (N * a)) a ++ digs N (x / 2 ^ (N * a)) b := by
  unfold digs
  rw [List.range_add, List.map_append, List.map_map]
  congr 1
  · apply List.map_congr_left
    intro i hi
    have hi := List.mem_range.mp hi
    have pi := pow2_pos (N * i)
    have e : N * a = N * i + (N * (a - i - 1) + N) := by
      have : a = i + (a - i - 1 + 1) := by (clear pi; omega)
      conv => lhs; rw [this, Nat.mul_add, Nat.mul_add, Nat.mul_one]
    rw [e, pow_add2, pow_add2, Int.mul_comm (2 ^ (N * (a - i - 1)))]
    -- (x % (p * (q * r))) / p % q = x / p % q
    have h1 : x % (2 ^ (N * i) * (2 ^ N * 2 ^ (N * (a - i - 1)))) / 2 ^ (N * i) = x / 2 ^ (N * i) % (2 ^ N * 2 ^ (N * (a - i - 1))) := by
      rw [Int.emod_def, Int.emod_def, ← Int.ediv_ediv_of_nonneg (Int.le_of_lt pi), Int.mul_assoc, Int.sub_eq_add_neg, ← Int.mul_neg, Int.add_mul_ediv_left _ _ (Int.ne_of_gt pi)]
      rfl
    rw [h1, Int.emod_emod_of_dvd _ (Int.dvd_mul_right _ _)]
  · apply List.map_congr_left
    intro i _
    simp only [Function.comp_apply, Nat.mul_add, pow_add2]
    rw [Int.ediv_ediv_of_nonneg (Int.le_of_lt (pow2_pos _))]
theorem digs_one {N : Nat} {x : Int} (h0 : 0 ≤ x) (h1 : x < 2 ^ N) : digs N x 1 = [x] := by
  simp [digs, Int.emod_eq_of_lt h0 h1]
noncomputable def putD (ds : List Int) (N : Nat) (x : Int) (L m : Nat) : List Int := ds.take L ++ (digs N x m ++ ds.drop (L + m))
theorem putD_length {ds : List Int} {N : Nat} {x : Int} {L m : Nat} (h : L + m ≤ ds.length) : (putD ds N x L m).length = ds.length := by
  unfold putD; simp [digs_length]; lia
theorem putD_put {ds : List Int} {N : Nat} {x : Int} {L a b : Nat} (h : L + (a + b) ≤ ds.length) :
    putD (putD ds N (x % 2 ^ (N * a)) L a) N (x / 2 ^ (N * a)) (L + a) b = putD ds N x L (a + b) := by
  have e1 : (putD ds N (x % 2 ^ (N * a)) L a).take (L + a) = ds.take L ++ digs N (x % 2 ^ (N * a)) a := by
    unfold putD
    rw [← List.append_assoc, List.take_append_of_le_length (by simp [digs_length]; lia), List.take_of_length_le (by simp [digs_length]; (clear h; lia))]
  have e2 : (putD ds N (x % 2 ^ (N * a)) L a).drop (L + a + b) = ds.drop (L + (a + b)) := by
    unfold putD
    rw [← List.append_assoc, List.drop_append, List.drop_eq_nil_of_le (by simp [digs_length]; (clear h e1; lia)), List.nil_append, List.drop_drop]
    congr 1; simp [digs_length]; (clear e1; lia)
  unfold putD at e1 e2 ⊢
  rw [e1, e2, digs_split a b]
  simp [List.append_assoc]
theorem putD_one {ds : List Int} {N : Nat} {x : Int} {L : Nat} (h0 : 0 ≤ x) (h1 : x < 2 ^ N) (hL : L < ds.length) : ds.set L x = putD ds N x L 1 := by
  unfold putD; rw [digs_one h0 h1, List.set_eq_take_append_cons_drop, if_pos hL]; rfl
noncomputable def TM1 (N D : Nat) (vs : List V) (ds : List Int) (P : V → List Int → Prop) : Prop :=
  ∃ (x : Int) (L m : Nat), vs = [.int x, .int L, .int ((L + m : Nat) : Int)] ∧ 0 ≤ x ∧ 0 < m ∧ m ≤ 2 ^ D ∧ L + m ≤ ds.length ∧ ds.length ≤ 2 ^ 24 ∧ N * m ≤ 2 ^ 26 ∧ N ≤ 2 ^ 24 ∧ x < 2 ^ (N * m) ∧ P .none (putD ds N x L m)
theorem w_in1 {N D : Nat} {T : List V → List Int → (V → List Int → Prop) → Prop} (hT : 0 < D → T = TM1 N (D - 1)) {x : Int} {L m : Nat} {ds : List Int} {P : V → List Int → Prop} (h0 : 0 ≤ x) (hm : 0 < m) (hD : m ≤ 2 ^ D) (hL : L + m ≤ ds.length) (hl : ds.length ≤ 2 ^ 24) (hN : N * m ≤ 2 ^ 26) (hN' : N ≤ 2 ^ 24) (hx : x < 2 ^ (N * m))
    (hP : P .none (putD ds N x L m)) :
    W_in1 T ([.int x, .int L, .int ((L + m : Nat) : Int)] ++ (List.replicate 4 .unb ++ ([(N : Int)].map V.int ++ [.mints ds]))) (fun o st' => ∃ ds', st'[8]? = some (.mints ds') ∧ retP (fun v => P v ds') o st') := by
  unfold W_in1
  (try dsimp only [xNil, xCons, xLift, xNext, xWhile, xFor, sTry, sIter, sRetOwn, q_xnxt, q_xret, appRead, wSubK, wIf, sSetSub, sCallM, setSubW, Int.toNat_natCast, bCons, bNil, sIte, sRet, sRetNone, sAssign, sAssignM, sAug, sUnpack, sSwap, sAppend, sReverse, sAugSub, sNever, sFrz, sWiden, sFor, sWhile, cCmp, cPlain, wName, wInt, wBool, wNone, wBin, wCmp, wUn, wNil, wCons, wCall, wBitLen, wTup, wLst, wSub, wSubM, wLenM, wCut, pNone, pSome, iSeq, iRange, iRev, frz, appW, augSubW, List.replicate_succ, List.replicate_zero, List.cons_append, List.nil_append, List.set_cons_succ, List.set_cons_zero, List.length_cons, List.length_nil, q_rv2, q_rv3, List.reverse_nil, q_add, q_sub, q_mul, q_fdiv, q_mod, q_shl, q_shr, q_and, q_or, q_xor, q_pow, q_cat, q_catv, q_rep, q_repv, q_eq, q_ne, q_lt, q_le, q_eql, q_nel, q_neg, q_inv, q_tri, q_unpt, q_unpi, q_set, q_set0, q_nxt, q_ret, q_rret, q_rnxt, q_getn, q_get0, q_pi, q_pl, q_pv, q_pt, q_pb, q_pn, q_itl, q_divmod, q_wn, q_wr, q_ln, q_lr, q_aadd, q_asub, q_ashl, q_ashr, q_aor, q_len, q_lenv, q_thaw, q_frz, q_frzv, q_subi, q_subv, q_subt, q_cuti, q_cutv, q_part, q_itv, q_itt, q_rev, q_rng1, q_rng3, q_lst0, List.map]); (try simp only [V.isNone, true_and, and_true, Int.natCast_nonneg, decide_eq_true_eq, decide_eq_false_iff_not, List.append_nil, List.map_cons, List.map_nil])
  refine ⟨fun hc => ?_, fun hc => ?_⟩
  · have : m = 1 := by (clear hT h0 hm hD hL hl hN hN' hx hP; lia)
    subst this
    unfold W_in1_1_0
    (try dsimp only [xNil, xCons, xLift, xNext, xWhile, xFor, sTry, sIter, sRetOwn, q_xnxt, q_xret, appRead, wSubK, wIf, sSetSub, sCallM, setSubW, Int.toNat_natCast, bCons, bNil, sIte, sRet, sRetNone, sAssign, sAssignM, sAug, sUnpack, sSwap, sAppend, sReverse, sAugSub, sNever, sFrz, sWiden, sFor, sWhile, cCmp, cPlain, wName, wInt, wBool, wNone, wBin, wCmp, wUn, wNil, wCons, wCall, wBitLen, wTup, wLst, wSub, wSubM, wLenM, wCut, pNone, pSome, iSeq, iRange, iRev, frz, appW, augSubW, List.replicate_succ, List.replicate_zero, List.cons_append, List.nil_append, List.set_cons_succ, List.set_cons_zero, List.length_cons, List.length_nil, q_rv2, q_rv3, List.reverse_nil, q_add, q_sub, q_mul, q_fdiv, q_mod, q_shl, q_shr, q_and, q_or, q_xor, q_pow, q_cat, q_catv, q_rep, q_repv, q_eq, q_ne, q_lt, q_le, q_eql, q_nel, q_neg, q_inv, q_tri, q_unpt, q_unpi, q_set, q_set0, q_nxt, q_ret, q_rret, q_rnxt, q_getn, q_get0, q_pi, q_pl, q_pv, q_pt, q_pb, q_pn, q_itl, q_divmod, q_wn, q_wr, q_ln, q_lr, q_aadd, q_asub, q_ashl, q_ashr, q_aor, q_len, q_lenv, q_thaw, q_frz, q_frzv, q_subi, q_subv, q_subt, q_cuti, q_cutv, q_part, q_itv, q_itt, q_rev, q_rng1, q_rng3, q_lst0, List.map]); (try simp only [V.isNone, true_and, and_true, Int.natCast_nonneg, decide_eq_true_eq, decide_eq_false_iff_not, List.append_nil])
    refine ⟨by (clear hT h0 hl hN' hm hD hN hx hP hc; lia), by (clear hT h0 hN' hm hD hN hx hP hc; lia), ?_⟩
    unfold W_in1_1_1
    (try dsimp only [xNil, xCons, xLift, xNext, xWhile, xFor, sTry, sIter, sRetOwn, q_xnxt, q_xret, appRead, wSubK, wIf, sSetSub, sCallM, setSubW, Int.toNat_natCast, bCons, bNil, sIte, sRet, sRetNone, sAssign, sAssignM, sAug, sUnpack, sSwap, sAppend, sReverse, sAugSub, sNever, sFrz, sWiden, sFor, sWhile, cCmp, cPlain, wName, wInt, wBool, wNone, wBin, wCmp, wUn, wNil, wCons, wCall, wBitLen, wTup, wLst, wSub, wSubM, wLenM, wCut, pNone, pSome, iSeq, iRange, iRev, frz, appW, augSubW, List.replicate_succ, List.replicate_zero, List.cons_append, List.nil_append, List.set_cons_succ, List.set_cons_zero, List.length_cons, List.length_nil, q_rv2, q_rv3, List.reverse_nil, q_add, q_sub, q_mul, q_fdiv, q_mod, q_shl, q_shr, q_and, q_or, q_xor, q_pow, q_cat, q_catv, q_rep, q_repv, q_eq, q_ne, q_lt, q_le, q_eql, q_nel, q_neg, q_inv, q_tri, q_unpt, q_unpi, q_set, q_set0, q_nxt, q_ret, q_rret, q_rnxt, q_getn, q_get0, q_pi, q_pl, q_pv, q_pt, q_pb, q_pn, q_itl, q_divmod, q_wn, q_wr, q_ln, q_lr, q_aadd, q_asub, q_ashl, q_ashr, q_aor, q_len, q_lenv, q_thaw, q_frz, q_frzv, q_subi, q_subv, q_subt, q_cuti, q_cutv, q_part, q_itv, q_itt, q_rev, q_rng1, q_rng3, q_lst0, List.map]); (try simp only [V.isNone, true_and, and_true, Int.natCast_nonneg, decide_eq_true_eq, decide_eq_false_iff_not, List.append_nil])
    refine ⟨_, rfl, ?_⟩
    rw [putD_one h0 (by simpa using hx) (by omega)]
    exact hP
  · have hm2 : 2 ≤ m := by (clear hT h0 hD hL hl hN hN' hx hP; lia)
    have Dp : 0 < D := by
      rcases Nat.eq_zero_or_pos D with q | q
      · subst q; simp at hD; (clear h0 hm hL hl hN hN' hx hP hc hT; lia)
      · exact q
    have eD : 2 ^ D = 2 ^ (D - 1) * 2 := by rw [← Nat.pow_succ]; congr 1; (clear hT h0 hm hD hL hl hN hN' hx hP hc hm2; lia)
    rw [hT Dp]
    obtain ⟨a, b, ea, hab, ha, hb⟩ : ∃ a b, a + b = m ∧ a = m / 2 ∧ 0 < a ∧ 0 < b := ⟨m / 2, m - m / 2, by (clear hT h0 hm hD hN hN' hx hP hc Dp eD; lia), rfl, by (clear hT h0 hm hD hL hl hN hN' hx hP hc Dp eD; lia), by (clear hT h0 hm hD hN hN' hx hP hc Dp eD; lia)⟩
    subst ea
    unfold W_in1_0_1
    (try dsimp only [xNil, xCons, xLift, xNext, xWhile, xFor, sTry, sIter, sRetOwn, q_xnxt, q_xret, appRead, wSubK, wIf, sSetSub, sCallM, setSubW, Int.toNat_natCast, bCons, bNil, sIte, sRet, sRetNone, sAssign, sAssignM, sAug, sUnpack, sSwap, sAppend, sReverse, sAugSub, sNever, sFrz, sWiden, sFor, sWhile, cCmp, cPlain, wName, wInt, wBool, wNone, wBin, wCmp, wUn, wNil, wCons, wCall, wBitLen, wTup, wLst, wSub, wSubM, wLenM, wCut, pNone, pSome, iSeq, iRange, iRev, frz, appW, augSubW, List.replicate_succ, List.replicate_zero, List.cons_append, List.nil_append, List.set_cons_succ, List.set_cons_zero, List.length_cons, List.length_nil, q_rv2, q_rv3, List.reverse_nil, q_add, q_sub, q_mul, q_fdiv, q_mod, q_shl, q_shr, q_and, q_or, q_xor, q_pow, q_cat, q_catv, q_rep, q_repv, q_eq, q_ne, q_lt, q_le, q_eql, q_nel, q_neg, q_inv, q_tri, q_unpt, q_unpi, q_set, q_set0, q_nxt, q_ret, q_rret, q_rnxt, q_getn, q_get0, q_pi, q_pl, q_pv, q_pt, q_pb, q_pn, q_itl, q_divmod, q_wn, q_wr, q_ln, q_lr, q_aadd, q_asub, q_ashl, q_ashr, q_aor, q_len, q_lenv, q_thaw, q_frz, q_frzv, q_subi, q_subv, q_subt, q_cuti, q_cutv, q_part, q_itv, q_itt, q_rev, q_rng1, q_rng3, q_lst0, List.map]); (try simp only [V.isNone, true_and, and_true, Int.natCast_nonneg, decide_eq_true_eq, decide_eq_false_iff_not, List.append_nil])
    refine ⟨by decide, ?_⟩
    have emid : ((L : Int) + ((L + (a + b) : Nat) : Int)).fdiv (2 ^ (1 : Int).toNat) = ((L + a : Nat) : Int) := by
      rw [fdiv_ediv (by decide)]; show ((L : Int) + ((L + (a + b) : Nat) : Int)) / 2 = ((L + a : Nat) : Int); (clear hT h0 hl hN' Dp eD ha hb hm hD hL hN hx hP hc hm2; lia)
    rw [emid]
    unfold W_in1_0_2
    (try dsimp only [xNil, xCons, xLift, xNext, xWhile, xFor, sTry, sIter, sRetOwn, q_xnxt, q_xret, appRead, wSubK, wIf, sSetSub, sCallM, setSubW, Int.toNat_natCast, bCons, bNil, sIte, sRet, sRetNone, sAssign, sAssignM, sAug, sUnpack, sSwap, sAppend, sReverse, sAugSub, sNever, sFrz, sWiden, sFor, sWhile, cCmp, cPlain, wName, wInt, wBool, wNone, wBin, wCmp, wUn, wNil, wCons, wCall, wBitLen, wTup, wLst, wSub, wSubM, wLenM, wCut, pNone, pSome, iSeq, iRange, iRev, frz, appW, augSubW, List.replicate_succ, List.replicate_zero, List.cons_append, List.nil_append, List.set_cons_succ, List.set_cons_zero, List.length_cons, List.length_nil, q_rv2, q_rv3, List.reverse_nil, q_add, q_sub, q_mul, q_fdiv, q_mod, q_shl, q_shr, q_and, q_or, q_xor, q_pow, q_cat, q_catv, q_rep, q_repv, q_eq, q_ne, q_lt, q_le, q_eql, q_nel, q_neg, q_inv, q_tri, q_unpt, q_unpi, q_set, q_set0, q_nxt, q_ret, q_rret, q_rnxt, q_getn, q_get0, q_pi, q_pl, q_pv, q_pt, q_pb, q_pn, q_itl, q_divmod, q_wn, q_wr, q_ln, q_lr, q_aadd, q_asub, q_ashl, q_ashr, q_aor, q_len, q_lenv, q_thaw, q_frz, q_frzv, q_subi, q_subv, q_subt, q_cuti, q_cutv, q_part, q_itv, q_itt, q_rev, q_rng1, q_rng3, q_lst0, List.map]); (try simp only [V.isNone, true_and, and_true, Int.natCast_nonneg, decide_eq_true_eq, decide_eq_false_iff_not, List.append_nil])
    have es : (((L + a : Nat) : Int) - (L : Int)) * (N : Int) = ((N * a : Nat) : Int) := by push_cast; rw [Int.add_comm, Int.add_sub_cancel, Int.mul_comm]
    have hNa : N * a ≤ N * (a + b) := Nat.mul_le_mul_left _ (by (clear hT h0 hl hN' Dp eD ha hm hD hL hN hx hP hc hm2 hab emid es; lia))
    have hNb : N * b ≤ N * (a + b) := Nat.mul_le_mul_left _ (by (clear hT h0 hl hN' Dp eD hb hm hD hL hN hx hP hc hm2 emid es hNa; lia))
    have p24 : ∀ y : Nat, y ≤ 2 ^ 24 → Builtin.Int.intBits (y : Int) ≤ 25 := fun y hy => bits_lt (by (clear hT h0 hl hN' Dp eD ha hb hm hD hL hN hx hP hc hm2 hab emid es hNa hNb; lia)) (by (clear hT h0 hl hN' Dp eD ha hb hm hD hL hN hx hP hc hm2 hab emid es hNa hNb; lia))
    refine ⟨IntMulOk.of_le (m := 25) (n := 25) ?_ (p24 N hN') (by (clear hT h0 hl hN' Dp eD ha hb hm hD hL hN hx hP hc hm2 hab emid es hNa hNb p24; lia)), ?_⟩
    · have : ((L + a : Nat) : Int) - (L : Int) = (a : Int) := by push_cast; (clear hT h0 hl hN' Dp eD ha hb hm hD hL hN hx hP hc hm2 hab emid es hNa hNb p24; lia)
      rw [this]; exact p24 a (by (clear hT h0 hN' Dp eD ha hb hm hD hN hx hP hc hm2 es hNa hNb p24 this; lia))
    rw [es]
    unfold W_in1_0_3
    (try dsimp only [xNil, xCons, xLift, xNext, xWhile, xFor, sTry, sIter, sRetOwn, q_xnxt, q_xret, appRead, wSubK, wIf, sSetSub, sCallM, setSubW, Int.toNat_natCast, bCons, bNil, sIte, sRet, sRetNone, sAssign, sAssignM, sAug, sUnpack, sSwap, sAppend, sReverse, sAugSub, sNever, sFrz, sWiden, sFor, sWhile, cCmp, cPlain, wName, wInt, wBool, wNone, wBin, wCmp, wUn, wNil, wCons, wCall, wBitLen, wTup, wLst, wSub, wSubM, wLenM, wCut, pNone, pSome, iSeq, iRange, iRev, frz, appW, augSubW, List.replicate_succ, List.replicate_zero, List.cons_append, List.nil_append, List.set_cons_succ, List.set_cons_zero, List.length_cons, List.length_nil, q_rv2, q_rv3, List.reverse_nil, q_add, q_sub, q_mul, q_fdiv, q_mod, q_shl, q_shr, q_and, q_or, q_xor, q_pow, q_cat, q_catv, q_rep, q_repv, q_eq, q_ne, q_lt, q_le, q_eql, q_nel, q_neg, q_inv, q_tri, q_unpt, q_unpi, q_set, q_set0, q_nxt, q_ret, q_rret, q_rnxt, q_getn, q_get0, q_pi, q_pl, q_pv, q_pt, q_pb, q_pn, q_itl, q_divmod, q_wn, q_wr, q_ln, q_lr, q_aadd, q_asub, q_ashl, q_ashr, q_aor, q_len, q_lenv, q_thaw, q_frz, q_frzv, q_subi, q_subv, q_subt, q_cuti, q_cutv, q_part, q_itv, q_itt, q_rev, q_rng1, q_rng3, q_lst0, List.map]); (try simp only [V.isNone, true_and, and_true, Int.natCast_nonneg, decide_eq_true_eq, decide_eq_false_iff_not, List.append_nil])
    unfold W_in1_0_4
    (try dsimp only [xNil, xCons, xLift, xNext, xWhile, xFor, sTry, sIter, sRetOwn, q_xnxt, q_xret, appRead, wSubK, wIf, sSetSub, sCallM, setSubW, Int.toNat_natCast, bCons, bNil, sIte, sRet, sRetNone, sAssign, sAssignM, sAug, sUnpack, sSwap, sAppend, sReverse, sAugSub, sNever, sFrz, sWiden, sFor, sWhile, cCmp, cPlain, wName, wInt, wBool, wNone, wBin, wCmp, wUn, wNil, wCons, wCall, wBitLen, wTup, wLst, wSub, wSubM, wLenM, wCut, pNone, pSome, iSeq, iRange, iRev, frz, appW, augSubW, List.replicate_succ, List.replicate_zero, List.cons_append, List.nil_append, List.set_cons_succ, List.set_cons_zero, List.length_cons, List.length_nil, q_rv2, q_rv3, List.reverse_nil, q_add, q_sub, q_mul, q_fdiv, q_mod, q_shl, q_shr, q_and, q_or, q_xor, q_pow, q_cat, q_catv, q_rep, q_repv, q_eq, q_ne, q_lt, q_le, q_eql, q_nel, q_neg, q_inv, q_tri, q_unpt, q_unpi, q_set, q_set0, q_nxt, q_ret, q_rret, q_rnxt, q_getn, q_get0, q_pi, q_pl, q_pv, q_pt, q_pb, q_pn, q_itl, q_divmod, q_wn, q_wr, q_ln, q_lr, q_aadd, q_asub, q_ashl, q_ashr, q_aor, q_len, q_lenv, q_thaw, q_frz, q_frzv, q_subi, q_subv, q_subt, q_cuti, q_cutv, q_part, q_itv, q_itt, q_rev, q_rng1, q_rng3, q_lst0, List.map]); (try simp only [V.isNone, true_and, and_true, Int.natCast_nonneg, decide_eq_true_eq, decide_eq_false_iff_not, List.append_nil])
    have pa := pow2_pos (N * a)
    have px : x.fdiv (2 ^ (N * a)) = x / 2 ^ (N * a) := fdiv_ediv (Int.le_of_lt pa)
    have ux0 : 0 ≤ x / 2 ^ (N * a) := Int.ediv_nonneg h0 (Int.le_of_lt pa)
    have ux1 : x / 2 ^ (N * a) < 2 ^ (N * b) := by
      rw [Int.ediv_lt_iff_lt_mul pa, ← pow_add2]
      have : N * b + N * a = N * (a + b) := by rw [Nat.mul_add]; (clear hT h0 hl hN' Dp eD ha hb hm hD hL hN hx hP hc hm2 hab emid es hNa hNb p24 pa px ux0; lia)
      rw [this]; exact hx
    refine ⟨?_, ?_⟩
    · rw [px]; have := bits_lt ux0 ux1; (clear hT h0 hl hN' Dp eD ha hb hm hD hL hx hP hc hm2 hab emid es p24 pa px ux0 ux1; lia)
    rw [bxor_low h0, px]
    have l0 := Int.emod_nonneg x (Int.ne_of_gt pa)
    have l1 := Int.emod_lt_of_pos x pa
    unfold W_in1_0_5
    (try dsimp only [xNil, xCons, xLift, xNext, xWhile, xFor, sTry, sIter, sRetOwn, q_xnxt, q_xret, appRead, wSubK, wIf, sSetSub, sCallM, setSubW, Int.toNat_natCast, bCons, bNil, sIte, sRet, sRetNone, sAssign, sAssignM, sAug, sUnpack, sSwap, sAppend, sReverse, sAugSub, sNever, sFrz, sWiden, sFor, sWhile, cCmp, cPlain, wName, wInt, wBool, wNone, wBin, wCmp, wUn, wNil, wCons, wCall, wBitLen, wTup, wLst, wSub, wSubM, wLenM, wCut, pNone, pSome, iSeq, iRange, iRev, frz, appW, augSubW, List.replicate_succ, List.replicate_zero, List.cons_append, List.nil_append, List.set_cons_succ, List.set_cons_zero, List.length_cons, List.length_nil, q_rv2, q_rv3, List.reverse_nil, q_add, q_sub, q_mul, q_fdiv, q_mod, q_shl, q_shr, q_and, q_or, q_xor, q_pow, q_cat, q_catv, q_rep, q_repv, q_eq, q_ne, q_lt, q_le, q_eql, q_nel, q_neg, q_inv, q_tri, q_unpt, q_unpi, q_set, q_set0, q_nxt, q_ret, q_rret, q_rnxt, q_getn, q_get0, q_pi, q_pl, q_pv, q_pt, q_pb, q_pn, q_itl, q_divmod, q_wn, q_wr, q_ln, q_lr, q_aadd, q_asub, q_ashl, q_ashr, q_aor, q_len, q_lenv, q_thaw, q_frz, q_frzv, q_subi, q_subv, q_subt, q_cuti, q_cutv, q_part, q_itv, q_itt, q_rev, q_rng1, q_rng3, q_lst0, List.map]); (try simp only [V.isNone, true_and, and_true, Int.natCast_nonneg, decide_eq_true_eq, decide_eq_false_iff_not, List.append_nil])
    refine ⟨_, L, a, rfl, l0, ha, by (clear hT h0 hl hN' Dp ha hb hm hL hN hx hP hc hm2 emid es hNa hNb p24 pa px ux0 ux1 l0 l1; lia), by (clear hT h0 hl hN' Dp eD hb hm hD hN hx hP hc hm2 es hNa hNb p24 pa px ux0 ux1 l0 l1; lia), hl, by (clear hT h0 hl hN' Dp eD ha hb hm hD hL hx hP hc hm2 hab emid es hNb p24 pa px ux0 ux1 l0 l1; lia), hN', l1, trivial, ?_⟩
    unfold W_in1_0_6
    (try dsimp only [xNil, xCons, xLift, xNext, xWhile, xFor, sTry, sIter, sRetOwn, q_xnxt, q_xret, appRead, wSubK, wIf, sSetSub, sCallM, setSubW, Int.toNat_natCast, bCons, bNil, sIte, sRet, sRetNone, sAssign, sAssignM, sAug, sUnpack, sSwap, sAppend, sReverse, sAugSub, sNever, sFrz, sWiden, sFor, sWhile, cCmp, cPlain, wName, wInt, wBool, wNone, wBin, wCmp, wUn, wNil, wCons, wCall, wBitLen, wTup, wLst, wSub, wSubM, wLenM, wCut, pNone, pSome, iSeq, iRange, iRev, frz, appW, augSubW, List.replicate_succ, List.replicate_zero, List.cons_append, List.nil_append, List.set_cons_succ, List.set_cons_zero, List.length_cons, List.length_nil, q_rv2, q_rv3, List.reverse_nil, q_add, q_sub, q_mul, q_fdiv, q_mod, q_shl, q_shr, q_and, q_or, q_xor, q_pow, q_cat, q_catv, q_rep, q_repv, q_eq, q_ne, q_lt, q_le, q_eql, q_nel, q_neg, q_inv, q_tri, q_unpt, q_unpi, q_set, q_set0, q_nxt, q_ret, q_rret, q_rnxt, q_getn, q_get0, q_pi, q_pl, q_pv, q_pt, q_pb, q_pn, q_itl, q_divmod, q_wn, q_wr, q_ln, q_lr, q_aadd, q_asub, q_ashl, q_ashr, q_aor, q_len, q_lenv, q_thaw, q_frz, q_frzv, q_subi, q_subv, q_subt, q_cuti, q_cutv, q_part, q_itv, q_itt, q_rev, q_rng1, q_rng3, q_lst0, List.map]); (try simp only [V.isNone, true_and, and_true, Int.natCast_nonneg, decide_eq_true_eq, decide_eq_false_iff_not, List.append_nil])
    refine ⟨_, L + a, b, by rw [Nat.add_assoc], ux0, hb, by (clear hT h0 hl hN' Dp ha hb hm hL hN hx hP hc hm2 emid es hNa hNb p24 pa px ux0 ux1 l0 l1; lia), by rw [putD_length (by omega)]; (clear hT h0 hl hN' Dp eD ha hb hm hD hN hx hP hc hm2 es hNa hNb p24 pa px ux0 ux1 l0 l1; lia), by rw [putD_length (by omega)]; exact hl, by (clear hT h0 hl hN' Dp eD ha hb hm hD hL hx hP hc hm2 hab emid es hNa p24 pa px ux0 ux1 l0 l1; lia), hN', ux1, trivial, ?_⟩
    refine ⟨_, rfl, ?_⟩
    rw [putD_put hL]
    exact hP
theorem pcm_in1 {C : Cx} {f : Addr} {fd : FuncData} {la : Addr} {N : Nat} (ok : CloOk C f fd (bodyOf (subAt pw 4 1)) 3 nm_in1) (hsc : fd.scope = scopeOf (subAt pw 4 1)) (hr : ∀ L h, C.K.In h → Rd (callEnv fd L f) h (Str.ofString "inner") (.ref f)) (hk : KeepOk C (.ref f))
    (rl : ∀ L h, C.K.In h → Rd (callEnv fd L f) h (Str.ofString "a_digits") (.ref la)) (hu : ∀ L h w, C.K.In h → Rd (callEnv fd L f) h (Str.ofString "a_digits") w → w = .ref la)
    (hn : ∀ L h, C.K.In h → ∃ t, Rd (callEnv fd L f) h (Str.ofString "n") (.int N t)) : ∀ D, PCM C (D + 1) (.ref f) la (TM1 N D)
  | 0 => by
    refine PCM.mono (PCM.clo (n := 0) ok 4 [(N : Int)] (y := Str.ofString "a_digits") rfl ?_ rl hu fun A L h₀ okF => ex_in1 hsc hr hk hu (T := fun _ _ _ => False) (m := 0) (fun A U s vs ws ds P Q E _ _ _ _ _ _ _ _ hT => hT.elim) (Nat.zero_le _) A L h₀ okF) ?_
    · intro L h i x v inK h1 h2
      cases i with
      | zero => simp at h2; subst h2; have : x = Str.ofString "n" := by injection h1 with h1; exact h1.symm
                subst this; exact hn L h inK
      | succ i => simp at h2
    · rintro vs ds P ⟨x, L, m, rfl, h0, hm, hD, hL, hl, hN, hN', hx, hP⟩
      exact ⟨rfl, w_in1 (D := 0) (fun h => absurd h (by decide)) h0 hm hD hL hl hN hN' hx hP⟩
  | D + 1 => by
    refine PCM.mono (PCM.clo (n := D + 1) ok 4 [(N : Int)] (y := Str.ofString "a_digits") rfl ?_ rl hu fun A L h₀ okF => ex_in1 hsc hr hk hu (pcm_in1 ok hsc hr hk rl hu hn D) (Nat.le_refl _) A L h₀ okF) ?_
    · intro L h i x v inK h1 h2
      cases i with
      | zero => simp at h2; subst h2; have : x = Str.ofString "n" := by injection h1 with h1; exact h1.symm
                subst this; exact hn L h inK
      | succ i => simp at h2
    · rintro vs ds P ⟨x, L, m, rfl, h0, hm, hD, hL, hl, hN, hN', hx, hP⟩
      exact ⟨rfl, w_in1 (D := D + 1) (fun _ => rfl) h0 hm hD hL hl hN hN' hx hP⟩
end Mine
end
section
open PySem PySem.Calls PyProof.Rows PySem.W PySem.Spec PySem.SeqAt
set_option Elab.async false
set_option maxRecDepth 100000
set_option linter.unusedVariables false
set_option linter.unusedSimpArgs false
namespace Mine
noncomputable def val (N : Nat) : List Int → Int
  | [] => 0
  | d :: r => d + 2 ^ N * val N r
theorem val_append (N : Nat) (b : List Int) : ∀ a : List Int, val N (a ++ b) = val N a + 2 ^ (N * a.length) * val N b
  | [] => by simp [val]
  | d :: r => by
    simp only [List.cons_append, val, val_append N b r, List.length_cons, Nat.mul_add, Nat.mul_one, pow_add2]
    grind
theorem val_nonneg (N : Nat) : ∀ a : List Int, (∀ d ∈ a, 0 ≤ d) → 0 ≤ val N a
  | [], _ => by simp [val]
  | d :: r, h => by
    have h1 := h d List.mem_cons_self
    have h2 := val_nonneg N r fun x hx => h x (List.mem_cons_of_mem _ hx)
    have := Int.mul_nonneg (Int.le_of_lt (pow2_pos N)) h2
    simp only [val]; (clear h h2; lia)
theorem pow_mono2 {a b : Nat} (h : a ≤ b) : (2 : Int) ^ a ≤ 2 ^ b := by
  rw [← cast_pow2, ← cast_pow2]; exact Int.ofNat_le.mpr (Nat.pow_le_pow_right (by decide) h)
theorem val_lt (N B : Nat) : ∀ a : List Int, (∀ d ∈ a, d < 2 ^ B) → val N a < 2 ^ (B + (N + 1) * a.length)
  | [], _ => by simp [val]; exact pow2_pos B
  | d :: r, h => by
    have h1 := h d List.mem_cons_self
    have h2 := val_lt N B r fun x hx => h x (List.mem_cons_of_mem _ hx)
    have h3 : (2 : Int) ^ N * val N r ≤ 2 ^ N * 2 ^ (B + (N + 1) * r.length) := Int.mul_le_mul_of_nonneg_left (Int.le_of_lt h2) (Int.le_of_lt (pow2_pos N))
    have e : B + (N + 1) * (d :: r).length = (N + (B + (N + 1) * r.length)) + 1 := by simp [Nat.mul_add]; (clear h h1 h2 h3; lia)
    rw [e, Int.pow_succ, pow_add2]
    have h4 : (2 : Int) ^ B ≤ 2 ^ N * 2 ^ (B + (N + 1) * r.length) := by rw [← pow_add2]; exact pow_mono2 (by (clear h h1 h2 h3; lia))
    simp only [val]; (clear h h2 e; lia)
noncomputable def TI2 (N B : Nat) (ds : List Int) (D : Nat) (vs : List V) (P : V → Prop) : Prop :=
  ∃ (L m : Nat), vs = [.int L, .int ((L + m : Nat) : Int)] ∧ 0 < m ∧ m ≤ 2 ^ D ∧ L + m ≤ ds.length ∧ B + (N + 1) * m ≤ 2 ^ 26 ∧ P (.int (val N ((ds.drop L).take m)))
theorem w_in2 {N B D : Nat} {ds : List Int} {T : List V → (V → Prop) → Prop} (hds : ∀ d ∈ ds, 0 ≤ d ∧ d < 2 ^ B) (hl : ds.length ≤ 2 ^ 24) (hN' : N ≤ 2 ^ 24) (hT : 0 < D → T = TI2 N B ds (D - 1)) {L m : Nat} {P : V → Prop} (hm : 0 < m) (hD : m ≤ 2 ^ D) (hL : L + m ≤ ds.length) (hN : B + (N + 1) * m ≤ 2 ^ 26)
    (hP : P (.int (val N ((ds.drop L).take m)))) :
    W_in2 ds T ([.int L, .int ((L + m : Nat) : Int)] ++ (List.replicate 2 .unb ++ [(N : Int)].map V.int)) (retP P) := by
  unfold W_in2
  (try dsimp only [xNil, xCons, xLift, xNext, xWhile, xFor, sTry, sIter, sRetOwn, q_xnxt, q_xret, appRead, wSubK, wIf, sSetSub, sCallM, setSubW, Int.toNat_natCast, bCons, bNil, sIte, sRet, sRetNone, sAssign, sAssignM, sAug, sUnpack, sSwap, sAppend, sReverse, sAugSub, sNever, sFrz, sWiden, sFor, sWhile, cCmp, cPlain, wName, wInt, wBool, wNone, wBin, wCmp, wUn, wNil, wCons, wCall, wBitLen, wTup, wLst, wSub, wSubM, wLenM, wCut, pNone, pSome, iSeq, iRange, iRev, frz, appW, augSubW, List.replicate_succ, List.replicate_zero, List.cons_append, List.nil_append, List.set_cons_succ, List.set_cons_zero, List.length_cons, List.length_nil, q_rv2, q_rv3, List.reverse_nil, q_add, q_sub, q_mul, q_fdiv, q_mod, q_shl, q_shr, q_and, q_or, q_xor, q_pow, q_cat, q_catv, q_rep, q_repv, q_eq, q_ne, q_lt, q_le, q_eql, q_nel, q_neg, q_inv, q_tri, q_unpt, q_unpi, q_set, q_set0, q_nxt, q_ret, q_rret, q_rnxt, q_getn, q_get0, q_pi, q_pl, q_pv, q_pt, q_pb, q_pn, q_itl, q_divmod, q_wn, q_wr, q_ln, q_lr, q_aadd, q_asub, q_ashl, q_ashr, q_aor, q_len, q_lenv, q_thaw, q_frz, q_frzv, q_subi, q_subv, q_subt, q_cuti, q_cutv, q_part, q_itv, q_itt, q_rev, q_rng1, q_rng3, q_lst0, List.map]); (try simp only [V.isNone, true_and, and_true, Int.natCast_nonneg, decide_eq_true_eq, decide_eq_false_iff_not, List.append_nil, List.map_cons, List.map_nil])
  refine ⟨fun hc => ?_, fun hc => ?_⟩
  · have : m = 1 := by (clear hds hl hN' hT hm hD hL hN hP; lia)
    subst this
    unfold W_in2_1_0
    (try dsimp only [xNil, xCons, xLift, xNext, xWhile, xFor, sTry, sIter, sRetOwn, q_xnxt, q_xret, appRead, wSubK, wIf, sSetSub, sCallM, setSubW, Int.toNat_natCast, bCons, bNil, sIte, sRet, sRetNone, sAssign, sAssignM, sAug, sUnpack, sSwap, sAppend, sReverse, sAugSub, sNever, sFrz, sWiden, sFor, sWhile, cCmp, cPlain, wName, wInt, wBool, wNone, wBin, wCmp, wUn, wNil, wCons, wCall, wBitLen, wTup, wLst, wSub, wSubM, wLenM, wCut, pNone, pSome, iSeq, iRange, iRev, frz, appW, augSubW, List.replicate_succ, List.replicate_zero, List.cons_append, List.nil_append, List.set_cons_succ, List.set_cons_zero, List.length_cons, List.length_nil, q_rv2, q_rv3, List.reverse_nil, q_add, q_sub, q_mul, q_fdiv, q_mod, q_shl, q_shr, q_and, q_or, q_xor, q_pow, q_cat, q_catv, q_rep, q_repv, q_eq, q_ne, q_lt, q_le, q_eql, q_nel, q_neg, q_inv, q_tri, q_unpt, q_unpi, q_set, q_set0, q_nxt, q_ret, q_rret, q_rnxt, q_getn, q_get0, q_pi, q_pl, q_pv, q_pt, q_pb, q_pn, q_itl, q_divmod, q_wn, q_wr, q_ln, q_lr, q_aadd, q_asub, q_ashl, q_ashr, q_aor, q_len, q_lenv, q_thaw, q_frz, q_frzv, q_subi, q_subv, q_subt, q_cuti, q_cutv, q_part, q_itv, q_itt, q_rev, q_rng1, q_rng3, q_lst0, List.map]); (try simp only [V.isNone, true_and, and_true, Int.natCast_nonneg, decide_eq_true_eq, decide_eq_false_iff_not, List.append_nil])
    refine ⟨by (clear hds hl hN' hT hm hD hN hP hc; lia), by (clear hds hN' hT hm hD hN hP hc; lia), ?_⟩
    have hL' : L < ds.length := by omega
    have e : (ds.drop L).take 1 = [ds.getD L 0] := by
      rw [List.drop_eq_getElem_cons hL', List.take_succ_cons, List.take_zero, List.getD_eq_getElem?_getD, List.getElem?_eq_getElem hL', Option.getD_some]
    rw [e] at hP
    simpa [val] using hP
  · have hm2 : 2 ≤ m := by (clear hds hl hN' hT hD hL hN hP; lia)
    have Dp : 0 < D := by
      rcases Nat.eq_zero_or_pos D with q | q
      · subst q; simp at hD; (clear hds hl hN' hm hL hN hP hc hT; lia)
      · exact q
    have eD : 2 ^ D = 2 ^ (D - 1) * 2 := by rw [← Nat.pow_succ]; congr 1; (clear hds hl hN' hT hm hD hL hN hP hc hm2; lia)
    rw [hT Dp]
    obtain ⟨a, b, ea, hab, ha, hb⟩ : ∃ a b, a + b = m ∧ a = m / 2 ∧ 0 < a ∧ 0 < b := ⟨m / 2, m - m / 2, by (clear hds hl hN' hT hm hD hL hN hP hc Dp eD; lia), rfl, by (clear hds hl hN' hT hm hD hL hN hP hc Dp eD; lia), by (clear hds hl hN' hT hm hD hL hN hP hc Dp eD; lia)⟩
    subst ea
    unfold W_in2_0_1
    (try dsimp only [xNil, xCons, xLift, xNext, xWhile, xFor, sTry, sIter, sRetOwn, q_xnxt, q_xret, appRead, wSubK, wIf, sSetSub, sCallM, setSubW, Int.toNat_natCast, bCons, bNil, sIte, sRet, sRetNone, sAssign, sAssignM, sAug, sUnpack, sSwap, sAppend, sReverse, sAugSub, sNever, sFrz, sWiden, sFor, sWhile, cCmp, cPlain, wName, wInt, wBool, wNone, wBin, wCmp, wUn, wNil, wCons, wCall, wBitLen, wTup, wLst, wSub, wSubM, wLenM, wCut, pNone, pSome, iSeq, iRange, iRev, frz, appW, augSubW, List.replicate_succ, List.replicate_zero, List.cons_append, List.nil_append, List.set_cons_succ, List.set_cons_zero, List.length_cons, List.length_nil, q_rv2, q_rv3, List.reverse_nil, q_add, q_sub, q_mul, q_fdiv, q_mod, q_shl, q_shr, q_and, q_or, q_xor, q_pow, q_cat, q_catv, q_rep, q_repv, q_eq, q_ne, q_lt, q_le, q_eql, q_nel, q_neg, q_inv, q_tri, q_unpt, q_unpi, q_set, q_set0, q_nxt, q_ret, q_rret, q_rnxt, q_getn, q_get0, q_pi, q_pl, q_pv, q_pt, q_pb, q_pn, q_itl, q_divmod, q_wn, q_wr, q_ln, q_lr, q_aadd, q_asub, q_ashl, q_ashr, q_aor, q_len, q_lenv, q_thaw, q_frz, q_frzv, q_subi, q_subv, q_subt, q_cuti, q_cutv, q_part, q_itv, q_itt, q_rev, q_rng1, q_rng3, q_lst0, List.map]); (try simp only [V.isNone, true_and, and_true, Int.natCast_nonneg, decide_eq_true_eq, decide_eq_false_iff_not, List.append_nil])
    refine ⟨by decide, ?_⟩
    have emid : ((L : Int) + ((L + (a + b) : Nat) : Int)).fdiv (2 ^ (1 : Int).toNat) = ((L + a : Nat) : Int) := by
      rw [fdiv_ediv (by decide)]; show ((L : Int) + ((L + (a + b) : Nat) : Int)) / 2 = ((L + a : Nat) : Int); (clear hds hl hN' hT Dp eD ha hb hm hD hL hN hP hc hm2; lia)
    rw [emid]
    unfold W_in2_0_2
    (try dsimp only [xNil, xCons, xLift, xNext, xWhile, xFor, sTry, sIter, sRetOwn, q_xnxt, q_xret, appRead, wSubK, wIf, sSetSub, sCallM, setSubW, Int.toNat_natCast, bCons, bNil, sIte, sRet, sRetNone, sAssign, sAssignM, sAug, sUnpack, sSwap, sAppend, sReverse, sAugSub, sNever, sFrz, sWiden, sFor, sWhile, cCmp, cPlain, wName, wInt, wBool, wNone, wBin, wCmp, wUn, wNil, wCons, wCall, wBitLen, wTup, wLst, wSub, wSubM, wLenM, wCut, pNone, pSome, iSeq, iRange, iRev, frz, appW, augSubW, List.replicate_succ, List.replicate_zero, List.cons_append, List.nil_append, List.set_cons_succ, List.set_cons_zero, List.length_cons, List.length_nil, q_rv2, q_rv3, List.reverse_nil, q_add, q_sub, q_mul, q_fdiv, q_mod, q_shl, q_shr, q_and, q_or, q_xor, q_pow, q_cat, q_catv, q_rep, q_repv, q_eq, q_ne, q_lt, q_le, q_eql, q_nel, q_neg, q_inv, q_tri, q_unpt, q_unpi, q_set, q_set0, q_nxt, q_ret, q_rret, q_rnxt, q_getn, q_get0, q_pi, q_pl, q_pv, q_pt, q_pb, q_pn, q_itl, q_divmod, q_wn, q_wr, q_ln, q_lr, q_aadd, q_asub, q_ashl, q_ashr, q_aor, q_len, q_lenv, q_thaw, q_frz, q_frzv, q_subi, q_subv, q_subt, q_cuti, q_cutv, q_part, q_itv, q_itt, q_rev, q_rng1, q_rng3, q_lst0, List.map]); (try simp only [V.isNone, true_and, and_true, Int.natCast_nonneg, decide_eq_true_eq, decide_eq_false_iff_not, List.append_nil])
    have es : (((L + a : Nat) : Int) - (L : Int)) * (N : Int) = ((N * a : Nat) : Int) := by push_cast; rw [Int.add_comm, Int.add_sub_cancel, Int.mul_comm]
    have p24 : ∀ y : Nat, y ≤ 2 ^ 24 → Builtin.Int.intBits (y : Int) ≤ 25 := fun y hy => bits_lt (by (clear hds hl hN' hT Dp eD ha hb hm hD hL hN hP hc hm2 hab emid es; lia)) (by (clear hds hl hN' hT Dp eD ha hb hm hD hL hN hP hc hm2 hab emid es; lia))
    have hN1 : (N + 1) * (a + b) = (N + 1) * a + (N + 1) * b := Nat.mul_add ..
    have hN2 : (N + 1) * a = N * a + a := by rw [Nat.add_mul]; (clear hds hl hN' hT Dp eD ha hb hm hD hL hN hP hc hm2 hab emid es p24 hN1; lia)
    refine ⟨IntMulOk.of_le (m := 25) (n := 25) ?_ (p24 N hN') (by (clear hds hl hN' hT Dp eD ha hb hm hD hL hN hP hc hm2 hab emid es p24 hN1 hN2; lia)), ?_⟩
    · have : ((L + a : Nat) : Int) - (L : Int) = (a : Int) := by push_cast; (clear hds hl hN' hT Dp eD ha hb hm hD hL hN hP hc hm2 hab emid es p24 hN1 hN2; lia)
      rw [this]; exact p24 a (by (clear hds hN' hT Dp eD ha hb hm hD hN hP hc es p24 hN1 this; lia))
    rw [es]
    unfold W_in2_0_3
    (try dsimp only [xNil, xCons, xLift, xNext, xWhile, xFor, sTry, sIter, sRetOwn, q_xnxt, q_xret, appRead, wSubK, wIf, sSetSub, sCallM, setSubW, Int.toNat_natCast, bCons, bNil, sIte, sRet, sRetNone, sAssign, sAssignM, sAug, sUnpack, sSwap, sAppend, sReverse, sAugSub, sNever, sFrz, sWiden, sFor, sWhile, cCmp, cPlain, wName, wInt, wBool, wNone, wBin, wCmp, wUn, wNil, wCons, wCall, wBitLen, wTup, wLst, wSub, wSubM, wLenM, wCut, pNone, pSome, iSeq, iRange, iRev, frz, appW, augSubW, List.replicate_succ, List.replicate_zero, List.cons_append, List.nil_append, List.set_cons_succ, List.set_cons_zero, List.length_cons, List.length_nil, q_rv2, q_rv3, List.reverse_nil, q_add, q_sub, q_mul, q_fdiv, q_mod, q_shl, q_shr, q_and, q_or, q_xor, q_pow, q_cat, q_catv, q_rep, q_repv, q_eq, q_ne, q_lt, q_le, q_eql, q_nel, q_neg, q_inv, q_tri, q_unpt, q_unpi, q_set, q_set0, q_nxt, q_ret, q_rret, q_rnxt, q_getn, q_get0, q_pi, q_pl, q_pv, q_pt, q_pb, q_pn, q_itl, q_divmod, q_wn, q_wr, q_ln, q_lr, q_aadd, q_asub, q_ashl, q_ashr, q_aor, q_len, q_lenv, q_thaw, q_frz, q_frzv, q_subi, q_subv, q_subt, q_cuti, q_cutv, q_part, q_itv, q_itt, q_rev, q_rng1, q_rng3, q_lst0, List.map]); (try simp only [V.isNone, true_and, and_true, Int.natCast_nonneg, decide_eq_true_eq, decide_eq_false_iff_not, List.append_nil])
    refine ⟨L + a, b, by rw [Nat.add_assoc], hb, by (clear hds hl hN' hT Dp ha hb hm hL hN hP hc hm2 emid es p24 hN1; lia), by (clear hds hl hN' hT Dp eD ha hb hm hD hN hP hc hm2 es p24 hN1 hN2; lia), by (clear hds hN' hT Dp eD ha hb hm hD hP hc es p24; lia), ?_⟩
    (try dsimp only [xNil, xCons, xLift, xNext, xWhile, xFor, sTry, sIter, sRetOwn, q_xnxt, q_xret, appRead, wSubK, wIf, sSetSub, sCallM, setSubW, Int.toNat_natCast, bCons, bNil, sIte, sRet, sRetNone, sAssign, sAssignM, sAug, sUnpack, sSwap, sAppend, sReverse, sAugSub, sNever, sFrz, sWiden, sFor, sWhile, cCmp, cPlain, wName, wInt, wBool, wNone, wBin, wCmp, wUn, wNil, wCons, wCall, wBitLen, wTup, wLst, wSub, wSubM, wLenM, wCut, pNone, pSome, iSeq, iRange, iRev, frz, appW, augSubW, List.replicate_succ, List.replicate_zero, List.cons_append, List.nil_append, List.set_cons_succ, List.set_cons_zero, List.length_cons, List.length_nil, q_rv2, q_rv3, List.reverse_nil, q_add, q_sub, q_mul, q_fdiv, q_mod, q_shl, q_shr, q_and, q_or, q_xor, q_pow, q_cat, q_catv, q_rep, q_repv, q_eq, q_ne, q_lt, q_le, q_eql, q_nel, q_neg, q_inv, q_tri, q_unpt, q_unpi, q_set, q_set0, q_nxt, q_ret, q_rret, q_rnxt, q_getn, q_get0, q_pi, q_pl, q_pv, q_pt, q_pb, q_pn, q_itl, q_divmod, q_wn, q_wr, q_ln, q_lr, q_aadd, q_asub, q_ashl, q_ashr, q_aor, q_len, q_lenv, q_thaw, q_frz, q_frzv, q_subi, q_subv, q_subt, q_cuti, q_cutv, q_part, q_itv, q_itt, q_rev, q_rng1, q_rng3, q_lst0, List.map]); (try simp only [V.isNone, true_and, and_true, Int.natCast_nonneg, decide_eq_true_eq, decide_eq_false_iff_not, List.append_nil])
    have hsub : ∀ d ∈ (ds.drop (L + a)).take b, 0 ≤ d ∧ d < 2 ^ B := fun d hd => hds d (List.mem_of_mem_drop (List.mem_of_mem_take hd))
    have v0 := val_nonneg N _ fun d hd => (hsub d hd).1
    have v1 := val_lt N B _ fun d hd => (hsub d hd).2
    have vl : ((ds.drop (L + a)).take b).length = b := by simp; (clear hds hN' hT Dp eD ha hb hm hD hN hP hc es p24 hN1 hsub v0 v1; lia)
    rw [vl] at v1
    refine ⟨by have := bits_lt v0 v1; (clear hds hN' hT Dp eD ha hb hm hD hP hc es p24 hsub v0 v1; lia), ?_⟩
    refine ⟨L, a, rfl, ha, by (clear hds hl hN' hT Dp ha hb hm hL hN hP hc hm2 emid es p24 hN1 hsub v0 v1; lia), by (clear hds hl hN' hT Dp eD ha hm hD hN hP hc hm2 es p24 hN1 hN2 hsub v0 v1; lia), by (clear hds hl hN' hT Dp eD ha hb hm hD hL hP hc hm2 hab emid es p24 hN2 hsub v0 v1 vl; lia), ?_⟩
    (try dsimp only [xNil, xCons, xLift, xNext, xWhile, xFor, sTry, sIter, sRetOwn, q_xnxt, q_xret, appRead, wSubK, wIf, sSetSub, sCallM, setSubW, Int.toNat_natCast, bCons, bNil, sIte, sRet, sRetNone, sAssign, sAssignM, sAug, sUnpack, sSwap, sAppend, sReverse, sAugSub, sNever, sFrz, sWiden, sFor, sWhile, cCmp, cPlain, wName, wInt, wBool, wNone, wBin, wCmp, wUn, wNil, wCons, wCall, wBitLen, wTup, wLst, wSub, wSubM, wLenM, wCut, pNone, pSome, iSeq, iRange, iRev, frz, appW, augSubW, List.replicate_succ, List.replicate_zero, List.cons_append, List.nil_append, List.set_cons_succ, List.set_cons_zero, List.length_cons, List.length_nil, q_rv2, q_rv3, List.reverse_nil, q_add, q_sub, q_mul, q_fdiv, q_mod, q_shl, q_shr, q_and, q_or, q_xor, q_pow, q_cat, q_catv, q_rep, q_repv, q_eq, q_ne, q_lt, q_le, q_eql, q_nel, q_neg, q_inv, q_tri, q_unpt, q_unpi, q_set, q_set0, q_nxt, q_ret, q_rret, q_rnxt, q_getn, q_get0, q_pi, q_pl, q_pv, q_pt, q_pb, q_pn, q_itl, q_divmod, q_wn, q_wr, q_ln, q_lr, q_aadd, q_asub, q_ashl, q_ashr, q_aor, q_len, q_lenv, q_thaw, q_frz, q_frzv, q_subi, q_subv, q_subt, q_cuti, q_cutv, q_part, q_itv, q_itt, q_rev, q_rng1, q_rng3, q_lst0, List.map]); (try simp only [V.isNone, true_and, and_true, Int.natCast_nonneg, decide_eq_true_eq, decide_eq_false_iff_not, List.append_nil])
    have e : (ds.drop L).take (a + b) = (ds.drop L).take a ++ (ds.drop (L + a)).take b := by
      rw [List.take_add, List.drop_drop]
    rw [e, val_append] at hP
    have el : ((ds.drop L).take a).length = a := by simp; (clear hds hl hN' hT Dp eD ha hm hD hN hP hc es p24 hN1 hsub v0 v1 e; lia)
    rw [el] at hP
    rw [Int.mul_comm, Int.add_comm]
    exact hP
theorem pc_in2 {C : Cx} {f : Addr} {fd : FuncData} {ld : Addr} {N B : Nat} {ds : List Int} (hds : ∀ d ∈ ds, 0 ≤ d ∧ d < 2 ^ B) (hl : ds.length ≤ 2 ^ 24) (hN' : N ≤ 2 ^ 24) (ok : CloOk C f fd (bodyOf (subAt pw 5 0)) 2 nm_in2) (hsc : fd.scope = scopeOf (subAt pw 5 0)) (hr : ∀ L h, C.K.In h → Rd (callEnv fd L f) h (Str.ofString "inner") (.ref f)) (hk : KeepOk C (.ref f))
    (rl : ∀ L h, C.K.In h → Rd (callEnv fd L f) h (Str.ofString "digits") (.ref ld)) (hd : ∀ h, C.K.In h → LI h ld ds)
    (hn : ∀ L h, C.K.In h → ∃ t, Rd (callEnv fd L f) h (Str.ofString "n") (.int N t)) : ∀ D, PC C (D + 1) (.ref f) (TI2 N B ds D)
  | 0 => by
    refine PC.mono (PC.clo (n := 0) ok 2 [(N : Int)] ?_ fun A L h₀ okF => ex_in2 hsc hr hk rl hd (T := fun _ _ => False) (m := 0) (fun A U s vs ws P Q E _ _ _ _ _ _ hT => hT.elim) (Nat.zero_le _) A L h₀ okF) ?_
    · intro L h i x v inK h1 h2
      cases i with
      | zero => simp at h2; subst h2; have : x = Str.ofString "n" := by injection h1 with h1; exact h1.symm
                subst this; exact hn L h inK
      | succ i => simp at h2
    · rintro vs P ⟨L, m, rfl, hm, hD, hL, hN, hP⟩
      exact ⟨rfl, w_in2 (D := 0) hds hl hN' (fun h => absurd h (by decide)) hm hD hL hN hP⟩
  | D + 1 => by
    refine PC.mono (PC.clo (n := D + 1) ok 2 [(N : Int)] ?_ fun A L h₀ okF => ex_in2 hsc hr hk rl hd (pc_in2 hds hl hN' ok hsc hr hk rl hd hn D) (Nat.le_refl _) A L h₀ okF) ?_
    · intro L h i x v inK h1 h2
      cases i with
      | zero => simp at h2; subst h2; have : x = Str.ofString "n" := by injection h1 with h1; exact h1.symm
                subst this; exact hn L h inK
      | succ i => simp at h2
    · rintro vs P ⟨L, m, rfl, hm, hD, hL, hN, hP⟩
      exact ⟨rfl, w_in2 (D := D + 1) hds hl hN' (fun _ => rfl) hm hD hL hN hP⟩
end Mine
end
section
open PySem PySem.Calls PyProof.Rows PySem.W PySem.Spec PySem.SeqAt
set_option Elab.async false
set_option maxRecDepth 100000
set_option linter.unusedVariables false
set_option linter.unusedSimpArgs false
namespace Mine
noncomputable def tab1 : Tab := ⟨34, 30, posOf (subAt pw 4 1), Str.ofString "_int2digits.<locals>.inner"⟩
noncomputable def tab2 : Tab := ⟨41, 37, posOf (subAt pw 5 0), Str.ofString "_digits2int.<locals>.inner"⟩
noncomputable def T_i2d (vs : List V) (P : V → Prop) : Prop := ∃ (a : Int) (N : Nat), vs = [.int a, .int N] ∧ 0 ≤ a ∧ 0 < N ∧ N ≤ 2 ^ 20 ∧ Builtin.Int.intBits a ≤ 2 ^ 20 ∧ (Builtin.Int.intBits a + N - 1) / N ≤ 2 ^ 16 ∧ P (.ints (digs N a ((Builtin.Int.intBits a + N - 1) / N)))
theorem ex_i2d_rest (C : Cx) (hK : C.K = KK C.w.params) {tabs : List Tab} (hC : TC C tabs) (ht : tab1 ∈ tabs) {n : Nat} (hn : 17 ≤ n) (A : Around) (L : Addr) (h₀ : Heap) (ok : FmOk C n (fnFm A (fnAt (KK C.w.params) 35) 35 L h₀ nm_i2d)) :
    ExB C (fnFm A (fnAt (KK C.w.params) 35) 35 L h₀ nm_i2d) ((bodyOf (defAt pw 4)).drop 1)
      (fun st P => ∃ (a : Int) (N k : Nat), st = [.int a, .int N, .mints (List.replicate k 0), .unb] ∧ 0 ≤ a ∧ N ≤ 2 ^ 20 ∧ k ≤ 2 ^ 16 ∧ N * k ≤ 2 ^ 26 ∧ a < 2 ^ (N * k) ∧ (a = 0 → k = 0) ∧ ∀ st', P (.ret (.ints (digs N a k))) st') := by
  intro ad st s P Q E hst R kk
  obtain ⟨a, N, k, rfl, ha0, hN, hk16, hNk, hak, hz, hP⟩ := hst
  have key : wpAny (model C.prog C.w) (fnFm A (fnAt (KK C.w.params) 35) 35 L h₀ nm_i2d).A
      (exec (.FunctionDef (Str.ofString "inner") (paramsOf (subAt pw 4 1)) (bodyOf (subAt pw 4 1)) [] none [] (scopeOf (subAt pw 4 1)) none (Str.ofString "inner") (posOf (subAt pw 4 1))) (fnFm A (fnAt (KK C.w.params) 35) 35 L h₀ nm_i2d).env)
      (fun fl s' => match fl with | .next => wpAny (model C.prog C.w) (fnFm A (fnAt (KK C.w.params) 35) 35 L h₀ nm_i2d).A (execs ((bodyOf (defAt pw 4)).drop 2) (fnFm A (fnAt (KK C.w.params) 35) 35 L h₀ nm_i2d).env) Q E s' | fl => Q fl s') E s := by
    refine ex_nest hC ht ok R (clos := [(Str.ofString "n", L + 1), (Str.ofString "inner", L + 3), (Str.ofString "a_digits", L + 2)]) (i := 3) rfl rfl rfl ?_ rfl rfl rfl ?_ rfl rfl ?_ ?_ ?_
    · kernel_rfl
    · kernel_rfl
    · exact .inr ⟨rfl, L + 3, by show L + 3 ∈ [L + 3, L + 2, L + 1]; exact mm0, rfl⟩
    · intro v hv; injection hv with hv; exact hv.symm
    intro f c' oc fd h₂ tk R2 sp rd hf hfd hc hoc fG cG'
    show wpAny (model C.prog C.w) (fnFm A (fnAt (KK C.w.params) 35) 35 L h₀ nm_i2d).A (execs ((bodyOf (defAt pw 4)).drop 2) (fnFm A (fnAt (KK C.w.params) 35) 35 L h₀ nm_i2d).env) Q E _
    obtain ⟨doc, pm, ctv, rfl⟩ := hfd
    obtain ⟨hoc0, vsc, tc, hoc1, hoc2⟩ := hoc
    obtain ⟨wn, rdn, vrn⟩ := R2.vars 1 (Str.ofString "n") (.int N) rfl rfl
    simp only [VR] at vrn
    obtain ⟨tn, rfl⟩ := vrn
    obtain ⟨la, wsl, el1, rdl, el3, el4⟩ := R2.vars 2 (Str.ofString "a_digits") (.mints (List.replicate k 0)) rfl rfl
    obtain ⟨o1, g1, d1⟩ := Rd.cell (c := L + 1) rfl rfl rdn
    obtain ⟨o2, g2, d2⟩ := Rd.cell (c := L + 2) rfl rfl rdl
    obtain ⟨o3, g3, d3⟩ := Rd.cell (c := L + 3) rfl rfl rd
    have cG1 : L + 1 ∉ C.G := R2.ownG ok (List.mem_cons_of_mem _ (List.mem_append_left _ (show L + 1 ∈ [L + 3, L + 2, L + 1] from mm2)))
    have cG2 : L + 2 ∉ C.G := R2.ownG ok (List.mem_cons_of_mem _ (List.mem_append_left _ (show L + 2 ∈ [L + 3, L + 2, L + 1] from mm1)))
    have cG3 : L + 3 ∉ C.G := R2.ownG ok (List.mem_cons_of_mem _ (List.mem_append_left _ (show L + 3 ∈ [L + 3, L + 2, L + 1] from mm0)))
    let fo : Obj := { cls := .type "function", data := .func (fnX (Str.ofString "inner") tab1.qual (paramsOf (subAt pw 4 1)) (bodyOf (subAt pw 4 1)) (scopeOf (subAt pw 4 1)) [(Str.ofString "n", L + 1), (Str.ofString "inner", L + 3), (Str.ofString "a_digits", L + 2)] .none .none doc pm none (.ref c') ctv) }
    let news : Frag := [(f, fo), (c', oc), (L + 1, o1), (L + 3, o3), (L + 2, o2)]
    have hG : ∀ p ∈ news, p.1 ∉ C.G := fa_c fG (fa_c cG' (fa_c cG1 (fa_c cG3 (fa_c cG2 fa_n))))
    have hnw : ∀ p ∈ news, h₂.get? p.1 = some p.2 := fa_c hf (fa_c hc (fa_c g1 (fa_c g3 (fa_c g2 fa_n))))
    have hdt : ∀ p ∈ news, (∃ fd, p.2.data = .func fd) ∨ (∃ vs, p.2.data = .fields vs ∧ p.2.cls = .type "code") ∨ (∃ v, p.2.data = .cell v) :=
      fa_c (.inl ⟨_, rfl⟩) (fa_c (.inr (.inl ⟨_, hoc1, hoc0⟩)) (fa_c (.inr (.inr ⟨_, d1⟩)) (fa_c (.inr (.inr ⟨_, d3⟩)) (fa_c (.inr (.inr ⟨_, d2⟩)) fa_n))))
    have hmg : ∀ p ∈ news, p.1 ≠ mainGlobals := by
      intro p hp e
      obtain ⟨mg, o, es, ep, ge, gd, _⟩ := (R2.wd ok).g
      have := hnw p hp
      rw [e, ge] at this; injection this with this
      rcases hdt p hp with ⟨_, q⟩ | ⟨_, q, _⟩ | ⟨_, q⟩ <;> (rw [← this, gd] at q; cases q)
    obtain ⟨okI, RI⟩ := R2.inner ok hG hnw fun p hp => hid_data R2 (hnw p hp) (hdt p hp)
    have gt : ∀ (h : Heap), (C.ext news hG).K.In h → ∀ a o, (a, o) ∈ news → h.get? a = some o := fun h inK a o hm => ext_get hnw inK hm
    have mF : (f, fo) ∈ news := mm0
    have mC : (c', oc) ∈ news := mm1
    have m1 : (L + 1, o1) ∈ news := mm2
    have m2 : (L + 2, o2) ∈ news := mm4
    have m3 : (L + 3, o3) ∈ news := mm3
    have hkeep : KeepOk (C.ext news hG) (.ref f) := by
      refine .inr (.inr ?_)
      show keepIn (news ++ C.K) (.ref f) = true
      simp [keepIn, news, fo]
    have cok : CloOk (C.ext news hG) f (fnX (Str.ofString "inner") tab1.qual (paramsOf (subAt pw 4 1)) (bodyOf (subAt pw 4 1)) (scopeOf (subAt pw 4 1)) [(Str.ofString "n", L + 1), (Str.ofString "inner", L + 3), (Str.ofString "a_digits", L + 2)] .none .none doc pm none (.ref c') ctv) (bodyOf (subAt pw 4 1)) 3 nm_in1 := {
      at_ := fun h inK => gt h inK _ _ mF
      code := fun h inK => ⟨c', oc, vsc, tc, rfl, gt h inK _ _ mC, hoc1, hoc2⟩
      body := rfl
      glob := rfl
      blt := rfl
      kind := rfl
      co := rfl
      gen := rfl
      bind := fun ws h => by
        obtain ⟨_, ws1, rfl, h1⟩ := len_s h
        obtain ⟨_, ws2, rfl, h2⟩ := len_s h1
        obtain ⟨_, ws3, rfl, h3⟩ := len_s h2
        obtain rfl := len_z h3
        rfl
      kinds := by show ∀ x ∈ List.take 3 nm_in1, (scopeOf (subAt pw 4 1)).names.lookup x = some .local; decide
      nocell := by show ∀ x ∈ (scopeOf (subAt pw 4 1)).names, x.2 ≠ .cell; decide
      len := by decide
      okn := by decide
      nodup := by decide
      cells := fun h inK => fa_c ⟨_, o1, gt h inK _ _ m1, d1⟩ (fa_c ⟨_, o3, gt h inK _ _ m3, d3⟩ (fa_c ⟨_, o2, gt h inK _ _ m2, d2⟩ fa_n))
      cnd := by simp
      cG := fa_c cG1 (fa_c cG3 (fa_c cG2 fa_n)) }
    have pcm := pcm_in1 (N := N) (la := la) cok rfl (fun L' h inK => Rd.ofFree (c := L + 3) rfl rfl ⟨o3, gt h inK _ _ m3, d3⟩) hkeep (fun L' h inK => Rd.ofFree (c := L + 2) rfl rfl ⟨o2, gt h inK _ _ m2, d2⟩)
      (fun L' h w inK r => IsCell.uniq (Rd.free (c := L + 2) rfl rfl r) ⟨o2, gt h inK _ _ m2, d2⟩) (fun L' h inK => ⟨tn, Rd.ofFree (c := L + 1) rfl rfl ⟨o1, gt h inK _ _ m1, d1⟩⟩) 16
    have W : W_i2dr (TM1 N 16) [.int a, .int N, .mints (List.replicate k 0), .unb] (fun o _ => o = .ret (.ints (digs N a k))) := by
      unfold W_i2dr
      (try dsimp only [xNil, xCons, xLift, xNext, xWhile, xFor, sTry, sIter, sRetOwn, q_xnxt, q_xret, appRead, wSubK, wIf, sSetSub, sCallM, setSubW, Int.toNat_natCast, bCons, bNil, sIte, sRet, sRetNone, sAssign, sAssignM, sAug, sUnpack, sSwap, sAppend, sReverse, sAugSub, sNever, sFrz, sWiden, sFor, sWhile, cCmp, cPlain, wName, wInt, wBool, wNone, wBin, wCmp, wUn, wNil, wCons, wCall, wBitLen, wTup, wLst, wSub, wSubM, wLenM, wCut, pNone, pSome, iSeq, iRange, iRev, frz, appW, augSubW, List.replicate_succ, List.replicate_zero, List.cons_append, List.nil_append, List.set_cons_succ, List.set_cons_zero, List.length_cons, List.length_nil, q_rv2, q_rv3, List.reverse_nil, q_add, q_sub, q_mul, q_fdiv, q_mod, q_shl, q_shr, q_and, q_or, q_xor, q_pow, q_cat, q_catv, q_rep, q_repv, q_eq, q_ne, q_lt, q_le, q_eql, q_nel, q_neg, q_inv, q_tri, q_unpt, q_unpi, q_set, q_set0, q_nxt, q_ret, q_rret, q_rnxt, q_getn, q_get0, q_pi, q_pl, q_pv, q_pt, q_pb, q_pn, q_itl, q_divmod, q_wn, q_wr, q_ln, q_lr, q_aadd, q_asub, q_ashl, q_ashr, q_aor, q_len, q_lenv, q_thaw, q_frz, q_frzv, q_subi, q_subv, q_subt, q_cuti, q_cutv, q_part, q_itv, q_itt, q_rev, q_rng1, q_rng3, q_lst0, List.map]); (try simp only [V.isNone, true_and, and_true, Int.natCast_nonneg, decide_eq_true_eq, decide_eq_false_iff_not, List.append_nil])
      refine ⟨fun hc => ?_, fun hc => ?_⟩
      · have ha : a ≠ 0 := by simpa using hc
        have kp : 0 < k := by
          rcases Nat.eq_zero_or_pos k with q | q
          · subst q; simp at hak; (clear hK hC ht hn ok kk hN sp rd fG cG' hf hoc0 hoc1 hoc2 rdn el1 rdl el3 g1 d1 g2 d2 g3 d3 cG1 cG2 cG3 hG hnw hdt hmg okI gt mF mC m1 m2 m3 hkeep cok pcm hc R hk16 hNk hP R2 el4 RI; lia)
          · exact q
        unfold W_i2dr_1_0
        (try dsimp only [xNil, xCons, xLift, xNext, xWhile, xFor, sTry, sIter, sRetOwn, q_xnxt, q_xret, appRead, wSubK, wIf, sSetSub, sCallM, setSubW, Int.toNat_natCast, bCons, bNil, sIte, sRet, sRetNone, sAssign, sAssignM, sAug, sUnpack, sSwap, sAppend, sReverse, sAugSub, sNever, sFrz, sWiden, sFor, sWhile, cCmp, cPlain, wName, wInt, wBool, wNone, wBin, wCmp, wUn, wNil, wCons, wCall, wBitLen, wTup, wLst, wSub, wSubM, wLenM, wCut, pNone, pSome, iSeq, iRange, iRev, frz, appW, augSubW, List.replicate_succ, List.replicate_zero, List.cons_append, List.nil_append, List.set_cons_succ, List.set_cons_zero, List.length_cons, List.length_nil, q_rv2, q_rv3, List.reverse_nil, q_add, q_sub, q_mul, q_fdiv, q_mod, q_shl, q_shr, q_and, q_or, q_xor, q_pow, q_cat, q_catv, q_rep, q_repv, q_eq, q_ne, q_lt, q_le, q_eql, q_nel, q_neg, q_inv, q_tri, q_unpt, q_unpi, q_set, q_set0, q_nxt, q_ret, q_rret, q_rnxt, q_getn, q_get0, q_pi, q_pl, q_pv, q_pt, q_pb, q_pn, q_itl, q_divmod, q_wn, q_wr, q_ln, q_lr, q_aadd, q_asub, q_ashl, q_ashr, q_aor, q_len, q_lenv, q_thaw, q_frz, q_frzv, q_subi, q_subv, q_subt, q_cuti, q_cutv, q_part, q_itv, q_itt, q_rev, q_rng1, q_rng3, q_lst0, List.map]); (try simp only [V.isNone, true_and, and_true, Int.natCast_nonneg, decide_eq_true_eq, decide_eq_false_iff_not, List.append_nil, List.length_replicate])
        refine ⟨by (clear hK hC ht hn ok kk R ha0 hN hNk hak hz hP R2 sp rd fG cG' hf hoc0 hoc1 hoc2 rdn el1 rdl el3 el4 g1 d1 g2 d2 g3 d3 cG1 cG2 cG3 hG hnw hdt hmg okI RI gt mF mC m1 m2 m3 hkeep cok pcm hc ha; lia), a, 0, k, by simp, ha0, kp, hk16, by simp, by simp; (clear hK hC ht hn ok kk R ha0 hN hNk hak hz hP R2 sp rd fG cG' hf hoc0 hoc1 hoc2 rdn el1 rdl el3 el4 g1 d1 g2 d2 g3 d3 cG1 cG2 cG3 hG hnw hdt hmg okI RI gt mF mC m1 m2 m3 hkeep cok pcm hc ha; lia), hNk, by (clear hK hC ht hn ok kk R ha0 hk16 hNk hak hz hP R2 sp rd fG cG' hf hoc0 hoc1 hoc2 rdn el1 rdl el3 el4 g1 d1 g2 d2 g3 d3 cG1 cG2 cG3 hG hnw hdt hmg okI RI gt mF mC m1 m2 m3 hkeep cok pcm hc ha kp; lia), hak, trivial, ?_⟩
        unfold W_i2dr_0_1
        (try dsimp only [xNil, xCons, xLift, xNext, xWhile, xFor, sTry, sIter, sRetOwn, q_xnxt, q_xret, appRead, wSubK, wIf, sSetSub, sCallM, setSubW, Int.toNat_natCast, bCons, bNil, sIte, sRet, sRetNone, sAssign, sAssignM, sAug, sUnpack, sSwap, sAppend, sReverse, sAugSub, sNever, sFrz, sWiden, sFor, sWhile, cCmp, cPlain, wName, wInt, wBool, wNone, wBin, wCmp, wUn, wNil, wCons, wCall, wBitLen, wTup, wLst, wSub, wSubM, wLenM, wCut, pNone, pSome, iSeq, iRange, iRev, frz, appW, augSubW, List.replicate_succ, List.replicate_zero, List.cons_append, List.nil_append, List.set_cons_succ, List.set_cons_zero, List.length_cons, List.length_nil, q_rv2, q_rv3, List.reverse_nil, q_add, q_sub, q_mul, q_fdiv, q_mod, q_shl, q_shr, q_and, q_or, q_xor, q_pow, q_cat, q_catv, q_rep, q_repv, q_eq, q_ne, q_lt, q_le, q_eql, q_nel, q_neg, q_inv, q_tri, q_unpt, q_unpi, q_set, q_set0, q_nxt, q_ret, q_rret, q_rnxt, q_getn, q_get0, q_pi, q_pl, q_pv, q_pt, q_pb, q_pn, q_itl, q_divmod, q_wn, q_wr, q_ln, q_lr, q_aadd, q_asub, q_ashl, q_ashr, q_aor, q_len, q_lenv, q_thaw, q_frz, q_frzv, q_subi, q_subv, q_subt, q_cuti, q_cutv, q_part, q_itv, q_itt, q_rev, q_rng1, q_rng3, q_lst0, List.map]); (try simp only [V.isNone, true_and, and_true, Int.natCast_nonneg, decide_eq_true_eq, decide_eq_false_iff_not, List.append_nil])
        simp [putD]
      · have ha : a = 0 := by simpa using hc
        unfold W_i2dr_0_1
        (try dsimp only [xNil, xCons, xLift, xNext, xWhile, xFor, sTry, sIter, sRetOwn, q_xnxt, q_xret, appRead, wSubK, wIf, sSetSub, sCallM, setSubW, Int.toNat_natCast, bCons, bNil, sIte, sRet, sRetNone, sAssign, sAssignM, sAug, sUnpack, sSwap, sAppend, sReverse, sAugSub, sNever, sFrz, sWiden, sFor, sWhile, cCmp, cPlain, wName, wInt, wBool, wNone, wBin, wCmp, wUn, wNil, wCons, wCall, wBitLen, wTup, wLst, wSub, wSubM, wLenM, wCut, pNone, pSome, iSeq, iRange, iRev, frz, appW, augSubW, List.replicate_succ, List.replicate_zero, List.cons_append, List.nil_append, List.set_cons_succ, List.set_cons_zero, List.length_cons, List.length_nil, q_rv2, q_rv3, List.reverse_nil, q_add, q_sub, q_mul, q_fdiv, q_mod, q_shl, q_shr, q_and, q_or, q_xor, q_pow, q_cat, q_catv, q_rep, q_repv, q_eq, q_ne, q_lt, q_le, q_eql, q_nel, q_neg, q_inv, q_tri, q_unpt, q_unpi, q_set, q_set0, q_nxt, q_ret, q_rret, q_rnxt, q_getn, q_get0, q_pi, q_pl, q_pv, q_pt, q_pb, q_pn, q_itl, q_divmod, q_wn, q_wr, q_ln, q_lr, q_aadd, q_asub, q_ashl, q_ashr, q_aor, q_len, q_lenv, q_thaw, q_frz, q_frzv, q_subi, q_subv, q_subt, q_cuti, q_cutv, q_part, q_itv, q_itt, q_rev, q_rng1, q_rng3, q_lst0, List.map]); (try simp only [V.isNone, true_and, and_true, Int.natCast_nonneg, decide_eq_true_eq, decide_eq_false_iff_not, List.append_nil])
        rw [hz ha]; rfl
    refine ex_i2dr (F := (fnFm A (fnAt (KK C.w.params) 35) 35 L h₀ nm_i2d).inner h₂ ad) rfl (GN.ext hmg (gn_len C hK)) rfl (fun h inK => Rd.ofCell (c := L + 3) rfl rfl ⟨o3, gt h inK _ _ m3, d3⟩) hkeep
      (fun h w inK r => IsCell.uniq (Rd.cell (c := L + 2) rfl rfl r) ⟨o2, gt h inK _ _ m2, d2⟩) pcm hn okI _ _ _ _ _ _ W RI fun o st' ad' h' tk' fl hp sp' R' hf' => ?_
    obtain ⟨RO, so⟩ := R2.outer ok hG R' sp'.ux
    subst hp
    refine kk _ [] ⟨[], ad.ux⟩ h' tk' fl (hP []) (Stp.trans sp so fun a ha => RO.ownG ok ha) RO ?_
    obtain ⟨w, rfl, hv⟩ := hf'
    refine ⟨w, rfl, hv.weaken fun b hb => ?_⟩
    have e := sp'.ux
    rcases List.mem_append.mp hb with q | q
    · rcases List.mem_cons.mp q with q | q
      · rw [q]; exact List.mem_append_left _ List.mem_cons_self
      · have q : b ∈ (fnFm A (fnAt (KK C.w.params) 35) 35 L h₀ nm_i2d).cells := by simpa using q
        exact List.mem_append_right _ (by rw [e]; exact List.mem_append_left _ q)
    · exact List.mem_append_right _ (by rw [e]; exact List.mem_append_right _ q)
  exact wpAny_execs_cons key
theorem pc_i2d (C : Cx) (hK : C.K = KK C.w.params) {tabs : List Tab} (hC : TC C tabs) (ht : tab1 ∈ tabs) : PC C 18 (.ref 35) T_i2d := by
  refine PC.mono (PC.fn (n := 17) (fnok_i2d C hK) fun A L h₀ ok => ExB.cons (ex_i2d_head C hK A L h₀ ok) (ex_i2d_rest C hK hC ht (by decide) A L h₀ ok)) ?_
  rintro vs P ⟨a, N, rfl, ha, hN0, hN, hb, hk, hP⟩
  refine ⟨rfl, ?_⟩
  unfold W_i2d_head
  have q0 : listV [V.int 0] = .ints [0] := rfl
  have q1 : nm_i2d.length = 4 := rfl
  (try dsimp only [xNil, xCons, xLift, xNext, xWhile, xFor, sTry, sIter, sRetOwn, q_xnxt, q_xret, appRead, wSubK, wIf, sSetSub, sCallM, setSubW, Int.toNat_natCast, bCons, bNil, sIte, sRet, sRetNone, sAssign, sAssignM, sAug, sUnpack, sSwap, sAppend, sReverse, sAugSub, sNever, sFrz, sWiden, sFor, sWhile, cCmp, cPlain, wName, wInt, wBool, wNone, wBin, wCmp, wUn, wNil, wCons, wCall, wBitLen, wTup, wLst, wSub, wSubM, wLenM, wCut, pNone, pSome, iSeq, iRange, iRev, frz, appW, augSubW, List.replicate_succ, List.replicate_zero, List.cons_append, List.nil_append, List.set_cons_succ, List.set_cons_zero, List.length_cons, List.length_nil, q_rv2, q_rv3, List.reverse_nil, q_add, q_sub, q_mul, q_fdiv, q_mod, q_shl, q_shr, q_and, q_or, q_xor, q_pow, q_cat, q_catv, q_rep, q_repv, q_eq, q_ne, q_lt, q_le, q_eql, q_nel, q_neg, q_inv, q_tri, q_unpt, q_unpi, q_set, q_set0, q_nxt, q_ret, q_rret, q_rnxt, q_getn, q_get0, q_pi, q_pl, q_pv, q_pt, q_pb, q_pn, q_itl, q_divmod, q_wn, q_wr, q_ln, q_lr, q_aadd, q_asub, q_ashl, q_ashr, q_aor, q_len, q_lenv, q_thaw, q_frz, q_frzv, q_subi, q_subv, q_subt, q_cuti, q_cutv, q_part, q_itv, q_itt, q_rev, q_rng1, q_rng3, q_lst0, List.map]); (try simp only [V.isNone, true_and, and_true, Int.natCast_nonneg, decide_eq_true_eq, decide_eq_false_iff_not, List.append_nil, q0, q1])
  refine ⟨by decide, by (clear hK hC ht ha hb hk hP q0 q1; lia), PyProof.noPylong_small (by (clear hK hC ht ha hb hk hP q0 q1; omega)), ?_⟩
  have e : ((Builtin.Int.intBits a : Int) + (N : Int) - 1).fdiv (N : Int) = (((Builtin.Int.intBits a + N - 1) / N : Nat) : Int) := by
    rw [fdiv_ediv (by (clear hK hC ht ha hb hk hP q0 q1; lia)), Int.natCast_ediv]; congr 1; (clear hK hC ht ha hk hP q0 q1; lia)
  rw [e]
  generalize hk' : (Builtin.Int.intBits a + N - 1) / N = k at *
  have hlo : Builtin.Int.intBits a ≤ N * k := by
    have := Nat.div_add_mod (Builtin.Int.intBits a + N - 1) N
    have := Nat.mod_lt (Builtin.Int.intBits a + N - 1) hN0
    rw [hk'] at *; (clear hK hC ht ha q0 q1 hk' hk hP e; lia)
  have hhi : N * k ≤ Builtin.Int.intBits a + N := by
    have := Nat.div_add_mod (Builtin.Int.intBits a + N - 1) N
    rw [hk'] at this; (clear hK hC ht ha q0 q1 hk' hk hP e hlo; lia)
  have fl : (List.replicate k [(0 : Int)]).flatten = List.replicate k 0 := by
    rw [List.flatten_replicate_singleton]
  refine ⟨by (clear hK hC ht ha hN0 hN hb q0 q1 hk' hP hlo hhi fl; lia), by (clear hK hC ht ha hN0 hN hb q0 q1 hk' hP hlo hhi fl; lia), by simp; (clear hK hC ht ha hN0 hN hb q0 q1 hk' hP hlo hhi fl; lia), ?_⟩
  simp only [Int.toNat_natCast, fl]
  refine ⟨a, N, k, rfl, ha, hN, hk, by (clear hK hC ht ha q0 q1 hk' hk hP e fl; lia), ?_, ?_, fun st' => hP⟩
  · exact Int.lt_of_lt_of_le (lt_bits (Nat.le_refl _)) (pow_mono2 hlo)
  · intro q; subst q
    rw [← hk', show Builtin.Int.intBits 0 = 0 from rfl]
    exact Nat.div_eq_of_lt (by (clear hK hC ht q0 q1 hk fl ha hb hk' hP e hlo hhi; lia))
end Mine
end
section
open PySem PySem.Calls PyProof.Rows PySem.W PySem.Spec PySem.SeqAt
set_option Elab.async false
set_option maxRecDepth 100000
set_option linter.unusedVariables false
set_option linter.unusedSimpArgs false
namespace Mine
noncomputable def T_d2i (vs : List V) (P : V → Prop) : Prop := ∃ (ds : List Int) (N B : Nat), vs = [.ints ds, .int N] ∧ (∀ d ∈ ds, 0 ≤ d ∧ d < 2 ^ B) ∧ ds.length ≤ 2 ^ 16 ∧ N ≤ 2 ^ 20 ∧ B + (N + 1) * ds.length ≤ 2 ^ 26 ∧ P (.int (val N ds))
theorem ex_d2i_rest (C : Cx) (hK : C.K = KK C.w.params) {tabs : List Tab} (hC : TC C tabs) (ht : tab2 ∈ tabs) {n : Nat} (hn : 17 ≤ n) (A : Around) (L : Addr) (h₀ : Heap) (ok : FmOk C n (fnFm A (fnAt (KK C.w.params) 42) 42 L h₀ nm_d2i)) :
    ExB C (fnFm A (fnAt (KK C.w.params) 42) 42 L h₀ nm_d2i) (bodyOf (defAt pw 5))
      (fun st P => ∃ (ds : List Int) (N B : Nat), st = [.ints ds, .int N, .unb] ∧ (∀ d ∈ ds, 0 ≤ d ∧ d < 2 ^ B) ∧ ds.length ≤ 2 ^ 16 ∧ N ≤ 2 ^ 20 ∧ B + (N + 1) * ds.length ≤ 2 ^ 26 ∧ ∀ st', P (.ret (.int (val N ds))) st') := by
  intro ad st s P Q E hst R kk
  obtain ⟨ds, N, B, rfl, hds, hk16, hN, hNk, hP⟩ := hst
  have key : wpAny (model C.prog C.w) (fnFm A (fnAt (KK C.w.params) 42) 42 L h₀ nm_d2i).A
      (exec (.FunctionDef (Str.ofString "inner") (paramsOf (subAt pw 5 0)) (bodyOf (subAt pw 5 0)) [] none [] (scopeOf (subAt pw 5 0)) none (Str.ofString "inner") (posOf (subAt pw 5 0))) (fnFm A (fnAt (KK C.w.params) 42) 42 L h₀ nm_d2i).env)
      (fun fl s' => match fl with | .next => wpAny (model C.prog C.w) (fnFm A (fnAt (KK C.w.params) 42) 42 L h₀ nm_d2i).A (execs ((bodyOf (defAt pw 5)).drop 1) (fnFm A (fnAt (KK C.w.params) 42) 42 L h₀ nm_d2i).env) Q E s' | fl => Q fl s') E s := by
    refine ex_nest hC ht ok R (clos := [(Str.ofString "n", L + 2), (Str.ofString "inner", L + 3), (Str.ofString "digits", L + 1)]) (i := 2) rfl rfl rfl ?_ rfl rfl rfl ?_ rfl rfl ?_ ?_ ?_
    · kernel_rfl
    · kernel_rfl
    · exact .inr ⟨rfl, L + 3, by show L + 3 ∈ [L + 3, L + 2, L + 1]; exact mm0, rfl⟩
    · intro v hv; injection hv with hv; exact hv.symm
    intro f c' oc fd h₂ tk R2 sp rd hf hfd hc hoc fG cG'
    show wpAny (model C.prog C.w) (fnFm A (fnAt (KK C.w.params) 42) 42 L h₀ nm_d2i).A (execs ((bodyOf (defAt pw 5)).drop 1) (fnFm A (fnAt (KK C.w.params) 42) 42 L h₀ nm_d2i).env) Q E _
    obtain ⟨doc, pm, ctv, rfl⟩ := hfd
    obtain ⟨hoc0, vsc, tc, hoc1, hoc2⟩ := hoc
    obtain ⟨wn, rdn, vrn⟩ := R2.vars 1 (Str.ofString "n") (.int N) rfl rfl
    simp only [VR] at vrn
    obtain ⟨tn, rfl⟩ := vrn
    obtain ⟨wl, rdl, vrl⟩ := R2.vars 0 (Str.ofString "digits") (.ints ds) rfl rfl
    simp only [VR] at vrl
    obtain ⟨ld, wsl, rfl, ldU, ⟨ldn, el3⟩, el4⟩ := vrl
    obtain ⟨o1, g1, d1⟩ := Rd.cell (c := L + 1) rfl rfl rdl
    obtain ⟨o2, g2, d2⟩ := Rd.cell (c := L + 2) rfl rfl rdn
    obtain ⟨o3, g3, d3⟩ := Rd.cell (c := L + 3) rfl rfl rd
    have cG1 : L + 1 ∉ C.G := R2.ownG ok (List.mem_cons_of_mem _ (List.mem_append_left _ (show L + 1 ∈ [L + 3, L + 2, L + 1] from mm2)))
    have cG2 : L + 2 ∉ C.G := R2.ownG ok (List.mem_cons_of_mem _ (List.mem_append_left _ (show L + 2 ∈ [L + 3, L + 2, L + 1] from mm1)))
    have cG3 : L + 3 ∉ C.G := R2.ownG ok (List.mem_cons_of_mem _ (List.mem_append_left _ (show L + 3 ∈ [L + 3, L + 2, L + 1] from mm0)))
    let fo : Obj := { cls := .type "function", data := .func (fnX (Str.ofString "inner") tab2.qual (paramsOf (subAt pw 5 0)) (bodyOf (subAt pw 5 0)) (scopeOf (subAt pw 5 0)) [(Str.ofString "n", L + 2), (Str.ofString "inner", L + 3), (Str.ofString "digits", L + 1)] .none .none doc pm none (.ref c') ctv) }
    let news : Frag := [(f, fo), (c', oc), (L + 1, o1), (L + 3, o3), (L + 2, o2), (ld, { cls := .type "list", data := .seq wsl.toArray ldn })]
    have hG : ∀ p ∈ news, p.1 ∉ C.G := fa_c fG (fa_c cG' (fa_c cG1 (fa_c cG3 (fa_c cG2 (fa_c (fun q => ldU (R2.UG _ q)) fa_n)))))
    have hnw : ∀ p ∈ news, h₂.get? p.1 = some p.2 := fa_c hf (fa_c hc (fa_c g1 (fa_c g3 (fa_c g2 (fa_c el3 fa_n)))))
    have hdt : ∀ p ∈ news, (∃ fd, p.2.data = .func fd) ∨ (∃ vs, p.2.data = .fields vs ∧ p.2.cls = .type "code") ∨ (∃ v, p.2.data = .cell v) ∨ (p.1 = ld ∧ ∃ vs n, p.2.data = .seq vs n) :=
      fa_c (.inl ⟨_, rfl⟩) (fa_c (.inr (.inl ⟨_, hoc1, hoc0⟩)) (fa_c (.inr (.inr (.inl ⟨_, d1⟩))) (fa_c (.inr (.inr (.inl ⟨_, d3⟩))) (fa_c (.inr (.inr (.inl ⟨_, d2⟩))) (fa_c (.inr (.inr (.inr ⟨rfl, _, _, rfl⟩))) fa_n)))))
    have hmg : ∀ p ∈ news, p.1 ≠ mainGlobals := by
      intro p hp e
      obtain ⟨mg, o, es, ep, ge, gd, _⟩ := (R2.wd ok).g
      have := hnw p hp
      rw [e, ge] at this; injection this with this
      rcases hdt p hp with ⟨_, q⟩ | ⟨_, q, _⟩ | ⟨_, q⟩ | ⟨_, _, _, q⟩ <;> (rw [← this, gd] at q; cases q)
    obtain ⟨okI, RI⟩ := R2.inner ok hG hnw fun p hp => by
      rcases hdt p hp with q | q | q | ⟨q, _⟩
      · exact hid_data R2 (hnw p hp) (.inl q)
      · exact hid_data R2 (hnw p hp) (.inr (.inl q))
      · exact hid_data R2 (hnw p hp) (.inr (.inr q))
      · rw [q]; exact fun z => ldU (List.mem_append_left _ (own_in _ z))
    have gt : ∀ (h : Heap), (C.ext news hG).K.In h → ∀ a o, (a, o) ∈ news → h.get? a = some o := fun h inK a o hm => ext_get hnw inK hm
    have mF : (f, fo) ∈ news := mm0
    have mC : (c', oc) ∈ news := mm1
    have m1 : (L + 1, o1) ∈ news := mm2
    have m2 : (L + 2, o2) ∈ news := mm4
    have m3 : (L + 3, o3) ∈ news := mm3
    have mL : (ld, { cls := .type "list", data := .seq wsl.toArray ldn }) ∈ news := mm5
    have hkeep : KeepOk (C.ext news hG) (.ref f) := by
      refine .inr (.inr ?_)
      show keepIn (news ++ C.K) (.ref f) = true
      simp [keepIn, news, fo]
    have cok : CloOk (C.ext news hG) f (fnX (Str.ofString "inner") tab2.qual (paramsOf (subAt pw 5 0)) (bodyOf (subAt pw 5 0)) (scopeOf (subAt pw 5 0)) [(Str.ofString "n", L + 2), (Str.ofString "inner", L + 3), (Str.ofString "digits", L + 1)] .none .none doc pm none (.ref c') ctv) (bodyOf (subAt pw 5 0)) 2 nm_in2 := {
      at_ := fun h inK => gt h inK _ _ mF
      code := fun h inK => ⟨c', oc, vsc, tc, rfl, gt h inK _ _ mC, hoc1, hoc2⟩
      body := rfl
      glob := rfl
      blt := rfl
      kind := rfl
      co := rfl
      gen := rfl
      bind := fun ws h => by
        obtain ⟨_, ws1, rfl, h1⟩ := len_s h
        obtain ⟨_, ws2, rfl, h2⟩ := len_s h1
        obtain rfl := len_z h2
        rfl
      kinds := by show ∀ x ∈ List.take 2 nm_in2, (scopeOf (subAt pw 5 0)).names.lookup x = some .local; decide
      nocell := by show ∀ x ∈ (scopeOf (subAt pw 5 0)).names, x.2 ≠ .cell; decide
      len := by decide
      okn := by decide
      nodup := by decide
      cells := fun h inK => fa_c ⟨_, o2, gt h inK _ _ m2, d2⟩ (fa_c ⟨_, o3, gt h inK _ _ m3, d3⟩ (fa_c ⟨_, o1, gt h inK _ _ m1, d1⟩ fa_n))
      cnd := by simp
      cG := fa_c cG2 (fa_c cG3 (fa_c cG1 fa_n)) }
    have pcm := pc_in2 (N := N) (B := B) (ld := ld) (ds := ds) hds (by (clear hK hC ht hn ok kk R hds hN hNk hP R2 sp rd hc fG cG' hf hoc0 hoc1 hoc2 rdn rdl ldU el4 el3 g1 d1 g2 d2 g3 d3 cG1 cG2 cG3 hG hnw hdt hmg okI RI gt mF mC m1 m2 m3 mL hkeep cok; lia)) (by (clear hK hC ht hn ok kk R hds hk16 hNk hP R2 sp rd hc fG cG' hf hoc0 hoc1 hoc2 rdn rdl ldU el4 el3 g1 d1 g2 d2 g3 d3 cG1 cG2 cG3 hG hnw hdt hmg okI RI gt mF mC m1 m2 m3 mL hkeep cok; lia)) cok rfl (fun L' h inK => Rd.ofFree (c := L + 3) rfl rfl ⟨o3, gt h inK _ _ m3, d3⟩) hkeep (fun L' h inK => Rd.ofFree (c := L + 1) rfl rfl ⟨o1, gt h inK _ _ m1, d1⟩)
      (fun h inK => ⟨wsl, ⟨ldn, gt h inK _ _ mL⟩, el4⟩) (fun L' h inK => ⟨tn, Rd.ofFree (c := L + 2) rfl rfl ⟨o2, gt h inK _ _ m2, d2⟩⟩) 16
    have W : W_d2ir (TI2 N B ds 16) [.ints ds, .int N, .unb] (fun o _ => o = .ret (.int (val N ds))) := by
      unfold W_d2ir
      (try dsimp only [xNil, xCons, xLift, xNext, xWhile, xFor, sTry, sIter, sRetOwn, q_xnxt, q_xret, appRead, wSubK, wIf, sSetSub, sCallM, setSubW, Int.toNat_natCast, bCons, bNil, sIte, sRet, sRetNone, sAssign, sAssignM, sAug, sUnpack, sSwap, sAppend, sReverse, sAugSub, sNever, sFrz, sWiden, sFor, sWhile, cCmp, cPlain, wName, wInt, wBool, wNone, wBin, wCmp, wUn, wNil, wCons, wCall, wBitLen, wTup, wLst, wSub, wSubM, wLenM, wCut, pNone, pSome, iSeq, iRange, iRev, frz, appW, augSubW, List.replicate_succ, List.replicate_zero, List.cons_append, List.nil_append, List.set_cons_succ, List.set_cons_zero, List.length_cons, List.length_nil, q_rv2, q_rv3, List.reverse_nil, q_add, q_sub, q_mul, q_fdiv, q_mod, q_shl, q_shr, q_and, q_or, q_xor, q_pow, q_cat, q_catv, q_rep, q_repv, q_eq, q_ne, q_lt, q_le, q_eql, q_nel, q_neg, q_inv, q_tri, q_unpt, q_unpi, q_set, q_set0, q_nxt, q_ret, q_rret, q_rnxt, q_getn, q_get0, q_pi, q_pl, q_pv, q_pt, q_pb, q_pn, q_itl, q_divmod, q_wn, q_wr, q_ln, q_lr, q_aadd, q_asub, q_ashl, q_ashr, q_aor, q_len, q_lenv, q_thaw, q_frz, q_frzv, q_subi, q_subv, q_subt, q_cuti, q_cutv, q_part, q_itv, q_itt, q_rev, q_rng1, q_rng3, q_lst0, List.map]); (try simp only [V.isNone, true_and, and_true, Int.natCast_nonneg, decide_eq_true_eq, decide_eq_false_iff_not, List.append_nil])
      refine ⟨by (clear hK hC ht hn ok kk R hds hN hNk hP R2 sp rd hc fG cG' hf hoc0 hoc1 hoc2 rdn rdl ldU el4 el3 g1 d1 g2 d2 g3 d3 cG1 cG2 cG3 hG hnw hdt hmg okI RI gt mF mC m1 m2 m3 mL hkeep cok pcm; lia), fun hc => ?_, fun hc => ?_⟩
      · have hne : ds ≠ [] := by intro q; subst q; simp at hc
        have hp : 0 < ds.length := List.length_pos_iff.mpr hne
        refine ⟨by (clear hK hC ht hn ok kk R hds hN hNk hP R2 sp rd fG cG' hf hoc0 hoc1 hoc2 rdn rdl ldU el4 el3 g1 d1 g2 d2 g3 d3 cG1 cG2 cG3 hG hnw hdt hmg okI RI gt mF mC m1 m2 m3 mL hkeep cok pcm hc hne; lia), 0, ds.length, by simp, hp, hk16, by (clear hK hC ht hn ok kk R hds hk16 hN hNk hP R2 sp rd fG cG' hf hoc0 hoc1 hoc2 rdn rdl ldU el4 el3 g1 d1 g2 d2 g3 d3 cG1 cG2 cG3 hG hnw hdt hmg okI RI gt mF mC m1 m2 m3 mL hkeep cok pcm hc hne hp; lia), hNk, ?_⟩
        (try dsimp only [xNil, xCons, xLift, xNext, xWhile, xFor, sTry, sIter, sRetOwn, q_xnxt, q_xret, appRead, wSubK, wIf, sSetSub, sCallM, setSubW, Int.toNat_natCast, bCons, bNil, sIte, sRet, sRetNone, sAssign, sAssignM, sAug, sUnpack, sSwap, sAppend, sReverse, sAugSub, sNever, sFrz, sWiden, sFor, sWhile, cCmp, cPlain, wName, wInt, wBool, wNone, wBin, wCmp, wUn, wNil, wCons, wCall, wBitLen, wTup, wLst, wSub, wSubM, wLenM, wCut, pNone, pSome, iSeq, iRange, iRev, frz, appW, augSubW, List.replicate_succ, List.replicate_zero, List.cons_append, List.nil_append, List.set_cons_succ, List.set_cons_zero, List.length_cons, List.length_nil, q_rv2, q_rv3, List.reverse_nil, q_add, q_sub, q_mul, q_fdiv, q_mod, q_shl, q_shr, q_and, q_or, q_xor, q_pow, q_cat, q_catv, q_rep, q_repv, q_eq, q_ne, q_lt, q_le, q_eql, q_nel, q_neg, q_inv, q_tri, q_unpt, q_unpi, q_set, q_set0, q_nxt, q_ret, q_rret, q_rnxt, q_getn, q_get0, q_pi, q_pl, q_pv, q_pt, q_pb, q_pn, q_itl, q_divmod, q_wn, q_wr, q_ln, q_lr, q_aadd, q_asub, q_ashl, q_ashr, q_aor, q_len, q_lenv, q_thaw, q_frz, q_frzv, q_subi, q_subv, q_subt, q_cuti, q_cutv, q_part, q_itv, q_itt, q_rev, q_rng1, q_rng3, q_lst0, List.map]); (try simp only [V.isNone, true_and, and_true, Int.natCast_nonneg, decide_eq_true_eq, decide_eq_false_iff_not, List.append_nil])
        simp
      · have he : ds = [] := by simpa using hc
        subst he; rfl
    refine ex_d2ir (F := (fnFm A (fnAt (KK C.w.params) 42) 42 L h₀ nm_d2i).inner h₂ ad) rfl (GN.ext hmg (gn_len C hK)) rfl (fun h inK => Rd.ofCell (c := L + 3) rfl rfl ⟨o3, gt h inK _ _ m3, d3⟩) hkeep
      pcm hn okI _ _ _ _ _ _ W RI fun o st' ad' h' tk' fl hp sp' R' hf' => ?_
    obtain ⟨RO, so⟩ := R2.outer ok hG R' sp'.ux
    subst hp
    refine kk _ [] ⟨[], ad.ux⟩ h' tk' fl (hP []) (Stp.trans sp so fun a ha => RO.ownG ok ha) RO ?_
    obtain ⟨w, rfl, hv⟩ := hf'
    refine ⟨w, rfl, hv.weaken fun b hb => ?_⟩
    have e := sp'.ux
    rcases List.mem_append.mp hb with q | q
    · rcases List.mem_cons.mp q with q | q
      · rw [q]; exact List.mem_append_left _ List.mem_cons_self
      · have q : b ∈ (fnFm A (fnAt (KK C.w.params) 42) 42 L h₀ nm_d2i).cells := by simpa using q
        exact List.mem_append_right _ (by rw [e]; exact List.mem_append_left _ q)
    · exact List.mem_append_right _ (by rw [e]; exact List.mem_append_right _ q)
  exact wpAny_execs_cons key
theorem pc_d2i (C : Cx) (hK : C.K = KK C.w.params) {tabs : List Tab} (hC : TC C tabs) (ht : tab2 ∈ tabs) : PC C 18 (.ref 42) T_d2i := by
  refine PC.mono (PC.fn (n := 17) (fnok_d2i C hK) fun A L h₀ ok => ex_d2i_rest C hK hC ht (by decide) A L h₀ ok) ?_
  rintro vs P ⟨ds, N, B, rfl, h1, h2, h3, h4, hP⟩
  exact ⟨rfl, ds, N, B, rfl, h1, h2, h3, h4, fun st' => hP⟩
end Mine
end
section
open PySem PySem.Calls PyProof.Rows PySem.W PySem.Spec PySem.SeqAt
set_option Elab.async false
set_option maxRecDepth 100000
set_option linter.unusedVariables false
set_option linter.unusedSimpArgs false
namespace Mine
theorem val_digs (N : Nat) : ∀ (k : Nat) (x : Int), 0 ≤ x → x < 2 ^ (N * k) → val N (digs N x k) = x
  | 0, x, h0, h1 => by simp at h1; simp [digs, val]; lia
  | k + 1, x, h0, h1 => by
    have pN := pow2_pos N
    have hd := Int.mul_ediv_add_emod x (2 ^ N)
    have e : digs N x (k + 1) = digs N (x % 2 ^ N) 1 ++ digs N (x / 2 ^ N) k := by
      have := digs_split (N := N) (x := x) 1 k
      rw [Nat.mul_one, Nat.add_comm] at this; exact this
    rw [e, digs_one (Int.emod_nonneg x (Int.ne_of_gt pN)) (Int.emod_lt_of_pos x pN)]
    simp only [List.cons_append, List.nil_append, val]
    rw [val_digs N k _ (Int.ediv_nonneg h0 (Int.le_of_lt pN)) ?_]
    · (clear h0 h1 pN e; lia)
    · rw [Int.ediv_lt_iff_lt_mul pN, ← pow_add2]; rw [Nat.mul_add, Nat.mul_one] at h1; exact h1
theorem digs_bd {N : Nat} {x : Int} {k : Nat} : ∀ d ∈ digs N x k, 0 ≤ d ∧ d < 2 ^ N := by
  intro d hd
  obtain ⟨i, _, rfl⟩ := List.mem_map.mp hd
  exact ⟨Int.emod_nonneg _ (Int.ne_of_gt (pow2_pos N)), Int.emod_lt_of_pos _ (pow2_pos N)⟩
noncomputable def preD (a b : Int) : Prop := 0 ≤ a ∧ 0 < b ∧ Builtin.Int.intBits a ≤ 2 ^ 18 ∧ Builtin.Int.intBits b ≤ 4000 ∧ (Builtin.Int.intBits a + Builtin.Int.intBits b - 1) / Builtin.Int.intBits b ≤ 2 ^ 16
noncomputable def T_dmp (vs : List V) (P : V → Prop) : Prop := ∃ a b : Int, vs = [.int a, .int b] ∧ preD a b ∧ P (.tup [.int (a / b), .int (a % b)])
theorem w_dmp {a b : Int} (hp : preD a b) {P : V → Prop} (hP : P (.tup [.int (a / b), .int (a % b)])) :
    W_dmp T_i2d (T2 0) T_d2i ([.int a, .int b] ++ List.replicate 7 .unb) (retP P) := by
  obtain ⟨h0, hb, ha, hN, hk⟩ := hp
  obtain ⟨hlo, hNp⟩ := le_of_bits hb
  have hhi := lt_bits (Nat.le_refl (Builtin.Int.intBits b))
  unfold W_dmp
  (try dsimp only [xNil, xCons, xLift, xNext, xWhile, xFor, sTry, sIter, sRetOwn, q_xnxt, q_xret, appRead, wSubK, wIf, sSetSub, sCallM, setSubW, Int.toNat_natCast, bCons, bNil, sIte, sRet, sRetNone, sAssign, sAssignM, sAug, sUnpack, sSwap, sAppend, sReverse, sAugSub, sNever, sFrz, sWiden, sFor, sWhile, cCmp, cPlain, wName, wInt, wBool, wNone, wBin, wCmp, wUn, wNil, wCons, wCall, wBitLen, wTup, wLst, wSub, wSubM, wLenM, wCut, pNone, pSome, iSeq, iRange, iRev, frz, appW, augSubW, List.replicate_succ, List.replicate_zero, List.cons_append, List.nil_append, List.set_cons_succ, List.set_cons_zero, List.length_cons, List.length_nil, q_rv2, q_rv3, List.reverse_nil, q_add, q_sub, q_mul, q_fdiv, q_mod, q_shl, q_shr, q_and, q_or, q_xor, q_pow, q_cat, q_catv, q_rep, q_repv, q_eq, q_ne, q_lt, q_le, q_eql, q_nel, q_neg, q_inv, q_tri, q_unpt, q_unpi, q_set, q_set0, q_nxt, q_ret, q_rret, q_rnxt, q_getn, q_get0, q_pi, q_pl, q_pv, q_pt, q_pb, q_pn, q_itl, q_divmod, q_wn, q_wr, q_ln, q_lr, q_aadd, q_asub, q_ashl, q_ashr, q_aor, q_len, q_lenv, q_thaw, q_frz, q_frzv, q_subi, q_subv, q_subt, q_cuti, q_cutv, q_part, q_itv, q_itt, q_rev, q_rng1, q_rng3, q_lst0, List.map]); (try simp only [V.isNone, true_and, and_true, Int.natCast_nonneg, decide_eq_true_eq, decide_eq_false_iff_not, List.append_nil])
  generalize hNN : Builtin.Int.intBits b = N at *
  have hNl : N ≤ 2 ^ 20 := by (clear hP h0 hb ha hk hlo hhi; lia)
  unfold W_dmp_0_1
  (try dsimp only [xNil, xCons, xLift, xNext, xWhile, xFor, sTry, sIter, sRetOwn, q_xnxt, q_xret, appRead, wSubK, wIf, sSetSub, sCallM, setSubW, Int.toNat_natCast, bCons, bNil, sIte, sRet, sRetNone, sAssign, sAssignM, sAug, sUnpack, sSwap, sAppend, sReverse, sAugSub, sNever, sFrz, sWiden, sFor, sWhile, cCmp, cPlain, wName, wInt, wBool, wNone, wBin, wCmp, wUn, wNil, wCons, wCall, wBitLen, wTup, wLst, wSub, wSubM, wLenM, wCut, pNone, pSome, iSeq, iRange, iRev, frz, appW, augSubW, List.replicate_succ, List.replicate_zero, List.cons_append, List.nil_append, List.set_cons_succ, List.set_cons_zero, List.length_cons, List.length_nil, q_rv2, q_rv3, List.reverse_nil, q_add, q_sub, q_mul, q_fdiv, q_mod, q_shl, q_shr, q_and, q_or, q_xor, q_pow, q_cat, q_catv, q_rep, q_repv, q_eq, q_ne, q_lt, q_le, q_eql, q_nel, q_neg, q_inv, q_tri, q_unpt, q_unpi, q_set, q_set0, q_nxt, q_ret, q_rret, q_rnxt, q_getn, q_get0, q_pi, q_pl, q_pv, q_pt, q_pb, q_pn, q_itl, q_divmod, q_wn, q_wr, q_ln, q_lr, q_aadd, q_asub, q_ashl, q_ashr, q_aor, q_len, q_lenv, q_thaw, q_frz, q_frzv, q_subi, q_subv, q_subt, q_cuti, q_cutv, q_part, q_itv, q_itt, q_rev, q_rng1, q_rng3, q_lst0, List.map]); (try simp only [V.isNone, true_and, and_true, Int.natCast_nonneg, decide_eq_true_eq, decide_eq_false_iff_not, List.append_nil])
  refine ⟨a, N, rfl, h0, hNp, hNl, by (clear hP h0 hb hNN hN hk hlo hNp hhi hNl; lia), hk, ?_⟩
  generalize hkk : (Builtin.Int.intBits a + N - 1) / N = k at *
  have hNk : Builtin.Int.intBits a ≤ N * k ∧ N * k ≤ Builtin.Int.intBits a + N := by
    have h1 := Nat.div_add_mod (Builtin.Int.intBits a + N - 1) N
    have h2 := Nat.mod_lt (Builtin.Int.intBits a + N - 1) hNp
    rw [hkk] at h1; (clear hP h0 hb hlo hhi hNl hkk hk; lia)
  have hak : a < 2 ^ (N * k) := Int.lt_of_lt_of_le (lt_bits (Nat.le_refl _)) (pow_mono2 hNk.1)
  have vD := val_digs N k a h0 hak
  have bD := digs_bd (N := N) (x := a) (k := k)
  have lD := digs_length N a k
  generalize digs N a k = D at *
  unfold W_dmp_0_2
  (try dsimp only [xNil, xCons, xLift, xNext, xWhile, xFor, sTry, sIter, sRetOwn, q_xnxt, q_xret, appRead, wSubK, wIf, sSetSub, sCallM, setSubW, Int.toNat_natCast, bCons, bNil, sIte, sRet, sRetNone, sAssign, sAssignM, sAug, sUnpack, sSwap, sAppend, sReverse, sAugSub, sNever, sFrz, sWiden, sFor, sWhile, cCmp, cPlain, wName, wInt, wBool, wNone, wBin, wCmp, wUn, wNil, wCons, wCall, wBitLen, wTup, wLst, wSub, wSubM, wLenM, wCut, pNone, pSome, iSeq, iRange, iRev, frz, appW, augSubW, List.replicate_succ, List.replicate_zero, List.cons_append, List.nil_append, List.set_cons_succ, List.set_cons_zero, List.length_cons, List.length_nil, q_rv2, q_rv3, List.reverse_nil, q_add, q_sub, q_mul, q_fdiv, q_mod, q_shl, q_shr, q_and, q_or, q_xor, q_pow, q_cat, q_catv, q_rep, q_repv, q_eq, q_ne, q_lt, q_le, q_eql, q_nel, q_neg, q_inv, q_tri, q_unpt, q_unpi, q_set, q_set0, q_nxt, q_ret, q_rret, q_rnxt, q_getn, q_get0, q_pi, q_pl, q_pv, q_pt, q_pb, q_pn, q_itl, q_divmod, q_wn, q_wr, q_ln, q_lr, q_aadd, q_asub, q_ashl, q_ashr, q_aor, q_len, q_lenv, q_thaw, q_frz, q_frzv, q_subi, q_subv, q_subt, q_cuti, q_cutv, q_part, q_itv, q_itt, q_rev, q_rng1, q_rng3, q_lst0, List.map]); (try simp only [V.isNone, true_and, and_true, Int.natCast_nonneg, decide_eq_true_eq, decide_eq_false_iff_not, List.append_nil])
  unfold W_dmp_0_3
  (try dsimp only [xNil, xCons, xLift, xNext, xWhile, xFor, sTry, sIter, sRetOwn, q_xnxt, q_xret, appRead, wSubK, wIf, sSetSub, sCallM, setSubW, Int.toNat_natCast, bCons, bNil, sIte, sRet, sRetNone, sAssign, sAssignM, sAug, sUnpack, sSwap, sAppend, sReverse, sAugSub, sNever, sFrz, sWiden, sFor, sWhile, cCmp, cPlain, wName, wInt, wBool, wNone, wBin, wCmp, wUn, wNil, wCons, wCall, wBitLen, wTup, wLst, wSub, wSubM, wLenM, wCut, pNone, pSome, iSeq, iRange, iRev, frz, appW, augSubW, List.replicate_succ, List.replicate_zero, List.cons_append, List.nil_append, List.set_cons_succ, List.set_cons_zero, List.length_cons, List.length_nil, q_rv2, q_rv3, List.reverse_nil, q_add, q_sub, q_mul, q_fdiv, q_mod, q_shl, q_shr, q_and, q_or, q_xor, q_pow, q_cat, q_catv, q_rep, q_repv, q_eq, q_ne, q_lt, q_le, q_eql, q_nel, q_neg, q_inv, q_tri, q_unpt, q_unpi, q_set, q_set0, q_nxt, q_ret, q_rret, q_rnxt, q_getn, q_get0, q_pi, q_pl, q_pv, q_pt, q_pb, q_pn, q_itl, q_divmod, q_wn, q_wr, q_ln, q_lr, q_aadd, q_asub, q_ashl, q_ashr, q_aor, q_len, q_lenv, q_thaw, q_frz, q_frzv, q_subi, q_subv, q_subt, q_cuti, q_cutv, q_part, q_itv, q_itt, q_rev, q_rng1, q_rng3, q_lst0, List.map]); (try simp only [V.isNone, true_and, and_true, Int.natCast_nonneg, decide_eq_true_eq, decide_eq_false_iff_not, List.append_nil])
  refine ⟨by decide, ?_⟩
  unfold W_dmp_0_4
  (try dsimp only [xNil, xCons, xLift, xNext, xWhile, xFor, sTry, sIter, sRetOwn, q_xnxt, q_xret, appRead, wSubK, wIf, sSetSub, sCallM, setSubW, Int.toNat_natCast, bCons, bNil, sIte, sRet, sRetNone, sAssign, sAssignM, sAug, sUnpack, sSwap, sAppend, sReverse, sAugSub, sNever, sFrz, sWiden, sFor, sWhile, cCmp, cPlain, wName, wInt, wBool, wNone, wBin, wCmp, wUn, wNil, wCons, wCall, wBitLen, wTup, wLst, wSub, wSubM, wLenM, wCut, pNone, pSome, iSeq, iRange, iRev, frz, appW, augSubW, List.replicate_succ, List.replicate_zero, List.cons_append, List.nil_append, List.set_cons_succ, List.set_cons_zero, List.length_cons, List.length_nil, q_rv2, q_rv3, List.reverse_nil, q_add, q_sub, q_mul, q_fdiv, q_mod, q_shl, q_shr, q_and, q_or, q_xor, q_pow, q_cat, q_catv, q_rep, q_repv, q_eq, q_ne, q_lt, q_le, q_eql, q_nel, q_neg, q_inv, q_tri, q_unpt, q_unpi, q_set, q_set0, q_nxt, q_ret, q_rret, q_rnxt, q_getn, q_get0, q_pi, q_pl, q_pv, q_pt, q_pb, q_pn, q_itl, q_divmod, q_wn, q_wr, q_ln, q_lr, q_aadd, q_asub, q_ashl, q_ashr, q_aor, q_len, q_lenv, q_thaw, q_frz, q_frzv, q_subi, q_subv, q_subt, q_cuti, q_cutv, q_part, q_itv, q_itt, q_rev, q_rng1, q_rng3, q_lst0, List.map]); (try simp only [V.isNone, true_and, and_true, Int.natCast_nonneg, decide_eq_true_eq, decide_eq_false_iff_not, List.append_nil])
  refine ⟨fun j st => ∃ (r : Int) (qs : List Int) (v6 v7 : V), st = [.int a, .int b, .int N, .ints D, .int r, .mints qs, v6, v7, .unb] ∧ j ≤ k ∧ qs.length = j ∧ 0 ≤ r ∧ r < b ∧ (∀ q ∈ qs, 0 ≤ q ∧ q < 2 ^ N) ∧ val N (D.drop (k - j)) = val N qs.reverse * b + r, ?_, ?_, ?_⟩
  · refine ⟨0, [], .unb, .unb, rfl, by (clear hP h0 hb ha hNN hN hlo hNp hhi hNl hkk hNk hak vD bD; lia), rfl, by (clear hP h0 hb ha hNN hN hlo hNp hhi hNl hkk hk hNk hak vD bD lD; lia), hb, by simp, ?_⟩
    rw [List.drop_eq_nil_of_le (by (clear hP h0 hb ha hNN hN hlo hNp hhi hNl hkk hNk hak vD bD; lia))]; simp [val]
  · rintro j v st hv ⟨r, qs, v6, v7, rfl, hj, hq, hr0, hr1, hqs, hval⟩
    rw [List.getElem?_map] at hv
    obtain ⟨d, hd, rfl⟩ := Option.map_eq_some_iff.mp hv
    have hjk : j < k := by
      have := (List.getElem?_eq_some_iff.mp hd).1
      simp at this; (clear hP h0 hb ha hNN hN hlo hNp hhi hNl hkk hk hNk hak vD bD hj hr0 hr1 hqs hval hd hv; lia)
    rw [List.getElem?_reverse (by (clear hP h0 hb ha hNN hN hlo hNp hhi hNl hkk hk hNk hak vD bD hj hr0 hr1 hqs hval hd hv; lia))] at hd
    have hd2 := bD d (List.mem_of_getElem? hd)
    have edrop : D.drop (k - (j + 1)) = d :: D.drop (k - j) := by
      have e1 : D.length - 1 - j = k - (j + 1) := by (clear hP h0 hb ha hNN hN hlo hNp hhi hNl hkk hk hNk hak vD bD hj hr0 hr1 hqs hval hd hv hd2; lia)
      rw [e1] at hd
      obtain ⟨hlt, hge⟩ := List.getElem?_eq_some_iff.mp hd
      rw [List.drop_eq_getElem_cons hlt, hge]
      congr 2; (clear hP h0 hb ha hNN hN hlo hNp hhi hNl hkk hk hNk hak vD bD hj hr0 hr1 hqs hval hd hv hd2 e1 hge; lia)
    unfold W_dmp_1_0
    (try dsimp only [xNil, xCons, xLift, xNext, xWhile, xFor, sTry, sIter, sRetOwn, q_xnxt, q_xret, appRead, wSubK, wIf, sSetSub, sCallM, setSubW, Int.toNat_natCast, bCons, bNil, sIte, sRet, sRetNone, sAssign, sAssignM, sAug, sUnpack, sSwap, sAppend, sReverse, sAugSub, sNever, sFrz, sWiden, sFor, sWhile, cCmp, cPlain, wName, wInt, wBool, wNone, wBin, wCmp, wUn, wNil, wCons, wCall, wBitLen, wTup, wLst, wSub, wSubM, wLenM, wCut, pNone, pSome, iSeq, iRange, iRev, frz, appW, augSubW, List.replicate_succ, List.replicate_zero, List.cons_append, List.nil_append, List.set_cons_succ, List.set_cons_zero, List.length_cons, List.length_nil, q_rv2, q_rv3, List.reverse_nil, q_add, q_sub, q_mul, q_fdiv, q_mod, q_shl, q_shr, q_and, q_or, q_xor, q_pow, q_cat, q_catv, q_rep, q_repv, q_eq, q_ne, q_lt, q_le, q_eql, q_nel, q_neg, q_inv, q_tri, q_unpt, q_unpi, q_set, q_set0, q_nxt, q_ret, q_rret, q_rnxt, q_getn, q_get0, q_pi, q_pl, q_pv, q_pt, q_pb, q_pn, q_itl, q_divmod, q_wn, q_wr, q_ln, q_lr, q_aadd, q_asub, q_ashl, q_ashr, q_aor, q_len, q_lenv, q_thaw, q_frz, q_frzv, q_subi, q_subv, q_subt, q_cuti, q_cutv, q_part, q_itv, q_itt, q_rev, q_rng1, q_rng3, q_lst0, List.map]); (try simp only [V.isNone, true_and, and_true, Int.natCast_nonneg, decide_eq_true_eq, decide_eq_false_iff_not, List.append_nil])
    have pN := pow2_pos N
    have rl : r < 2 ^ N := by (clear hP h0 hb ha hNN hN hlo hNp hNl hkk hk hNk hak vD bD lD hj hq hr0 hqs hd hv hjk hd2 edrop pN; lia)
    refine ⟨?_, ?_⟩
    · have := bits_lt hr0 rl; (clear hP h0 hb ha hlo hhi hNl hkk hk hNk hak vD bD lD hj hq hr0 hr1 hqs hval hd hv hjk hd2 edrop pN rl; lia)
    have hlt : r * 2 ^ N + d < b * 2 ^ N := by
      have : (r + 1) * 2 ^ N ≤ b * 2 ^ N := Int.mul_le_mul_of_nonneg_right (by (clear hP h0 hb ha hNN hN hlo hNp hhi hNl hkk hk hNk hak vD bD lD hj hq hr0 hqs hd hv hjk hd2 edrop pN rl; lia)) (Int.le_of_lt pN)
      rw [Int.add_mul] at this; (clear hP h0 hb ha hNN hN hlo hNp hhi hNl hkk hk hNk hak vD bD lD hj hq hr0 hr1 hqs hval hd hv hjk edrop pN rl; omega)
    have hge : 0 ≤ r * 2 ^ N + d := by have := Int.mul_nonneg hr0 (Int.le_of_lt pN); (clear hP h0 hb ha hNN hN hlo hNp hhi hNl hkk hk hNk hak vD bD lD hj hq hr0 hr1 hqs hval hd hv hjk edrop pN rl hlt; omega)
    refine ⟨_, b, N, rfl, ⟨hge, hNp, hlo, hhi, hlt, by omega⟩, ?_⟩
    (try dsimp only [xNil, xCons, xLift, xNext, xWhile, xFor, sTry, sIter, sRetOwn, q_xnxt, q_xret, appRead, wSubK, wIf, sSetSub, sCallM, setSubW, Int.toNat_natCast, bCons, bNil, sIte, sRet, sRetNone, sAssign, sAssignM, sAug, sUnpack, sSwap, sAppend, sReverse, sAugSub, sNever, sFrz, sWiden, sFor, sWhile, cCmp, cPlain, wName, wInt, wBool, wNone, wBin, wCmp, wUn, wNil, wCons, wCall, wBitLen, wTup, wLst, wSub, wSubM, wLenM, wCut, pNone, pSome, iSeq, iRange, iRev, frz, appW, augSubW, List.replicate_succ, List.replicate_zero, List.cons_append, List.nil_append, List.set_cons_succ, List.set_cons_zero, List.length_cons, List.length_nil, q_rv2, q_rv3, List.reverse_nil, q_add, q_sub, q_mul, q_fdiv, q_mod, q_shl, q_shr, q_and, q_or, q_xor, q_pow, q_cat, q_catv, q_rep, q_repv, q_eq, q_ne, q_lt, q_le, q_eql, q_nel, q_neg, q_inv, q_tri, q_unpt, q_unpi, q_set, q_set0, q_nxt, q_ret, q_rret, q_rnxt, q_getn, q_get0, q_pi, q_pl, q_pv, q_pt, q_pb, q_pn, q_itl, q_divmod, q_wn, q_wr, q_ln, q_lr, q_aadd, q_asub, q_ashl, q_ashr, q_aor, q_len, q_lenv, q_thaw, q_frz, q_frzv, q_subi, q_subv, q_subt, q_cuti, q_cutv, q_part, q_itv, q_itt, q_rev, q_rng1, q_rng3, q_lst0, List.map]); (try simp only [V.isNone, true_and, and_true, Int.natCast_nonneg, decide_eq_true_eq, decide_eq_false_iff_not, List.append_nil])
    unfold W_dmp_1_1
    (try dsimp only [xNil, xCons, xLift, xNext, xWhile, xFor, sTry, sIter, sRetOwn, q_xnxt, q_xret, appRead, wSubK, wIf, sSetSub, sCallM, setSubW, Int.toNat_natCast, bCons, bNil, sIte, sRet, sRetNone, sAssign, sAssignM, sAug, sUnpack, sSwap, sAppend, sReverse, sAugSub, sNever, sFrz, sWiden, sFor, sWhile, cCmp, cPlain, wName, wInt, wBool, wNone, wBin, wCmp, wUn, wNil, wCons, wCall, wBitLen, wTup, wLst, wSub, wSubM, wLenM, wCut, pNone, pSome, iSeq, iRange, iRev, frz, appW, augSubW, List.replicate_succ, List.replicate_zero, List.cons_append, List.nil_append, List.set_cons_succ, List.set_cons_zero, List.length_cons, List.length_nil, q_rv2, q_rv3, List.reverse_nil, q_add, q_sub, q_mul, q_fdiv, q_mod, q_shl, q_shr, q_and, q_or, q_xor, q_pow, q_cat, q_catv, q_rep, q_repv, q_eq, q_ne, q_lt, q_le, q_eql, q_nel, q_neg, q_inv, q_tri, q_unpt, q_unpi, q_set, q_set0, q_nxt, q_ret, q_rret, q_rnxt, q_getn, q_get0, q_pi, q_pl, q_pv, q_pt, q_pb, q_pn, q_itl, q_divmod, q_wn, q_wr, q_ln, q_lr, q_aadd, q_asub, q_ashl, q_ashr, q_aor, q_len, q_lenv, q_thaw, q_frz, q_frzv, q_subi, q_subv, q_subt, q_cuti, q_cutv, q_part, q_itv, q_itt, q_rev, q_rng1, q_rng3, q_lst0, List.map]); (try simp only [V.isNone, true_and, and_true, Int.natCast_nonneg, decide_eq_true_eq, decide_eq_false_iff_not, List.append_nil])
    refine ⟨by (clear hP h0 hb ha hNN hN hlo hNp hhi hNl hkk hNk hak vD bD hj hr0 hr1 hqs hval hd hv hd2 edrop pN rl hlt hge; lia), ?_⟩
    have ee := Int.mul_ediv_add_emod (r * 2 ^ N + d) b
    have m0 := Int.emod_nonneg (r * 2 ^ N + d) (Int.ne_of_gt hb)
    have m1 := Int.emod_lt_of_pos (r * 2 ^ N + d) hb
    refine ⟨_, _, _, _, rfl, by (clear hP h0 hb ha hNN hN hlo hNp hhi hNl hkk hk hNk hak vD bD hj hr0 hr1 hqs hval hd hv hd2 edrop pN rl hlt hge ee m0 m1; lia), by simp [hq], m0, m1, ?_, ?_⟩
    · intro q hq
      rcases List.mem_append.mp hq with q1 | q1
      · exact hqs q q1
      · rw [List.mem_singleton.mp q1]
        exact ⟨Int.ediv_nonneg hge (Int.le_of_lt hb), by rw [Int.ediv_lt_iff_lt_mul hb, Int.mul_comm (2 ^ N) b]; exact hlt⟩
    · rw [edrop]
      simp only [List.reverse_append, List.reverse_cons, List.reverse_nil, List.nil_append, List.cons_append, val]
      rw [hval]; grind
  · rintro st ⟨r, qs, v6, v7, rfl, hj, hq, hr0, hr1, hqs, hval⟩
    have hlen : (List.map V.int D.reverse).length = k := by simp [lD]
    rw [hlen, Nat.sub_self, List.drop_zero, vD] at hval
    obtain ⟨d1, d2⟩ := divmod_of hval hr0 hr1
    unfold W_dmp_0_5
    (try dsimp only [xNil, xCons, xLift, xNext, xWhile, xFor, sTry, sIter, sRetOwn, q_xnxt, q_xret, appRead, wSubK, wIf, sSetSub, sCallM, setSubW, Int.toNat_natCast, bCons, bNil, sIte, sRet, sRetNone, sAssign, sAssignM, sAug, sUnpack, sSwap, sAppend, sReverse, sAugSub, sNever, sFrz, sWiden, sFor, sWhile, cCmp, cPlain, wName, wInt, wBool, wNone, wBin, wCmp, wUn, wNil, wCons, wCall, wBitLen, wTup, wLst, wSub, wSubM, wLenM, wCut, pNone, pSome, iSeq, iRange, iRev, frz, appW, augSubW, List.replicate_succ, List.replicate_zero, List.cons_append, List.nil_append, List.set_cons_succ, List.set_cons_zero, List.length_cons, List.length_nil, q_rv2, q_rv3, List.reverse_nil, q_add, q_sub, q_mul, q_fdiv, q_mod, q_shl, q_shr, q_and, q_or, q_xor, q_pow, q_cat, q_catv, q_rep, q_repv, q_eq, q_ne, q_lt, q_le, q_eql, q_nel, q_neg, q_inv, q_tri, q_unpt, q_unpi, q_set, q_set0, q_nxt, q_ret, q_rret, q_rnxt, q_getn, q_get0, q_pi, q_pl, q_pv, q_pt, q_pb, q_pn, q_itl, q_divmod, q_wn, q_wr, q_ln, q_lr, q_aadd, q_asub, q_ashl, q_ashr, q_aor, q_len, q_lenv, q_thaw, q_frz, q_frzv, q_subi, q_subv, q_subt, q_cuti, q_cutv, q_part, q_itv, q_itt, q_rev, q_rng1, q_rng3, q_lst0, List.map]); (try simp only [V.isNone, true_and, and_true, Int.natCast_nonneg, decide_eq_true_eq, decide_eq_false_iff_not, List.append_nil])
    refine ⟨by rw [hq, hlen]; (clear hP h0 hb ha hNN hN hlo hNp hhi hNl hkk hNk hak vD bD hj hr0 hr1 hqs hval d1 d2; lia), ?_⟩
    unfold W_dmp_0_6
    (try dsimp only [xNil, xCons, xLift, xNext, xWhile, xFor, sTry, sIter, sRetOwn, q_xnxt, q_xret, appRead, wSubK, wIf, sSetSub, sCallM, setSubW, Int.toNat_natCast, bCons, bNil, sIte, sRet, sRetNone, sAssign, sAssignM, sAug, sUnpack, sSwap, sAppend, sReverse, sAugSub, sNever, sFrz, sWiden, sFor, sWhile, cCmp, cPlain, wName, wInt, wBool, wNone, wBin, wCmp, wUn, wNil, wCons, wCall, wBitLen, wTup, wLst, wSub, wSubM, wLenM, wCut, pNone, pSome, iSeq, iRange, iRev, frz, appW, augSubW, List.replicate_succ, List.replicate_zero, List.cons_append, List.nil_append, List.set_cons_succ, List.set_cons_zero, List.length_cons, List.length_nil, q_rv2, q_rv3, List.reverse_nil, q_add, q_sub, q_mul, q_fdiv, q_mod, q_shl, q_shr, q_and, q_or, q_xor, q_pow, q_cat, q_catv, q_rep, q_repv, q_eq, q_ne, q_lt, q_le, q_eql, q_nel, q_neg, q_inv, q_tri, q_unpt, q_unpi, q_set, q_set0, q_nxt, q_ret, q_rret, q_rnxt, q_getn, q_get0, q_pi, q_pl, q_pv, q_pt, q_pb, q_pn, q_itl, q_divmod, q_wn, q_wr, q_ln, q_lr, q_aadd, q_asub, q_ashl, q_ashr, q_aor, q_len, q_lenv, q_thaw, q_frz, q_frzv, q_subi, q_subv, q_subt, q_cuti, q_cutv, q_part, q_itv, q_itt, q_rev, q_rng1, q_rng3, q_lst0, List.map]); (try simp only [V.isNone, true_and, and_true, Int.natCast_nonneg, decide_eq_true_eq, decide_eq_false_iff_not, List.append_nil])
    rw [hlen] at hq
    refine ⟨qs.reverse, N, N, rfl, fun d hd => hqs d (List.mem_reverse.mp hd), by simp; (clear hP h0 hb ha hNN hN hlo hNp hhi hNl hkk hNk hak vD bD hj hr0 hr1 hqs hval hlen d1 d2; lia), hNl, ?_, ?_⟩
    · rw [List.length_reverse, hq, Nat.add_mul]; (clear hP h0 hb hlo hhi hNl hkk hak vD bD hj hr0 hr1 hqs hval hlen d1 d2; lia)
    (try dsimp only [xNil, xCons, xLift, xNext, xWhile, xFor, sTry, sIter, sRetOwn, q_xnxt, q_xret, appRead, wSubK, wIf, sSetSub, sCallM, setSubW, Int.toNat_natCast, bCons, bNil, sIte, sRet, sRetNone, sAssign, sAssignM, sAug, sUnpack, sSwap, sAppend, sReverse, sAugSub, sNever, sFrz, sWiden, sFor, sWhile, cCmp, cPlain, wName, wInt, wBool, wNone, wBin, wCmp, wUn, wNil, wCons, wCall, wBitLen, wTup, wLst, wSub, wSubM, wLenM, wCut, pNone, pSome, iSeq, iRange, iRev, frz, appW, augSubW, List.replicate_succ, List.replicate_zero, List.cons_append, List.nil_append, List.set_cons_succ, List.set_cons_zero, List.length_cons, List.length_nil, q_rv2, q_rv3, List.reverse_nil, q_add, q_sub, q_mul, q_fdiv, q_mod, q_shl, q_shr, q_and, q_or, q_xor, q_pow, q_cat, q_catv, q_rep, q_repv, q_eq, q_ne, q_lt, q_le, q_eql, q_nel, q_neg, q_inv, q_tri, q_unpt, q_unpi, q_set, q_set0, q_nxt, q_ret, q_rret, q_rnxt, q_getn, q_get0, q_pi, q_pl, q_pv, q_pt, q_pb, q_pn, q_itl, q_divmod, q_wn, q_wr, q_ln, q_lr, q_aadd, q_asub, q_ashl, q_ashr, q_aor, q_len, q_lenv, q_thaw, q_frz, q_frzv, q_subi, q_subv, q_subt, q_cuti, q_cutv, q_part, q_itv, q_itt, q_rev, q_rng1, q_rng3, q_lst0, List.map]); (try simp only [V.isNone, true_and, and_true, Int.natCast_nonneg, decide_eq_true_eq, decide_eq_false_iff_not, List.append_nil])
    unfold W_dmp_0_7
    (try dsimp only [xNil, xCons, xLift, xNext, xWhile, xFor, sTry, sIter, sRetOwn, q_xnxt, q_xret, appRead, wSubK, wIf, sSetSub, sCallM, setSubW, Int.toNat_natCast, bCons, bNil, sIte, sRet, sRetNone, sAssign, sAssignM, sAug, sUnpack, sSwap, sAppend, sReverse, sAugSub, sNever, sFrz, sWiden, sFor, sWhile, cCmp, cPlain, wName, wInt, wBool, wNone, wBin, wCmp, wUn, wNil, wCons, wCall, wBitLen, wTup, wLst, wSub, wSubM, wLenM, wCut, pNone, pSome, iSeq, iRange, iRev, frz, appW, augSubW, List.replicate_succ, List.replicate_zero, List.cons_append, List.nil_append, List.set_cons_succ, List.set_cons_zero, List.length_cons, List.length_nil, q_rv2, q_rv3, List.reverse_nil, q_add, q_sub, q_mul, q_fdiv, q_mod, q_shl, q_shr, q_and, q_or, q_xor, q_pow, q_cat, q_catv, q_rep, q_repv, q_eq, q_ne, q_lt, q_le, q_eql, q_nel, q_neg, q_inv, q_tri, q_unpt, q_unpi, q_set, q_set0, q_nxt, q_ret, q_rret, q_rnxt, q_getn, q_get0, q_pi, q_pl, q_pv, q_pt, q_pb, q_pn, q_itl, q_divmod, q_wn, q_wr, q_ln, q_lr, q_aadd, q_asub, q_ashl, q_ashr, q_aor, q_len, q_lenv, q_thaw, q_frz, q_frzv, q_subi, q_subv, q_subt, q_cuti, q_cutv, q_part, q_itv, q_itt, q_rev, q_rng1, q_rng3, q_lst0, List.map]); (try simp only [V.isNone, true_and, and_true, Int.natCast_nonneg, decide_eq_true_eq, decide_eq_false_iff_not, List.append_nil])
    refine ⟨by decide, ?_⟩
    rw [d1, d2] at hP; exact hP
theorem pc_dmp (C : Cx) (hK : C.K = KK C.w.params) {tabs : List Tab} (hC : TC C tabs) (ht1 : tab1 ∈ tabs) (ht2 : tab2 ∈ tabs) : PC C 19 (.ref 49) T_dmp := by
  refine PC.mono (PC.fn (n := 18) (fnok_dmp C hK) fun A L h₀ ok => ex_dmp C hK (pc_i2d C hK hC ht1) (by decide) (pc_div2 hK) (by decide) (pc_d2i C hK hC ht2) (by decide) A L h₀ ok) ?_
  rintro vs P ⟨a, b, rfl, hp, hP⟩
  exact ⟨rfl, w_dmp hp hP⟩
noncomputable def T_idm0 (vs : List V) (P : V → Prop) : Prop := ∃ a b : Int, vs = [.int a, .int b] ∧ preD a b ∧ P (.tup [.int (a / b), .int (a % b)])
noncomputable def T_idm1 (vs : List V) (P : V → Prop) : Prop := ∃ a b : Int, vs = [.int a, .int b] ∧ 0 < b ∧ (0 ≤ a → preD a b) ∧ (a < 0 → preD (-a - 1) b) ∧ P (.tup [.int (a / b), .int (a % b)])
noncomputable def T_idm (vs : List V) (P : V → Prop) : Prop := ∃ a b : Int, vs = [.int a, .int b] ∧ ((0 < b ∧ (0 ≤ a → preD a b) ∧ (a < 0 → preD (-a - 1) b) ∧ P (.tup [.int (a / b), .int (a % b)])) ∨
  (b < 0 ∧ (0 ≤ -a → preD (-a) (-b)) ∧ (-a < 0 → preD (a - 1) (-b)) ∧ P (.tup [.int ((-a) / (-b)), .int (-((-a) % (-b)))])))
theorem w_idm0 {T : List V → (V → Prop) → Prop} {a b : Int} {P : V → Prop} (hp : preD a b) (hP : P (.tup [.int (a / b), .int (a % b)])) :
    W_idm T T_dmp ([.int a, .int b] ++ List.replicate 2 .unb) (retP P) := by
  have := hp.1; have := hp.2.1
  unfold W_idm
  (try dsimp only [xNil, xCons, xLift, xNext, xWhile, xFor, sTry, sIter, sRetOwn, q_xnxt, q_xret, appRead, wSubK, wIf, sSetSub, sCallM, setSubW, Int.toNat_natCast, bCons, bNil, sIte, sRet, sRetNone, sAssign, sAssignM, sAug, sUnpack, sSwap, sAppend, sReverse, sAugSub, sNever, sFrz, sWiden, sFor, sWhile, cCmp, cPlain, wName, wInt, wBool, wNone, wBin, wCmp, wUn, wNil, wCons, wCall, wBitLen, wTup, wLst, wSub, wSubM, wLenM, wCut, pNone, pSome, iSeq, iRange, iRev, frz, appW, augSubW, List.replicate_succ, List.replicate_zero, List.cons_append, List.nil_append, List.set_cons_succ, List.set_cons_zero, List.length_cons, List.length_nil, q_rv2, q_rv3, List.reverse_nil, q_add, q_sub, q_mul, q_fdiv, q_mod, q_shl, q_shr, q_and, q_or, q_xor, q_pow, q_cat, q_catv, q_rep, q_repv, q_eq, q_ne, q_lt, q_le, q_eql, q_nel, q_neg, q_inv, q_tri, q_unpt, q_unpi, q_set, q_set0, q_nxt, q_ret, q_rret, q_rnxt, q_getn, q_get0, q_pi, q_pl, q_pv, q_pt, q_pb, q_pn, q_itl, q_divmod, q_wn, q_wr, q_ln, q_lr, q_aadd, q_asub, q_ashl, q_ashr, q_aor, q_len, q_lenv, q_thaw, q_frz, q_frzv, q_subi, q_subv, q_subt, q_cuti, q_cutv, q_part, q_itv, q_itt, q_rev, q_rng1, q_rng3, q_lst0, List.map]); (try simp only [V.isNone, true_and, and_true, Int.natCast_nonneg, decide_eq_true_eq, decide_eq_false_iff_not, List.append_nil])
  refine ⟨fun hc => by (clear hp hP; lia), fun _ => ?_⟩
  unfold W_idm_2_0
  (try dsimp only [xNil, xCons, xLift, xNext, xWhile, xFor, sTry, sIter, sRetOwn, q_xnxt, q_xret, appRead, wSubK, wIf, sSetSub, sCallM, setSubW, Int.toNat_natCast, bCons, bNil, sIte, sRet, sRetNone, sAssign, sAssignM, sAug, sUnpack, sSwap, sAppend, sReverse, sAugSub, sNever, sFrz, sWiden, sFor, sWhile, cCmp, cPlain, wName, wInt, wBool, wNone, wBin, wCmp, wUn, wNil, wCons, wCall, wBitLen, wTup, wLst, wSub, wSubM, wLenM, wCut, pNone, pSome, iSeq, iRange, iRev, frz, appW, augSubW, List.replicate_succ, List.replicate_zero, List.cons_append, List.nil_append, List.set_cons_succ, List.set_cons_zero, List.length_cons, List.length_nil, q_rv2, q_rv3, List.reverse_nil, q_add, q_sub, q_mul, q_fdiv, q_mod, q_shl, q_shr, q_and, q_or, q_xor, q_pow, q_cat, q_catv, q_rep, q_repv, q_eq, q_ne, q_lt, q_le, q_eql, q_nel, q_neg, q_inv, q_tri, q_unpt, q_unpi, q_set, q_set0, q_nxt, q_ret, q_rret, q_rnxt, q_getn, q_get0, q_pi, q_pl, q_pv, q_pt, q_pb, q_pn, q_itl, q_divmod, q_wn, q_wr, q_ln, q_lr, q_aadd, q_asub, q_ashl, q_ashr, q_aor, q_len, q_lenv, q_thaw, q_frz, q_frzv, q_subi, q_subv, q_subt, q_cuti, q_cutv, q_part, q_itv, q_itt, q_rev, q_rng1, q_rng3, q_lst0, List.map]); (try simp only [V.isNone, true_and, and_true, Int.natCast_nonneg, decide_eq_true_eq, decide_eq_false_iff_not, List.append_nil])
  refine ⟨fun hc => by (clear hp hP; lia), fun _ => ?_⟩
  unfold W_idm_4_0
  (try dsimp only [xNil, xCons, xLift, xNext, xWhile, xFor, sTry, sIter, sRetOwn, q_xnxt, q_xret, appRead, wSubK, wIf, sSetSub, sCallM, setSubW, Int.toNat_natCast, bCons, bNil, sIte, sRet, sRetNone, sAssign, sAssignM, sAug, sUnpack, sSwap, sAppend, sReverse, sAugSub, sNever, sFrz, sWiden, sFor, sWhile, cCmp, cPlain, wName, wInt, wBool, wNone, wBin, wCmp, wUn, wNil, wCons, wCall, wBitLen, wTup, wLst, wSub, wSubM, wLenM, wCut, pNone, pSome, iSeq, iRange, iRev, frz, appW, augSubW, List.replicate_succ, List.replicate_zero, List.cons_append, List.nil_append, List.set_cons_succ, List.set_cons_zero, List.length_cons, List.length_nil, q_rv2, q_rv3, List.reverse_nil, q_add, q_sub, q_mul, q_fdiv, q_mod, q_shl, q_shr, q_and, q_or, q_xor, q_pow, q_cat, q_catv, q_rep, q_repv, q_eq, q_ne, q_lt, q_le, q_eql, q_nel, q_neg, q_inv, q_tri, q_unpt, q_unpi, q_set, q_set0, q_nxt, q_ret, q_rret, q_rnxt, q_getn, q_get0, q_pi, q_pl, q_pv, q_pt, q_pb, q_pn, q_itl, q_divmod, q_wn, q_wr, q_ln, q_lr, q_aadd, q_asub, q_ashl, q_ashr, q_aor, q_len, q_lenv, q_thaw, q_frz, q_frzv, q_subi, q_subv, q_subt, q_cuti, q_cutv, q_part, q_itv, q_itt, q_rev, q_rng1, q_rng3, q_lst0, List.map]); (try simp only [V.isNone, true_and, and_true, Int.natCast_nonneg, decide_eq_true_eq, decide_eq_false_iff_not, List.append_nil])
  refine ⟨fun hc => by (clear hp hP this; lia), fun _ => ?_⟩
  unfold W_idm_6_0
  (try dsimp only [xNil, xCons, xLift, xNext, xWhile, xFor, sTry, sIter, sRetOwn, q_xnxt, q_xret, appRead, wSubK, wIf, sSetSub, sCallM, setSubW, Int.toNat_natCast, bCons, bNil, sIte, sRet, sRetNone, sAssign, sAssignM, sAug, sUnpack, sSwap, sAppend, sReverse, sAugSub, sNever, sFrz, sWiden, sFor, sWhile, cCmp, cPlain, wName, wInt, wBool, wNone, wBin, wCmp, wUn, wNil, wCons, wCall, wBitLen, wTup, wLst, wSub, wSubM, wLenM, wCut, pNone, pSome, iSeq, iRange, iRev, frz, appW, augSubW, List.replicate_succ, List.replicate_zero, List.cons_append, List.nil_append, List.set_cons_succ, List.set_cons_zero, List.length_cons, List.length_nil, q_rv2, q_rv3, List.reverse_nil, q_add, q_sub, q_mul, q_fdiv, q_mod, q_shl, q_shr, q_and, q_or, q_xor, q_pow, q_cat, q_catv, q_rep, q_repv, q_eq, q_ne, q_lt, q_le, q_eql, q_nel, q_neg, q_inv, q_tri, q_unpt, q_unpi, q_set, q_set0, q_nxt, q_ret, q_rret, q_rnxt, q_getn, q_get0, q_pi, q_pl, q_pv, q_pt, q_pb, q_pn, q_itl, q_divmod, q_wn, q_wr, q_ln, q_lr, q_aadd, q_asub, q_ashl, q_ashr, q_aor, q_len, q_lenv, q_thaw, q_frz, q_frzv, q_subi, q_subv, q_subt, q_cuti, q_cutv, q_part, q_itv, q_itt, q_rev, q_rng1, q_rng3, q_lst0, List.map]); (try simp only [V.isNone, true_and, and_true, Int.natCast_nonneg, decide_eq_true_eq, decide_eq_false_iff_not, List.append_nil])
  exact ⟨a, b, rfl, hp, hP⟩
theorem w_idm1 {a b : Int} {P : V → Prop} (hb : 0 < b) (h1 : 0 ≤ a → preD a b) (h2 : a < 0 → preD (-a - 1) b) (hP : P (.tup [.int (a / b), .int (a % b)])) :
    W_idm T_idm0 T_dmp ([.int a, .int b] ++ List.replicate 2 .unb) (retP P) := by
  by_cases ha : 0 ≤ a
  · exact w_idm0 (h1 ha) hP
  unfold W_idm
  (try dsimp only [xNil, xCons, xLift, xNext, xWhile, xFor, sTry, sIter, sRetOwn, q_xnxt, q_xret, appRead, wSubK, wIf, sSetSub, sCallM, setSubW, Int.toNat_natCast, bCons, bNil, sIte, sRet, sRetNone, sAssign, sAssignM, sAug, sUnpack, sSwap, sAppend, sReverse, sAugSub, sNever, sFrz, sWiden, sFor, sWhile, cCmp, cPlain, wName, wInt, wBool, wNone, wBin, wCmp, wUn, wNil, wCons, wCall, wBitLen, wTup, wLst, wSub, wSubM, wLenM, wCut, pNone, pSome, iSeq, iRange, iRev, frz, appW, augSubW, List.replicate_succ, List.replicate_zero, List.cons_append, List.nil_append, List.set_cons_succ, List.set_cons_zero, List.length_cons, List.length_nil, q_rv2, q_rv3, List.reverse_nil, q_add, q_sub, q_mul, q_fdiv, q_mod, q_shl, q_shr, q_and, q_or, q_xor, q_pow, q_cat, q_catv, q_rep, q_repv, q_eq, q_ne, q_lt, q_le, q_eql, q_nel, q_neg, q_inv, q_tri, q_unpt, q_unpi, q_set, q_set0, q_nxt, q_ret, q_rret, q_rnxt, q_getn, q_get0, q_pi, q_pl, q_pv, q_pt, q_pb, q_pn, q_itl, q_divmod, q_wn, q_wr, q_ln, q_lr, q_aadd, q_asub, q_ashl, q_ashr, q_aor, q_len, q_lenv, q_thaw, q_frz, q_frzv, q_subi, q_subv, q_subt, q_cuti, q_cutv, q_part, q_itv, q_itt, q_rev, q_rng1, q_rng3, q_lst0, List.map]); (try simp only [V.isNone, true_and, and_true, Int.natCast_nonneg, decide_eq_true_eq, decide_eq_false_iff_not, List.append_nil])
  refine ⟨fun hc => by omega, fun _ => ?_⟩
  unfold W_idm_2_0
  (try dsimp only [xNil, xCons, xLift, xNext, xWhile, xFor, sTry, sIter, sRetOwn, q_xnxt, q_xret, appRead, wSubK, wIf, sSetSub, sCallM, setSubW, Int.toNat_natCast, bCons, bNil, sIte, sRet, sRetNone, sAssign, sAssignM, sAug, sUnpack, sSwap, sAppend, sReverse, sAugSub, sNever, sFrz, sWiden, sFor, sWhile, cCmp, cPlain, wName, wInt, wBool, wNone, wBin, wCmp, wUn, wNil, wCons, wCall, wBitLen, wTup, wLst, wSub, wSubM, wLenM, wCut, pNone, pSome, iSeq, iRange, iRev, frz, appW, augSubW, List.replicate_succ, List.replicate_zero, List.cons_append, List.nil_append, List.set_cons_succ, List.set_cons_zero, List.length_cons, List.length_nil, q_rv2, q_rv3, List.reverse_nil, q_add, q_sub, q_mul, q_fdiv, q_mod, q_shl, q_shr, q_and, q_or, q_xor, q_pow, q_cat, q_catv, q_rep, q_repv, q_eq, q_ne, q_lt, q_le, q_eql, q_nel, q_neg, q_inv, q_tri, q_unpt, q_unpi, q_set, q_set0, q_nxt, q_ret, q_rret, q_rnxt, q_getn, q_get0, q_pi, q_pl, q_pv, q_pt, q_pb, q_pn, q_itl, q_divmod, q_wn, q_wr, q_ln, q_lr, q_aadd, q_asub, q_ashl, q_ashr, q_aor, q_len, q_lenv, q_thaw, q_frz, q_frzv, q_subi, q_subv, q_subt, q_cuti, q_cutv, q_part, q_itv, q_itt, q_rev, q_rng1, q_rng3, q_lst0, List.map]); (try simp only [V.isNone, true_and, and_true, Int.natCast_nonneg, decide_eq_true_eq, decide_eq_false_iff_not, List.append_nil])
  refine ⟨fun hc => by omega, fun _ => ?_⟩
  unfold W_idm_4_0
  (try dsimp only [xNil, xCons, xLift, xNext, xWhile, xFor, sTry, sIter, sRetOwn, q_xnxt, q_xret, appRead, wSubK, wIf, sSetSub, sCallM, setSubW, Int.toNat_natCast, bCons, bNil, sIte, sRet, sRetNone, sAssign, sAssignM, sAug, sUnpack, sSwap, sAppend, sReverse, sAugSub, sNever, sFrz, sWiden, sFor, sWhile, cCmp, cPlain, wName, wInt, wBool, wNone, wBin, wCmp, wUn, wNil, wCons, wCall, wBitLen, wTup, wLst, wSub, wSubM, wLenM, wCut, pNone, pSome, iSeq, iRange, iRev, frz, appW, augSubW, List.replicate_succ, List.replicate_zero, List.cons_append, List.nil_append, List.set_cons_succ, List.set_cons_zero, List.length_cons, List.length_nil, q_rv2, q_rv3, List.reverse_nil, q_add, q_sub, q_mul, q_fdiv, q_mod, q_shl, q_shr, q_and, q_or, q_xor, q_pow, q_cat, q_catv, q_rep, q_repv, q_eq, q_ne, q_lt, q_le, q_eql, q_nel, q_neg, q_inv, q_tri, q_unpt, q_unpi, q_set, q_set0, q_nxt, q_ret, q_rret, q_rnxt, q_getn, q_get0, q_pi, q_pl, q_pv, q_pt, q_pb, q_pn, q_itl, q_divmod, q_wn, q_wr, q_ln, q_lr, q_aadd, q_asub, q_ashl, q_ashr, q_aor, q_len, q_lenv, q_thaw, q_frz, q_frzv, q_subi, q_subv, q_subt, q_cuti, q_cutv, q_part, q_itv, q_itt, q_rev, q_rng1, q_rng3, q_lst0, List.map]); (try simp only [V.isNone, true_and, and_true, Int.natCast_nonneg, decide_eq_true_eq, decide_eq_false_iff_not, List.append_nil])
  refine ⟨fun _ => ?_, fun hc => by (clear hb h1 h2 hP; lia)⟩
  unfold W_idm_5_0
  (try dsimp only [xNil, xCons, xLift, xNext, xWhile, xFor, sTry, sIter, sRetOwn, q_xnxt, q_xret, appRead, wSubK, wIf, sSetSub, sCallM, setSubW, Int.toNat_natCast, bCons, bNil, sIte, sRet, sRetNone, sAssign, sAssignM, sAug, sUnpack, sSwap, sAppend, sReverse, sAugSub, sNever, sFrz, sWiden, sFor, sWhile, cCmp, cPlain, wName, wInt, wBool, wNone, wBin, wCmp, wUn, wNil, wCons, wCall, wBitLen, wTup, wLst, wSub, wSubM, wLenM, wCut, pNone, pSome, iSeq, iRange, iRev, frz, appW, augSubW, List.replicate_succ, List.replicate_zero, List.cons_append, List.nil_append, List.set_cons_succ, List.set_cons_zero, List.length_cons, List.length_nil, q_rv2, q_rv3, List.reverse_nil, q_add, q_sub, q_mul, q_fdiv, q_mod, q_shl, q_shr, q_and, q_or, q_xor, q_pow, q_cat, q_catv, q_rep, q_repv, q_eq, q_ne, q_lt, q_le, q_eql, q_nel, q_neg, q_inv, q_tri, q_unpt, q_unpi, q_set, q_set0, q_nxt, q_ret, q_rret, q_rnxt, q_getn, q_get0, q_pi, q_pl, q_pv, q_pt, q_pb, q_pn, q_itl, q_divmod, q_wn, q_wr, q_ln, q_lr, q_aadd, q_asub, q_ashl, q_ashr, q_aor, q_len, q_lenv, q_thaw, q_frz, q_frzv, q_subi, q_subv, q_subt, q_cuti, q_cutv, q_part, q_itv, q_itt, q_rev, q_rng1, q_rng3, q_lst0, List.map]); (try simp only [V.isNone, true_and, and_true, Int.natCast_nonneg, decide_eq_true_eq, decide_eq_false_iff_not, List.append_nil])
  rw [bnot]
  refine ⟨_, b, rfl, h2 (by omega), ?_⟩
  (try dsimp only [xNil, xCons, xLift, xNext, xWhile, xFor, sTry, sIter, sRetOwn, q_xnxt, q_xret, appRead, wSubK, wIf, sSetSub, sCallM, setSubW, Int.toNat_natCast, bCons, bNil, sIte, sRet, sRetNone, sAssign, sAssignM, sAug, sUnpack, sSwap, sAppend, sReverse, sAugSub, sNever, sFrz, sWiden, sFor, sWhile, cCmp, cPlain, wName, wInt, wBool, wNone, wBin, wCmp, wUn, wNil, wCons, wCall, wBitLen, wTup, wLst, wSub, wSubM, wLenM, wCut, pNone, pSome, iSeq, iRange, iRev, frz, appW, augSubW, List.replicate_succ, List.replicate_zero, List.cons_append, List.nil_append, List.set_cons_succ, List.set_cons_zero, List.length_cons, List.length_nil, q_rv2, q_rv3, List.reverse_nil, q_add, q_sub, q_mul, q_fdiv, q_mod, q_shl, q_shr, q_and, q_or, q_xor, q_pow, q_cat, q_catv, q_rep, q_repv, q_eq, q_ne, q_lt, q_le, q_eql, q_nel, q_neg, q_inv, q_tri, q_unpt, q_unpi, q_set, q_set0, q_nxt, q_ret, q_rret, q_rnxt, q_getn, q_get0, q_pi, q_pl, q_pv, q_pt, q_pb, q_pn, q_itl, q_divmod, q_wn, q_wr, q_ln, q_lr, q_aadd, q_asub, q_ashl, q_ashr, q_aor, q_len, q_lenv, q_thaw, q_frz, q_frzv, q_subi, q_subv, q_subt, q_cuti, q_cutv, q_part, q_itv, q_itt, q_rev, q_rng1, q_rng3, q_lst0, List.map]); (try simp only [V.isNone, true_and, and_true, Int.natCast_nonneg, decide_eq_true_eq, decide_eq_false_iff_not, List.append_nil])
  unfold W_idm_5_1
  (try dsimp only [xNil, xCons, xLift, xNext, xWhile, xFor, sTry, sIter, sRetOwn, q_xnxt, q_xret, appRead, wSubK, wIf, sSetSub, sCallM, setSubW, Int.toNat_natCast, bCons, bNil, sIte, sRet, sRetNone, sAssign, sAssignM, sAug, sUnpack, sSwap, sAppend, sReverse, sAugSub, sNever, sFrz, sWiden, sFor, sWhile, cCmp, cPlain, wName, wInt, wBool, wNone, wBin, wCmp, wUn, wNil, wCons, wCall, wBitLen, wTup, wLst, wSub, wSubM, wLenM, wCut, pNone, pSome, iSeq, iRange, iRev, frz, appW, augSubW, List.replicate_succ, List.replicate_zero, List.cons_append, List.nil_append, List.set_cons_succ, List.set_cons_zero, List.length_cons, List.length_nil, q_rv2, q_rv3, List.reverse_nil, q_add, q_sub, q_mul, q_fdiv, q_mod, q_shl, q_shr, q_and, q_or, q_xor, q_pow, q_cat, q_catv, q_rep, q_repv, q_eq, q_ne, q_lt, q_le, q_eql, q_nel, q_neg, q_inv, q_tri, q_unpt, q_unpi, q_set, q_set0, q_nxt, q_ret, q_rret, q_rnxt, q_getn, q_get0, q_pi, q_pl, q_pv, q_pt, q_pb, q_pn, q_itl, q_divmod, q_wn, q_wr, q_ln, q_lr, q_aadd, q_asub, q_ashl, q_ashr, q_aor, q_len, q_lenv, q_thaw, q_frz, q_frzv, q_subi, q_subv, q_subt, q_cuti, q_cutv, q_part, q_itv, q_itt, q_rev, q_rng1, q_rng3, q_lst0, List.map]); (try simp only [V.isNone, true_and, and_true, Int.natCast_nonneg, decide_eq_true_eq, decide_eq_false_iff_not, List.append_nil])
  refine ⟨by decide, ?_⟩
  rw [bnot, bnot]
  have ee := Int.mul_ediv_add_emod (-a - 1) b
  have m0 := Int.emod_nonneg (-a - 1) (Int.ne_of_gt hb)
  have m1 := Int.emod_lt_of_pos (-a - 1) hb
  obtain ⟨d1, d2⟩ := divmod_of (a := a) (b := b) (q := -((-a - 1) / b) - 1) (r := b + (-((-a - 1) % b) - 1)) (by grind) (by (clear hb h1 h2 hP ha ee m0; omega)) (by (clear hb h1 h2 hP ha ee m1; omega))
  rw [d1, d2] at hP; exact hP
theorem pc_idm (C : Cx) (hK : C.K = KK C.w.params) {tabs : List Tab} (hC : TC C tabs) (ht1 : tab1 ∈ tabs) (ht2 : tab2 ∈ tabs) : PC C 22 (.ref 56) T_idm := by
  have p0 : PC C 20 (.ref 56) T_idm0 := by
    refine PC.mono (PC.fn (n := 19) (fnok_idm C hK) fun A L h₀ ok => ex_idm C hK (T_int_divmod := fun _ _ => False) (m_int_divmod := 0) (fun A U s vs ws P Q E _ _ _ _ _ _ hT => hT.elim) (Nat.zero_le _) (pc_dmp C hK hC ht1 ht2) (by decide) A L h₀ ok) ?_
    rintro vs P ⟨a, b, rfl, hp, hP⟩
    exact ⟨rfl, w_idm0 hp hP⟩
  have p1 : PC C 21 (.ref 56) T_idm1 := by
    refine PC.mono (PC.fn (n := 20) (fnok_idm C hK) fun A L h₀ ok => ex_idm C hK p0 (by decide) (pc_dmp C hK hC ht1 ht2) (by decide) A L h₀ ok) ?_
    rintro vs P ⟨a, b, rfl, hb, h1, h2, hP⟩
    exact ⟨rfl, w_idm1 hb h1 h2 hP⟩
  refine PC.mono (PC.fn (n := 21) (fnok_idm C hK) fun A L h₀ ok => ex_idm C hK p1 (by decide) (pc_dmp C hK hC ht1 ht2) (by decide) A L h₀ ok) ?_
  rintro vs P ⟨a, b, rfl, hP⟩
  refine ⟨rfl, ?_⟩
  show W_idm T_idm1 T_dmp ([.int a, .int b] ++ List.replicate 2 .unb) (retP P)
  unfold W_idm
  (try dsimp only [xNil, xCons, xLift, xNext, xWhile, xFor, sTry, sIter, sRetOwn, q_xnxt, q_xret, appRead, wSubK, wIf, sSetSub, sCallM, setSubW, Int.toNat_natCast, bCons, bNil, sIte, sRet, sRetNone, sAssign, sAssignM, sAug, sUnpack, sSwap, sAppend, sReverse, sAugSub, sNever, sFrz, sWiden, sFor, sWhile, cCmp, cPlain, wName, wInt, wBool, wNone, wBin, wCmp, wUn, wNil, wCons, wCall, wBitLen, wTup, wLst, wSub, wSubM, wLenM, wCut, pNone, pSome, iSeq, iRange, iRev, frz, appW, augSubW, List.replicate_succ, List.replicate_zero, List.cons_append, List.nil_append, List.set_cons_succ, List.set_cons_zero, List.length_cons, List.length_nil, q_rv2, q_rv3, List.reverse_nil, q_add, q_sub, q_mul, q_fdiv, q_mod, q_shl, q_shr, q_and, q_or, q_xor, q_pow, q_cat, q_catv, q_rep, q_repv, q_eq, q_ne, q_lt, q_le, q_eql, q_nel, q_neg, q_inv, q_tri, q_unpt, q_unpi, q_set, q_set0, q_nxt, q_ret, q_rret, q_rnxt, q_getn, q_get0, q_pi, q_pl, q_pv, q_pt, q_pb, q_pn, q_itl, q_divmod, q_wn, q_wr, q_ln, q_lr, q_aadd, q_asub, q_ashl, q_ashr, q_aor, q_len, q_lenv, q_thaw, q_frz, q_frzv, q_subi, q_subv, q_subt, q_cuti, q_cutv, q_part, q_itv, q_itt, q_rev, q_rng1, q_rng3, q_lst0, List.map]); (try simp only [V.isNone, true_and, and_true, Int.natCast_nonneg, decide_eq_true_eq, decide_eq_false_iff_not, List.append_nil])
  refine ⟨fun hc => by rcases hP with h | h <;> omega, fun _ => ?_⟩
  unfold W_idm_2_0
  (try dsimp only [xNil, xCons, xLift, xNext, xWhile, xFor, sTry, sIter, sRetOwn, q_xnxt, q_xret, appRead, wSubK, wIf, sSetSub, sCallM, setSubW, Int.toNat_natCast, bCons, bNil, sIte, sRet, sRetNone, sAssign, sAssignM, sAug, sUnpack, sSwap, sAppend, sReverse, sAugSub, sNever, sFrz, sWiden, sFor, sWhile, cCmp, cPlain, wName, wInt, wBool, wNone, wBin, wCmp, wUn, wNil, wCons, wCall, wBitLen, wTup, wLst, wSub, wSubM, wLenM, wCut, pNone, pSome, iSeq, iRange, iRev, frz, appW, augSubW, List.replicate_succ, List.replicate_zero, List.cons_append, List.nil_append, List.set_cons_succ, List.set_cons_zero, List.length_cons, List.length_nil, q_rv2, q_rv3, List.reverse_nil, q_add, q_sub, q_mul, q_fdiv, q_mod, q_shl, q_shr, q_and, q_or, q_xor, q_pow, q_cat, q_catv, q_rep, q_repv, q_eq, q_ne, q_lt, q_le, q_eql, q_nel, q_neg, q_inv, q_tri, q_unpt, q_unpi, q_set, q_set0, q_nxt, q_ret, q_rret, q_rnxt, q_getn, q_get0, q_pi, q_pl, q_pv, q_pt, q_pb, q_pn, q_itl, q_divmod, q_wn, q_wr, q_ln, q_lr, q_aadd, q_asub, q_ashl, q_ashr, q_aor, q_len, q_lenv, q_thaw, q_frz, q_frzv, q_subi, q_subv, q_subt, q_cuti, q_cutv, q_part, q_itv, q_itt, q_rev, q_rng1, q_rng3, q_lst0, List.map]); (try simp only [V.isNone, true_and, and_true, Int.natCast_nonneg, decide_eq_true_eq, decide_eq_false_iff_not, List.append_nil])
  refine ⟨fun hc => ?_, fun hc => ?_⟩
  · rcases hP with h | ⟨hb, h1, h2, hP⟩
    · omega
    unfold W_idm_3_0
    (try dsimp only [xNil, xCons, xLift, xNext, xWhile, xFor, sTry, sIter, sRetOwn, q_xnxt, q_xret, appRead, wSubK, wIf, sSetSub, sCallM, setSubW, Int.toNat_natCast, bCons, bNil, sIte, sRet, sRetNone, sAssign, sAssignM, sAug, sUnpack, sSwap, sAppend, sReverse, sAugSub, sNever, sFrz, sWiden, sFor, sWhile, cCmp, cPlain, wName, wInt, wBool, wNone, wBin, wCmp, wUn, wNil, wCons, wCall, wBitLen, wTup, wLst, wSub, wSubM, wLenM, wCut, pNone, pSome, iSeq, iRange, iRev, frz, appW, augSubW, List.replicate_succ, List.replicate_zero, List.cons_append, List.nil_append, List.set_cons_succ, List.set_cons_zero, List.length_cons, List.length_nil, q_rv2, q_rv3, List.reverse_nil, q_add, q_sub, q_mul, q_fdiv, q_mod, q_shl, q_shr, q_and, q_or, q_xor, q_pow, q_cat, q_catv, q_rep, q_repv, q_eq, q_ne, q_lt, q_le, q_eql, q_nel, q_neg, q_inv, q_tri, q_unpt, q_unpi, q_set, q_set0, q_nxt, q_ret, q_rret, q_rnxt, q_getn, q_get0, q_pi, q_pl, q_pv, q_pt, q_pb, q_pn, q_itl, q_divmod, q_wn, q_wr, q_ln, q_lr, q_aadd, q_asub, q_ashl, q_ashr, q_aor, q_len, q_lenv, q_thaw, q_frz, q_frzv, q_subi, q_subv, q_subt, q_cuti, q_cutv, q_part, q_itv, q_itt, q_rev, q_rng1, q_rng3, q_lst0, List.map]); (try simp only [V.isNone, true_and, and_true, Int.natCast_nonneg, decide_eq_true_eq, decide_eq_false_iff_not, List.append_nil])
    refine ⟨-a, -b, rfl, by (clear hK hC ht1 ht2 p0 p1 hb h1 h2 hP; lia), h1, fun q => by rw [show - -a - 1 = a - 1 by (clear hK hC ht1 ht2 p0 p1 hc hb h1 h2 hP q; lia)]; exact h2 q, ?_⟩
    (try dsimp only [xNil, xCons, xLift, xNext, xWhile, xFor, sTry, sIter, sRetOwn, q_xnxt, q_xret, appRead, wSubK, wIf, sSetSub, sCallM, setSubW, Int.toNat_natCast, bCons, bNil, sIte, sRet, sRetNone, sAssign, sAssignM, sAug, sUnpack, sSwap, sAppend, sReverse, sAugSub, sNever, sFrz, sWiden, sFor, sWhile, cCmp, cPlain, wName, wInt, wBool, wNone, wBin, wCmp, wUn, wNil, wCons, wCall, wBitLen, wTup, wLst, wSub, wSubM, wLenM, wCut, pNone, pSome, iSeq, iRange, iRev, frz, appW, augSubW, List.replicate_succ, List.replicate_zero, List.cons_append, List.nil_append, List.set_cons_succ, List.set_cons_zero, List.length_cons, List.length_nil, q_rv2, q_rv3, List.reverse_nil, q_add, q_sub, q_mul, q_fdiv, q_mod, q_shl, q_shr, q_and, q_or, q_xor, q_pow, q_cat, q_catv, q_rep, q_repv, q_eq, q_ne, q_lt, q_le, q_eql, q_nel, q_neg, q_inv, q_tri, q_unpt, q_unpi, q_set, q_set0, q_nxt, q_ret, q_rret, q_rnxt, q_getn, q_get0, q_pi, q_pl, q_pv, q_pt, q_pb, q_pn, q_itl, q_divmod, q_wn, q_wr, q_ln, q_lr, q_aadd, q_asub, q_ashl, q_ashr, q_aor, q_len, q_lenv, q_thaw, q_frz, q_frzv, q_subi, q_subv, q_subt, q_cuti, q_cutv, q_part, q_itv, q_itt, q_rev, q_rng1, q_rng3, q_lst0, List.map]); (try simp only [V.isNone, true_and, and_true, Int.natCast_nonneg, decide_eq_true_eq, decide_eq_false_iff_not, List.append_nil])
    unfold W_idm_3_1
    (try dsimp only [xNil, xCons, xLift, xNext, xWhile, xFor, sTry, sIter, sRetOwn, q_xnxt, q_xret, appRead, wSubK, wIf, sSetSub, sCallM, setSubW, Int.toNat_natCast, bCons, bNil, sIte, sRet, sRetNone, sAssign, sAssignM, sAug, sUnpack, sSwap, sAppend, sReverse, sAugSub, sNever, sFrz, sWiden, sFor, sWhile, cCmp, cPlain, wName, wInt, wBool, wNone, wBin, wCmp, wUn, wNil, wCons, wCall, wBitLen, wTup, wLst, wSub, wSubM, wLenM, wCut, pNone, pSome, iSeq, iRange, iRev, frz, appW, augSubW, List.replicate_succ, List.replicate_zero, List.cons_append, List.nil_append, List.set_cons_succ, List.set_cons_zero, List.length_cons, List.length_nil, q_rv2, q_rv3, List.reverse_nil, q_add, q_sub, q_mul, q_fdiv, q_mod, q_shl, q_shr, q_and, q_or, q_xor, q_pow, q_cat, q_catv, q_rep, q_repv, q_eq, q_ne, q_lt, q_le, q_eql, q_nel, q_neg, q_inv, q_tri, q_unpt, q_unpi, q_set, q_set0, q_nxt, q_ret, q_rret, q_rnxt, q_getn, q_get0, q_pi, q_pl, q_pv, q_pt, q_pb, q_pn, q_itl, q_divmod, q_wn, q_wr, q_ln, q_lr, q_aadd, q_asub, q_ashl, q_ashr, q_aor, q_len, q_lenv, q_thaw, q_frz, q_frzv, q_subi, q_subv, q_subt, q_cuti, q_cutv, q_part, q_itv, q_itt, q_rev, q_rng1, q_rng3, q_lst0, List.map]); (try simp only [V.isNone, true_and, and_true, Int.natCast_nonneg, decide_eq_true_eq, decide_eq_false_iff_not, List.append_nil])
    exact ⟨by decide, hP⟩
  · rcases hP with ⟨hb, h1, h2, hP⟩ | h
    · unfold W_idm_4_0
      (try dsimp only [xNil, xCons, xLift, xNext, xWhile, xFor, sTry, sIter, sRetOwn, q_xnxt, q_xret, appRead, wSubK, wIf, sSetSub, sCallM, setSubW, Int.toNat_natCast, bCons, bNil, sIte, sRet, sRetNone, sAssign, sAssignM, sAug, sUnpack, sSwap, sAppend, sReverse, sAugSub, sNever, sFrz, sWiden, sFor, sWhile, cCmp, cPlain, wName, wInt, wBool, wNone, wBin, wCmp, wUn, wNil, wCons, wCall, wBitLen, wTup, wLst, wSub, wSubM, wLenM, wCut, pNone, pSome, iSeq, iRange, iRev, frz, appW, augSubW, List.replicate_succ, List.replicate_zero, List.cons_append, List.nil_append, List.set_cons_succ, List.set_cons_zero, List.length_cons, List.length_nil, q_rv2, q_rv3, List.reverse_nil, q_add, q_sub, q_mul, q_fdiv, q_mod, q_shl, q_shr, q_and, q_or, q_xor, q_pow, q_cat, q_catv, q_rep, q_repv, q_eq, q_ne, q_lt, q_le, q_eql, q_nel, q_neg, q_inv, q_tri, q_unpt, q_unpi, q_set, q_set0, q_nxt, q_ret, q_rret, q_rnxt, q_getn, q_get0, q_pi, q_pl, q_pv, q_pt, q_pb, q_pn, q_itl, q_divmod, q_wn, q_wr, q_ln, q_lr, q_aadd, q_asub, q_ashl, q_ashr, q_aor, q_len, q_lenv, q_thaw, q_frz, q_frzv, q_subi, q_subv, q_subt, q_cuti, q_cutv, q_part, q_itv, q_itt, q_rev, q_rng1, q_rng3, q_lst0, List.map]); (try simp only [V.isNone, true_and, and_true, Int.natCast_nonneg, decide_eq_true_eq, decide_eq_false_iff_not, List.append_nil])
      refine ⟨fun ha => ?_, fun ha => ?_⟩
      · unfold W_idm_5_0
        (try dsimp only [xNil, xCons, xLift, xNext, xWhile, xFor, sTry, sIter, sRetOwn, q_xnxt, q_xret, appRead, wSubK, wIf, sSetSub, sCallM, setSubW, Int.toNat_natCast, bCons, bNil, sIte, sRet, sRetNone, sAssign, sAssignM, sAug, sUnpack, sSwap, sAppend, sReverse, sAugSub, sNever, sFrz, sWiden, sFor, sWhile, cCmp, cPlain, wName, wInt, wBool, wNone, wBin, wCmp, wUn, wNil, wCons, wCall, wBitLen, wTup, wLst, wSub, wSubM, wLenM, wCut, pNone, pSome, iSeq, iRange, iRev, frz, appW, augSubW, List.replicate_succ, List.replicate_zero, List.cons_append, List.nil_append, List.set_cons_succ, List.set_cons_zero, List.length_cons, List.length_nil, q_rv2, q_rv3, List.reverse_nil, q_add, q_sub, q_mul, q_fdiv, q_mod, q_shl, q_shr, q_and, q_or, q_xor, q_pow, q_cat, q_catv, q_rep, q_repv, q_eq, q_ne, q_lt, q_le, q_eql, q_nel, q_neg, q_inv, q_tri, q_unpt, q_unpi, q_set, q_set0, q_nxt, q_ret, q_rret, q_rnxt, q_getn, q_get0, q_pi, q_pl, q_pv, q_pt, q_pb, q_pn, q_itl, q_divmod, q_wn, q_wr, q_ln, q_lr, q_aadd, q_asub, q_ashl, q_ashr, q_aor, q_len, q_lenv, q_thaw, q_frz, q_frzv, q_subi, q_subv, q_subt, q_cuti, q_cutv, q_part, q_itv, q_itt, q_rev, q_rng1, q_rng3, q_lst0, List.map]); (try simp only [V.isNone, true_and, and_true, Int.natCast_nonneg, decide_eq_true_eq, decide_eq_false_iff_not, List.append_nil])
        rw [bnot]
        refine ⟨_, b, rfl, hb, fun _ => h2 ha, fun q => by (clear hK hC ht1 ht2 p0 p1 hc hb h1 h2 hP; lia), ?_⟩
        (try dsimp only [xNil, xCons, xLift, xNext, xWhile, xFor, sTry, sIter, sRetOwn, q_xnxt, q_xret, appRead, wSubK, wIf, sSetSub, sCallM, setSubW, Int.toNat_natCast, bCons, bNil, sIte, sRet, sRetNone, sAssign, sAssignM, sAug, sUnpack, sSwap, sAppend, sReverse, sAugSub, sNever, sFrz, sWiden, sFor, sWhile, cCmp, cPlain, wName, wInt, wBool, wNone, wBin, wCmp, wUn, wNil, wCons, wCall, wBitLen, wTup, wLst, wSub, wSubM, wLenM, wCut, pNone, pSome, iSeq, iRange, iRev, frz, appW, augSubW, List.replicate_succ, List.replicate_zero, List.cons_append, List.nil_append, List.set_cons_succ, List.set_cons_zero, List.length_cons, List.length_nil, q_rv2, q_rv3, List.reverse_nil, q_add, q_sub, q_mul, q_fdiv, q_mod, q_shl, q_shr, q_and, q_or, q_xor, q_pow, q_cat, q_catv, q_rep, q_repv, q_eq, q_ne, q_lt, q_le, q_eql, q_nel, q_neg, q_inv, q_tri, q_unpt, q_unpi, q_set, q_set0, q_nxt, q_ret, q_rret, q_rnxt, q_getn, q_get0, q_pi, q_pl, q_pv, q_pt, q_pb, q_pn, q_itl, q_divmod, q_wn, q_wr, q_ln, q_lr, q_aadd, q_asub, q_ashl, q_ashr, q_aor, q_len, q_lenv, q_thaw, q_frz, q_frzv, q_subi, q_subv, q_subt, q_cuti, q_cutv, q_part, q_itv, q_itt, q_rev, q_rng1, q_rng3, q_lst0, List.map]); (try simp only [V.isNone, true_and, and_true, Int.natCast_nonneg, decide_eq_true_eq, decide_eq_false_iff_not, List.append_nil])
        unfold W_idm_5_1
        (try dsimp only [xNil, xCons, xLift, xNext, xWhile, xFor, sTry, sIter, sRetOwn, q_xnxt, q_xret, appRead, wSubK, wIf, sSetSub, sCallM, setSubW, Int.toNat_natCast, bCons, bNil, sIte, sRet, sRetNone, sAssign, sAssignM, sAug, sUnpack, sSwap, sAppend, sReverse, sAugSub, sNever, sFrz, sWiden, sFor, sWhile, cCmp, cPlain, wName, wInt, wBool, wNone, wBin, wCmp, wUn, wNil, wCons, wCall, wBitLen, wTup, wLst, wSub, wSubM, wLenM, wCut, pNone, pSome, iSeq, iRange, iRev, frz, appW, augSubW, List.replicate_succ, List.replicate_zero, List.cons_append, List.nil_append, List.set_cons_succ, List.set_cons_zero, List.length_cons, List.length_nil, q_rv2, q_rv3, List.reverse_nil, q_add, q_sub, q_mul, q_fdiv, q_mod, q_shl, q_shr, q_and, q_or, q_xor, q_pow, q_cat, q_catv, q_rep, q_repv, q_eq, q_ne, q_lt, q_le, q_eql, q_nel, q_neg, q_inv, q_tri, q_unpt, q_unpi, q_set, q_set0, q_nxt, q_ret, q_rret, q_rnxt, q_getn, q_get0, q_pi, q_pl, q_pv, q_pt, q_pb, q_pn, q_itl, q_divmod, q_wn, q_wr, q_ln, q_lr, q_aadd, q_asub, q_ashl, q_ashr, q_aor, q_len, q_lenv, q_thaw, q_frz, q_frzv, q_subi, q_subv, q_subt, q_cuti, q_cutv, q_part, q_itv, q_itt, q_rev, q_rng1, q_rng3, q_lst0, List.map]); (try simp only [V.isNone, true_and, and_true, Int.natCast_nonneg, decide_eq_true_eq, decide_eq_false_iff_not, List.append_nil])
        refine ⟨by decide, ?_⟩
        rw [bnot, bnot]
        have ee := Int.mul_ediv_add_emod (-a - 1) b
        have m0 := Int.emod_nonneg (-a - 1) (Int.ne_of_gt hb)
        have m1 := Int.emod_lt_of_pos (-a - 1) hb
        obtain ⟨d1, d2⟩ := divmod_of (a := a) (b := b) (q := -((-a - 1) / b) - 1) (r := b + (-((-a - 1) % b) - 1)) (by grind) (by omega) (by omega)
        rw [d1, d2] at hP; exact hP
      · unfold W_idm_6_0
        (try dsimp only [xNil, xCons, xLift, xNext, xWhile, xFor, sTry, sIter, sRetOwn, q_xnxt, q_xret, appRead, wSubK, wIf, sSetSub, sCallM, setSubW, Int.toNat_natCast, bCons, bNil, sIte, sRet, sRetNone, sAssign, sAssignM, sAug, sUnpack, sSwap, sAppend, sReverse, sAugSub, sNever, sFrz, sWiden, sFor, sWhile, cCmp, cPlain, wName, wInt, wBool, wNone, wBin, wCmp, wUn, wNil, wCons, wCall, wBitLen, wTup, wLst, wSub, wSubM, wLenM, wCut, pNone, pSome, iSeq, iRange, iRev, frz, appW, augSubW, List.replicate_succ, List.replicate_zero, List.cons_append, List.nil_append, List.set_cons_succ, List.set_cons_zero, List.length_cons, List.length_nil, q_rv2, q_rv3, List.reverse_nil, q_add, q_sub, q_mul, q_fdiv, q_mod, q_shl, q_shr, q_and, q_or, q_xor, q_pow, q_cat, q_catv, q_rep, q_repv, q_eq, q_ne, q_lt, q_le, q_eql, q_nel, q_neg, q_inv, q_tri, q_unpt, q_unpi, q_set, q_set0, q_nxt, q_ret, q_rret, q_rnxt, q_getn, q_get0, q_pi, q_pl, q_pv, q_pt, q_pb, q_pn, q_itl, q_divmod, q_wn, q_wr, q_ln, q_lr, q_aadd, q_asub, q_ashl, q_ashr, q_aor, q_len, q_lenv, q_thaw, q_frz, q_frzv, q_subi, q_subv, q_subt, q_cuti, q_cutv, q_part, q_itv, q_itt, q_rev, q_rng1, q_rng3, q_lst0, List.map]); (try simp only [V.isNone, true_and, and_true, Int.natCast_nonneg, decide_eq_true_eq, decide_eq_false_iff_not, List.append_nil])
        exact ⟨a, b, rfl, h1 (by (clear hK hC ht1 ht2 p0 p1 hc hb h1 h2 hP; lia)), hP⟩
    · omega
end Mine
end
section
open PySem PySem.Calls PyProof.Rows PySem.W PySem.Spec PySem.SeqAt
set_option Elab.async false
set_option maxRecDepth 100000
set_option linter.unusedVariables false
set_option linter.unusedSimpArgs false
namespace Mine
noncomputable def pvGo : List Int → Int → Int → Option (Int × List Int)
  | [], acc, b => if Builtin.bitAnd b 64 = 0 then some (acc, []) else none
  | b' :: r, acc, b => if Builtin.bitAnd b 64 = 0 then some (acc, b' :: r) else pvGo r (Builtin.bitOr (acc * 64) (Builtin.bitAnd b' 63)) b'
theorem pvGo_stop {acc b : Int} (h : Builtin.bitAnd b 64 = 0) : ∀ r, pvGo r acc b = some (acc, r)
  | [] => by rw [pvGo, if_pos h]
  | _ :: _ => by rw [pvGo, if_pos h]
theorem pvGo_nil {acc b : Int} (h : Builtin.bitAnd b 64 ≠ 0) : pvGo [] acc b = none := by rw [pvGo, if_neg h]
theorem pvGo_cons {acc b b' : Int} {r : List Int} (h : Builtin.bitAnd b 64 ≠ 0) : pvGo (b' :: r) acc b = pvGo r (Builtin.bitOr (acc * 64) (Builtin.bitAnd b' 63)) b' := by rw [pvGo, if_neg h]
noncomputable def pvR : List Int → Option (Int × List Int)
  | [] => none
  | b :: r => pvGo r (Builtin.bitAnd b 63) b
noncomputable def T_pv (rest : List Int) (P : V → List Int → Prop) (PE : Prop) : Prop := rest.length ≤ 2 ^ 16 ∧ match pvR rest with | some (v, r') => P (.int v) r' | none => PE
theorem and63 (x : Int) : 0 ≤ Builtin.bitAnd x 63 ∧ Builtin.bitAnd x 63 < 64 := by have := bitAnd_range x (y := 63) (by decide); lia
theorem or_step {a b : Int} {m : Nat} (h0 : 0 ≤ a) (h1 : a < 2 ^ m) (b0 : 0 ≤ b) (b1 : b < 64) : Builtin.bitOr (a * 64) b = a * 64 + b ∧ 0 ≤ a * 64 + b ∧ a * 64 + b < 2 ^ (m + 6) := by
  have e : Builtin.bitOr (a * 64) b = a * 64 + b := by have := bor_add (x := a) (y := b) h0 6 b0 (by simpa using b1); simpa using this
  refine ⟨e, by (clear h1; lia), ?_⟩
  rw [pow_add2, show (2 : Int) ^ 6 = 64 by decide]; (clear h0; lia)
theorem w_pv {a : Addr} {rest : List Int} {P : V → List Int → Prop} {PE : Prop} (h : T_pv rest P PE) :
    W_pv (.mit a rest :: List.replicate 2 .unb) (fun o st' => ∃ r', st'[0]? = some (.mit a r') ∧ retP (fun v => P v r') o st') (fun st' => st'[0]? = some (.mit a []) ∧ PE) := by
  obtain ⟨hl, h⟩ := h
  unfold W_pv
  cases rest with
  | nil => (try dsimp only [xNil, xCons, xLift, xNext, xWhile, xFor, sTry, sIter, sRetOwn, q_xnxt, q_xret, appRead, wSubK, wIf, sSetSub, sCallM, setSubW, Int.toNat_natCast, bCons, bNil, sIte, sRet, sRetNone, sAssign, sAssignM, sAug, sUnpack, sSwap, sAppend, sReverse, sAugSub, sNever, sFrz, sWiden, sFor, sWhile, cCmp, cPlain, wName, wInt, wBool, wNone, wBin, wCmp, wUn, wNil, wCons, wCall, wBitLen, wTup, wLst, wSub, wSubM, wLenM, wCut, pNone, pSome, iSeq, iRange, iRev, frz, appW, augSubW, List.replicate_succ, List.replicate_zero, List.cons_append, List.nil_append, List.set_cons_succ, List.set_cons_zero, List.length_cons, List.length_nil, q_rv2, q_rv3, List.reverse_nil, q_add, q_sub, q_mul, q_fdiv, q_mod, q_shl, q_shr, q_and, q_or, q_xor, q_pow, q_cat, q_catv, q_rep, q_repv, q_eq, q_ne, q_lt, q_le, q_eql, q_nel, q_neg, q_inv, q_tri, q_unpt, q_unpi, q_set, q_set0, q_nxt, q_ret, q_rret, q_rnxt, q_getn, q_get0, q_pi, q_pl, q_pv, q_pt, q_pb, q_pn, q_itl, q_divmod, q_wn, q_wr, q_ln, q_lr, q_aadd, q_asub, q_ashl, q_ashr, q_aor, q_len, q_lenv, q_thaw, q_frz, q_frzv, q_subi, q_subv, q_subt, q_cuti, q_cutv, q_part, q_itv, q_itt, q_rev, q_rng1, q_rng3, q_lst0, List.map]); (try simp only [V.isNone, true_and, and_true, Int.natCast_nonneg, decide_eq_true_eq, decide_eq_false_iff_not, List.append_nil]); exact ⟨rfl, h⟩
  | cons b r =>
    (try dsimp only [xNil, xCons, xLift, xNext, xWhile, xFor, sTry, sIter, sRetOwn, q_xnxt, q_xret, appRead, wSubK, wIf, sSetSub, sCallM, setSubW, Int.toNat_natCast, bCons, bNil, sIte, sRet, sRetNone, sAssign, sAssignM, sAug, sUnpack, sSwap, sAppend, sReverse, sAugSub, sNever, sFrz, sWiden, sFor, sWhile, cCmp, cPlain, wName, wInt, wBool, wNone, wBin, wCmp, wUn, wNil, wCons, wCall, wBitLen, wTup, wLst, wSub, wSubM, wLenM, wCut, pNone, pSome, iSeq, iRange, iRev, frz, appW, augSubW, List.replicate_succ, List.replicate_zero, List.cons_append, List.nil_append, List.set_cons_succ, List.set_cons_zero, List.length_cons, List.length_nil, q_rv2, q_rv3, List.reverse_nil, q_add, q_sub, q_mul, q_fdiv, q_mod, q_shl, q_shr, q_and, q_or, q_xor, q_pow, q_cat, q_catv, q_rep, q_repv, q_eq, q_ne, q_lt, q_le, q_eql, q_nel, q_neg, q_inv, q_tri, q_unpt, q_unpi, q_set, q_set0, q_nxt, q_ret, q_rret, q_rnxt, q_getn, q_get0, q_pi, q_pl, q_pv, q_pt, q_pb, q_pn, q_itl, q_divmod, q_wn, q_wr, q_ln, q_lr, q_aadd, q_asub, q_ashl, q_ashr, q_aor, q_len, q_lenv, q_thaw, q_frz, q_frzv, q_subi, q_subv, q_subt, q_cuti, q_cutv, q_part, q_itv, q_itt, q_rev, q_rng1, q_rng3, q_lst0, List.map]); (try simp only [V.isNone, true_and, and_true, Int.natCast_nonneg, decide_eq_true_eq, decide_eq_false_iff_not, List.append_nil])
    unfold W_pv_0_2
    (try dsimp only [xNil, xCons, xLift, xNext, xWhile, xFor, sTry, sIter, sRetOwn, q_xnxt, q_xret, appRead, wSubK, wIf, sSetSub, sCallM, setSubW, Int.toNat_natCast, bCons, bNil, sIte, sRet, sRetNone, sAssign, sAssignM, sAug, sUnpack, sSwap, sAppend, sReverse, sAugSub, sNever, sFrz, sWiden, sFor, sWhile, cCmp, cPlain, wName, wInt, wBool, wNone, wBin, wCmp, wUn, wNil, wCons, wCall, wBitLen, wTup, wLst, wSub, wSubM, wLenM, wCut, pNone, pSome, iSeq, iRange, iRev, frz, appW, augSubW, List.replicate_succ, List.replicate_zero, List.cons_append, List.nil_append, List.set_cons_succ, List.set_cons_zero, List.length_cons, List.length_nil, q_rv2, q_rv3, List.reverse_nil, q_add, q_sub, q_mul, q_fdiv, q_mod, q_shl, q_shr, q_and, q_or, q_xor, q_pow, q_cat, q_catv, q_rep, q_repv, q_eq, q_ne, q_lt, q_le, q_eql, q_nel, q_neg, q_inv, q_tri, q_unpt, q_unpi, q_set, q_set0, q_nxt, q_ret, q_rret, q_rnxt, q_getn, q_get0, q_pi, q_pl, q_pv, q_pt, q_pb, q_pn, q_itl, q_divmod, q_wn, q_wr, q_ln, q_lr, q_aadd, q_asub, q_ashl, q_ashr, q_aor, q_len, q_lenv, q_thaw, q_frz, q_frzv, q_subi, q_subv, q_subt, q_cuti, q_cutv, q_part, q_itv, q_itt, q_rev, q_rng1, q_rng3, q_lst0, List.map]); (try simp only [V.isNone, true_and, and_true, Int.natCast_nonneg, decide_eq_true_eq, decide_eq_false_iff_not, List.append_nil])
    simp only [pvR] at h
    refine ⟨fun m st => ∃ (acc b : Int) (r : List Int) (k : Nat), st = [.mit a r, .int b, .int acc] ∧ m = r.length ∧ r.length ≤ 2 ^ 16 ∧ k + r.length ≤ 2 ^ 17 ∧ 0 ≤ acc ∧ acc < 2 ^ (6 * k) ∧ (match pvGo r acc b with | some (v, r') => P (.int v) r' | none => PE), ⟨_, _, b, r, 1, rfl, rfl, by simp at hl; (clear h; lia), by simp at hl; (clear h; lia), (and63 b).1, by simpa using (and63 b).2, h⟩, ?_⟩
    rintro m st ⟨acc, b, r, k, rfl, rfl, h1, h2, h3, h4, h5⟩
    (try dsimp only [xNil, xCons, xLift, xNext, xWhile, xFor, sTry, sIter, sRetOwn, q_xnxt, q_xret, appRead, wSubK, wIf, sSetSub, sCallM, setSubW, Int.toNat_natCast, bCons, bNil, sIte, sRet, sRetNone, sAssign, sAssignM, sAug, sUnpack, sSwap, sAppend, sReverse, sAugSub, sNever, sFrz, sWiden, sFor, sWhile, cCmp, cPlain, wName, wInt, wBool, wNone, wBin, wCmp, wUn, wNil, wCons, wCall, wBitLen, wTup, wLst, wSub, wSubM, wLenM, wCut, pNone, pSome, iSeq, iRange, iRev, frz, appW, augSubW, List.replicate_succ, List.replicate_zero, List.cons_append, List.nil_append, List.set_cons_succ, List.set_cons_zero, List.length_cons, List.length_nil, q_rv2, q_rv3, List.reverse_nil, q_add, q_sub, q_mul, q_fdiv, q_mod, q_shl, q_shr, q_and, q_or, q_xor, q_pow, q_cat, q_catv, q_rep, q_repv, q_eq, q_ne, q_lt, q_le, q_eql, q_nel, q_neg, q_inv, q_tri, q_unpt, q_unpi, q_set, q_set0, q_nxt, q_ret, q_rret, q_rnxt, q_getn, q_get0, q_pi, q_pl, q_pv, q_pt, q_pb, q_pn, q_itl, q_divmod, q_wn, q_wr, q_ln, q_lr, q_aadd, q_asub, q_ashl, q_ashr, q_aor, q_len, q_lenv, q_thaw, q_frz, q_frzv, q_subi, q_subv, q_subt, q_cuti, q_cutv, q_part, q_itv, q_itt, q_rev, q_rng1, q_rng3, q_lst0, List.map]); (try simp only [V.isNone, true_and, and_true, Int.natCast_nonneg, decide_eq_true_eq, decide_eq_false_iff_not, List.append_nil])
    refine ⟨fun hc => ?_, fun hc => ?_⟩
    · have hc : Builtin.bitAnd b 64 ≠ 0 := by simpa using hc
      unfold W_pv_1
      (try dsimp only [xNil, xCons, xLift, xNext, xWhile, xFor, sTry, sIter, sRetOwn, q_xnxt, q_xret, appRead, wSubK, wIf, sSetSub, sCallM, setSubW, Int.toNat_natCast, bCons, bNil, sIte, sRet, sRetNone, sAssign, sAssignM, sAug, sUnpack, sSwap, sAppend, sReverse, sAugSub, sNever, sFrz, sWiden, sFor, sWhile, cCmp, cPlain, wName, wInt, wBool, wNone, wBin, wCmp, wUn, wNil, wCons, wCall, wBitLen, wTup, wLst, wSub, wSubM, wLenM, wCut, pNone, pSome, iSeq, iRange, iRev, frz, appW, augSubW, List.replicate_succ, List.replicate_zero, List.cons_append, List.nil_append, List.set_cons_succ, List.set_cons_zero, List.length_cons, List.length_nil, q_rv2, q_rv3, List.reverse_nil, q_add, q_sub, q_mul, q_fdiv, q_mod, q_shl, q_shr, q_and, q_or, q_xor, q_pow, q_cat, q_catv, q_rep, q_repv, q_eq, q_ne, q_lt, q_le, q_eql, q_nel, q_neg, q_inv, q_tri, q_unpt, q_unpi, q_set, q_set0, q_nxt, q_ret, q_rret, q_rnxt, q_getn, q_get0, q_pi, q_pl, q_pv, q_pt, q_pb, q_pn, q_itl, q_divmod, q_wn, q_wr, q_ln, q_lr, q_aadd, q_asub, q_ashl, q_ashr, q_aor, q_len, q_lenv, q_thaw, q_frz, q_frzv, q_subi, q_subv, q_subt, q_cuti, q_cutv, q_part, q_itv, q_itt, q_rev, q_rng1, q_rng3, q_lst0, List.map]); (try simp only [V.isNone, true_and, and_true, Int.natCast_nonneg, decide_eq_true_eq, decide_eq_false_iff_not, List.append_nil])
      refine ⟨by decide, by have := bits_lt h3 h4; (clear hl h h3 h4 h5 hc; lia), ?_⟩
      rw [show (2 : Int) ^ (6 : Int).toNat = 64 by decide]
      cases r with
      | nil => rw [pvGo_nil hc] at h5; (try dsimp only [xNil, xCons, xLift, xNext, xWhile, xFor, sTry, sIter, sRetOwn, q_xnxt, q_xret, appRead, wSubK, wIf, sSetSub, sCallM, setSubW, Int.toNat_natCast, bCons, bNil, sIte, sRet, sRetNone, sAssign, sAssignM, sAug, sUnpack, sSwap, sAppend, sReverse, sAugSub, sNever, sFrz, sWiden, sFor, sWhile, cCmp, cPlain, wName, wInt, wBool, wNone, wBin, wCmp, wUn, wNil, wCons, wCall, wBitLen, wTup, wLst, wSub, wSubM, wLenM, wCut, pNone, pSome, iSeq, iRange, iRev, frz, appW, augSubW, List.replicate_succ, List.replicate_zero, List.cons_append, List.nil_append, List.set_cons_succ, List.set_cons_zero, List.length_cons, List.length_nil, q_rv2, q_rv3, List.reverse_nil, q_add, q_sub, q_mul, q_fdiv, q_mod, q_shl, q_shr, q_and, q_or, q_xor, q_pow, q_cat, q_catv, q_rep, q_repv, q_eq, q_ne, q_lt, q_le, q_eql, q_nel, q_neg, q_inv, q_tri, q_unpt, q_unpi, q_set, q_set0, q_nxt, q_ret, q_rret, q_rnxt, q_getn, q_get0, q_pi, q_pl, q_pv, q_pt, q_pb, q_pn, q_itl, q_divmod, q_wn, q_wr, q_ln, q_lr, q_aadd, q_asub, q_ashl, q_ashr, q_aor, q_len, q_lenv, q_thaw, q_frz, q_frzv, q_subi, q_subv, q_subt, q_cuti, q_cutv, q_part, q_itv, q_itt, q_rev, q_rng1, q_rng3, q_lst0, List.map]); (try simp only [V.isNone, true_and, and_true, Int.natCast_nonneg, decide_eq_true_eq, decide_eq_false_iff_not, List.append_nil]); exact ⟨rfl, h5⟩
      | cons b' r =>
        rw [pvGo_cons hc] at h5
        (try dsimp only [xNil, xCons, xLift, xNext, xWhile, xFor, sTry, sIter, sRetOwn, q_xnxt, q_xret, appRead, wSubK, wIf, sSetSub, sCallM, setSubW, Int.toNat_natCast, bCons, bNil, sIte, sRet, sRetNone, sAssign, sAssignM, sAug, sUnpack, sSwap, sAppend, sReverse, sAugSub, sNever, sFrz, sWiden, sFor, sWhile, cCmp, cPlain, wName, wInt, wBool, wNone, wBin, wCmp, wUn, wNil, wCons, wCall, wBitLen, wTup, wLst, wSub, wSubM, wLenM, wCut, pNone, pSome, iSeq, iRange, iRev, frz, appW, augSubW, List.replicate_succ, List.replicate_zero, List.cons_append, List.nil_append, List.set_cons_succ, List.set_cons_zero, List.length_cons, List.length_nil, q_rv2, q_rv3, List.reverse_nil, q_add, q_sub, q_mul, q_fdiv, q_mod, q_shl, q_shr, q_and, q_or, q_xor, q_pow, q_cat, q_catv, q_rep, q_repv, q_eq, q_ne, q_lt, q_le, q_eql, q_nel, q_neg, q_inv, q_tri, q_unpt, q_unpi, q_set, q_set0, q_nxt, q_ret, q_rret, q_rnxt, q_getn, q_get0, q_pi, q_pl, q_pv, q_pt, q_pb, q_pn, q_itl, q_divmod, q_wn, q_wr, q_ln, q_lr, q_aadd, q_asub, q_ashl, q_ashr, q_aor, q_len, q_lenv, q_thaw, q_frz, q_frzv, q_subi, q_subv, q_subt, q_cuti, q_cutv, q_part, q_itv, q_itt, q_rev, q_rng1, q_rng3, q_lst0, List.map]); (try simp only [V.isNone, true_and, and_true, Int.natCast_nonneg, decide_eq_true_eq, decide_eq_false_iff_not, List.append_nil])
        obtain ⟨e1, e2, e3⟩ := or_step h3 h4 (and63 b').1 (and63 b').2
        refine ⟨_, by simp, _, b', r, k + 1, rfl, rfl, by simp at h1; (clear hl h h3 h4 hc h2 h5 e1 e2 e3; omega), by simp at h2; (clear hl h h3 h4 hc h1 h5 e1 e2 e3; lia), ?_, ?_, h5⟩
        · rw [e1]; exact e2
        · rw [e1, Nat.mul_add]; exact e3
    · have hc : Builtin.bitAnd b 64 = 0 := by simpa using hc
      rw [pvGo_stop hc] at h5
      exact ⟨r, rfl, h5⟩
theorem pci_pv (C : Cx) (hK : C.K = KK C.w.params) : PCI C 1 (.ref 63) T_pv := by
  have := pci_of (C := C) (n := 0) (fun l hl => clok_pv (frC C l hl) hK) (x := Str.ofString "iterator") rfl (fun L => rfl) (fun l hl A L h₀ outer fx ok => ex_pv C hK l hl A L h₀ outer fx ok)
  exact fun l hl A outer U s it rest P PE Q E h1 h2 h3 h4 h5 h6 h7 h8 h9 h10 hT => this l hl A outer U s it rest P PE Q E h1 h2 h3 h4 h5 h6 h7 h8 h9 h10 fun a => w_pv hT
end Mine
end
section
set_option Elab.async false
namespace Mine
noncomputable def goN (n b c : Nat) : Nat := 2 * c + (b ^^^ (2 * c / n)) - n * (2 * c / n)
theorem xor_lt2 {a b : Nat} (ha : a < 2) (hb : b < 2) : a ^^^ b < 2 := Nat.xor_lt_two_pow (n := 1) ha hb
theorem go_step {h b c : Nat} (hb : b < 2) (hc : c < 2 * h) :
    2 * c / (2 * h) < 2 ∧ 2 * c + (b ^^^ (2 * c / (2 * h))) = 2 * h * (2 * c / (2 * h)) + goN (2 * h) b c ∧ goN (2 * h) b c < 2 * h := by
  have hu : 2 * c / (2 * h) < 2 := Nat.div_lt_of_lt_mul (by (clear hb; lia))
  have h1 := Nat.mul_div_le (2 * c) (2 * h)
  have h2 : 2 * c < 2 * h * (2 * c / (2 * h) + 1) := Nat.lt_mul_div_succ (2 * c) (by (clear hb hu h1; lia))
  have he := xor_lt2 hb hu
  unfold goN
  generalize 2 * c / (2 * h) = u at *
  generalize b ^^^ u = e at *
  have : u = 0 ∨ u = 1 := by (clear hb hc h1 h2 he; lia)
  rcases this with rfl | rfl
  · (clear hb hc hu h1; lia)
  · (clear hb hu h2; lia)
noncomputable def finN (n p : Nat) : Nat → Nat → Nat
  | 0, _ => p
  | m + 1, r => goN n (r % 2) (finN n p m (r / 2))
noncomputable def halN (n p : Nat) : Nat → Nat → Nat
  | 0, _ => 0
  | m + 1, r => 2 * halN n p m (r / 2) + 2 * finN n p m (r / 2) / n
theorem xor_two (a b : Nat) : a ^^^ b = 2 * (a / 2 ^^^ b / 2) + (a % 2 ^^^ b % 2) := by
  have h1 : (a ^^^ b) / 2 = a / 2 ^^^ b / 2 := Nat.xor_div_two
  have h2 := Nat.xor_mod_two_eq_one (a := a) (b := b)
  have h3 := Nat.xor_mod_two_eq_one (a := a % 2) (b := b % 2)
  have h4 := xor_lt2 (Nat.mod_lt a (by decide : 0 < 2)) (Nat.mod_lt b (by decide : 0 < 2))
  lia
theorem fwd {h p : Nat} (hp : p < 2 * h) : ∀ (m r : Nat), r < 2 ^ m → p * 2 ^ m + (r ^^^ halN (2 * h) p m r) = 2 * h * halN (2 * h) p m r + finN (2 * h) p m r ∧ finN (2 * h) p m r < 2 * h ∧ halN (2 * h) p m r < 2 ^ m
  | 0, r, hr => by
    have : r = 0 := by simpa using hr
    subst this; simp [halN, finN]; exact hp
  | m + 1, r, hr => by
    have e2 : 2 ^ (m + 1) = 2 * 2 ^ m := by rw [Nat.pow_succ]; (clear hp hr; lia)
    obtain ⟨h1, h2, h3⟩ := fwd hp m (r / 2) (by (clear hp e2; lia))
    obtain ⟨s1, s2, s3⟩ := go_step (h := h) (b := r % 2) (c := finN (2 * h) p m (r / 2)) (Nat.mod_lt _ (by decide)) h2
    have x := xor_two r (halN (2 * h) p (m + 1) r)
    have d : halN (2 * h) p (m + 1) r / 2 = halN (2 * h) p m (r / 2) ∧ halN (2 * h) p (m + 1) r % 2 = 2 * finN (2 * h) p m (r / 2) / (2 * h) := by
      simp only [halN]
      generalize 2 * finN (2 * h) p m (r / 2) / (2 * h) = u at *
      (clear hp hr e2 h1 h2 h3 s3 x s2; lia)
    rw [d.1, d.2] at x
    rw [x]
    refine ⟨?_, s3, ?_⟩
    · simp only [halN, finN]
      generalize halN (2 * h) p m (r / 2) = H at *
      generalize finN (2 * h) p m (r / 2) = f at *
      generalize 2 * f / (2 * h) = u at *
      rw [e2, Nat.mul_add, Nat.mul_left_comm p 2, Nat.mul_left_comm (2 * h) 2 H]
      (clear hp hr e2 h3 h2 s3 s1 x d; lia)
    · simp only [halN]
      generalize 2 * finN (2 * h) p m (r / 2) / (2 * h) = u at *
      (clear hp hr e2 h1 h2 s3 s2 x; lia)
theorem div_two {h f e : Nat} (he : e < 2) : (2 * f + e) / (2 * h) = 2 * f / (2 * h) := by
  rw [← Nat.div_div_eq_div_mul, ← Nat.div_div_eq_div_mul]; congr 1; lia
theorem back {h p : Nat} (hp : p < 2 * h) : ∀ (m x : Nat), x < 2 ^ m → (x ^^^ ((p * 2 ^ m + x) / (2 * h))) < 2 ^ m ∧ halN (2 * h) p m (x ^^^ ((p * 2 ^ m + x) / (2 * h))) = (p * 2 ^ m + x) / (2 * h) ∧
    finN (2 * h) p m (x ^^^ ((p * 2 ^ m + x) / (2 * h))) = (p * 2 ^ m + x) % (2 * h)
  | 0, x, hx => by
    have : x = 0 := by simpa using hx
    subst this
    simp only [Nat.pow_zero, Nat.mul_one, Nat.add_zero, halN, finN, Nat.div_eq_of_lt hp, Nat.mod_eq_of_lt hp]
    decide
  | m + 1, x, hx => by
    have e2 : 2 ^ (m + 1) = 2 * 2 ^ m := by rw [Nat.pow_succ]; omega
    obtain ⟨h1, h2, h3⟩ := back hp m (x / 2) (by omega)
    have eN : p * 2 ^ (m + 1) + x = 2 * (p * 2 ^ m + x / 2) + x % 2 := by rw [e2, Nat.mul_left_comm]; (clear hp hx e2 h1 h2 h3; lia)
    rw [eN]
    generalize p * 2 ^ m + x / 2 = N at *
    have dm := Nat.div_add_mod N (2 * h)
    have hf : N % (2 * h) < 2 * h := Nat.mod_lt _ (by (clear hx e2 h1 h2 h3 eN dm; lia))
    generalize hH : N / (2 * h) = H at *
    generalize N % (2 * h) = f at *
    have he : x % 2 < 2 := Nat.mod_lt _ (by decide)
    have hu : 2 * f / (2 * h) < 2 := Nat.div_lt_of_lt_mul (by (clear hp hx e2 eN hH h1 h2 dm he; lia))
    have q1 : (2 * N + x % 2) / (2 * h) = 2 * H + 2 * f / (2 * h) := by
      rw [← div_two (h := h) (f := f) he, show 2 * N + x % 2 = (2 * f + x % 2) + 2 * h * (2 * H) by rw [Nat.mul_left_comm]; (clear hp hx e2 eN hH h1 h2 hf he hu; lia), Nat.add_mul_div_left _ _ (by (clear hx e2 eN hH h1 h2 hf h3 dm he hu; lia))]
      (clear hp hx e2 eN hH h1 h2 hf h3 dm he hu; lia)
    rw [q1]
    have xx := xor_two x (2 * H + 2 * f / (2 * h))
    have d1 : (2 * H + 2 * f / (2 * h)) / 2 = H := by generalize 2 * f / (2 * h) = u at *; (clear hp hx e2 eN hH h1 hf h3 dm he xx; lia)
    have d2 : (2 * H + 2 * f / (2 * h)) % 2 = 2 * f / (2 * h) := by generalize 2 * f / (2 * h) = u at *; (clear hp hx e2 eN hH h1 hf h3 dm he hu q1 xx; lia)
    rw [d1, d2] at xx
    have hb := xor_lt2 he hu
    have r1 : (x ^^^ (2 * H + 2 * f / (2 * h))) / 2 = x / 2 ^^^ H := by rw [xx]; (clear hp hx e2 eN hH h1 h2 hf h3 dm he hu q1 xx d1 d2; lia)
    have r2 : (x ^^^ (2 * H + 2 * f / (2 * h))) % 2 = x % 2 ^^^ (2 * f / (2 * h)) := by rw [xx]; (clear hp hx e2 eN hH h1 h2 hf h3 dm he hu q1 xx d1 d2; lia)
    refine ⟨by rw [xx]; (clear hp hx e2 eN hH h2 hf h3 dm he hu q1 d1 d2 hb r2; lia), ?_, ?_⟩
    · simp only [halN]; rw [r1, h2, h3]
    · simp only [finN]; rw [r1, r2, h3]
      obtain ⟨s1, s2, s3⟩ := go_step (h := h) (b := x % 2 ^^^ (2 * f / (2 * h))) (c := f) hb hf
      rw [Nat.xor_assoc, Nat.xor_self, Nat.xor_zero] at s2
      have dm2 := Nat.div_add_mod (2 * N + x % 2) (2 * h)
      rw [q1, Nat.mul_add, Nat.mul_left_comm] at dm2
      (clear hp hx e2 eN hH h1 h2 hf he hu q1 xx d1 d2 hb r1 r2 s1 s3; lia)
end Mine
end
section
set_option Elab.async false
namespace Mine
noncomputable def castL (l : List Nat) : List Int := l.map fun r => ((r : Nat) : Int)
noncomputable def rowsN (n p g m : Nat) : List Nat := (List.range (2 ^ m)).filter fun r => decide (finN n p m r = g)
noncomputable def toldN (n f q cnt : Nat) : List Nat := (List.range cnt).map fun k => (f + n * k) ^^^ (q + k)
theorem told_perm {h p g m f q cnt : Nat} (hp : p < 2 * h) (hg : g < 2 * h) (e : p * 2 ^ m + f = 2 * h * q + g) (hf : f < 2 * h) (hc : ∀ k, k < cnt ↔ f + 2 * h * k < 2 ^ m) :
    (toldN (2 * h) f q cnt).Perm (rowsN (2 * h) p g m) := by
  have key : ∀ k, k < cnt → (p * 2 ^ m + (f + 2 * h * k)) / (2 * h) = q + k ∧ (p * 2 ^ m + (f + 2 * h * k)) % (2 * h) = g := fun k _ => by
    have : p * 2 ^ m + (f + 2 * h * k) = g + 2 * h * (q + k) := by rw [Nat.mul_add]; (clear hp hg hf hc; lia)
    rw [this, Nat.add_mul_div_left _ _ (by (clear hp hg e hc this; lia)), Nat.add_mul_mod_self_left, Nat.div_eq_of_lt hg, Nat.mod_eq_of_lt hg]
    simp
  have B : ∀ k, k < cnt → ((f + 2 * h * k) ^^^ (q + k)) < 2 ^ m ∧ halN (2 * h) p m ((f + 2 * h * k) ^^^ (q + k)) = q + k ∧ finN (2 * h) p m ((f + 2 * h * k) ^^^ (q + k)) = g := fun k hk => by
    have b := back hp m (f + 2 * h * k) ((hc k).mp hk)
    rw [(key k hk).1, (key k hk).2] at b
    exact b
  refine (List.perm_ext_iff_of_nodup ?_ ?_).mpr fun r => ?_
  · unfold toldN
    refine List.Pairwise.map (R := fun a b => a < cnt ∧ b < cnt ∧ a < b) _ (fun a b hab => fun e => ?_) ?_
    · have h1 := (B a hab.1).2.1
      have h2 := (B b hab.2.1).2.1
      rw [e, h2] at h1
      (clear hp hg hf hc key B e h2; lia)
    · refine List.Pairwise.imp (R := fun a b => a ∈ List.range cnt ∧ b ∈ List.range cnt ∧ a < b) (fun {a b} x => ⟨List.mem_range.mp x.1, List.mem_range.mp x.2.1, x.2.2⟩) ?_
      exact List.Pairwise.and_mem.mp List.pairwise_lt_range
  · exact (List.nodup_range).filter _
  · unfold toldN rowsN
    rw [List.mem_map, List.mem_filter, List.mem_range, decide_eq_true_eq]
    constructor
    · rintro ⟨k, hk, rfl⟩
      have b := B k (List.mem_range.mp hk)
      exact ⟨b.1, b.2.2⟩
    · rintro ⟨hr, hfin⟩
      obtain ⟨w1, w2, w3⟩ := fwd hp m r hr
      rw [hfin] at w1
      have hx : (r ^^^ halN (2 * h) p m r) < 2 ^ m := Nat.xor_lt_two_pow hr w3
      generalize hH : halN (2 * h) p m r = H at *
      have hqH : q ≤ H := by
        refine Nat.le_of_not_lt fun q' => ?_
        have : 2 * h * (H + 1) ≤ 2 * h * q := Nat.mul_le_mul_left _ q'
        rw [Nat.mul_add] at this
        (clear hp hg hc key B hr hfin w2 hH w3 hx q'; lia)
      obtain ⟨k, rfl⟩ := Nat.exists_eq_add_of_le hqH
      have ex : (r ^^^ (q + k)) = f + 2 * h * k := by rw [Nat.mul_add] at w1; (clear hp hg hf hc key B hr hfin w2 hH w3 hx hqH; lia)
      refine ⟨k, List.mem_range.mpr ((hc k).mpr (by (clear hp hg hf hc key B hr hfin w2 hH w3 hqH; lia))), ?_⟩
      rw [← ex, Nat.xor_assoc, Nat.xor_self, Nat.xor_zero]
theorem sorted_told {h p g m f q cnt : Nat} (hp : p < 2 * h) (hg : g < 2 * h) (e : p * 2 ^ m + f = 2 * h * q + g) (hf : f < 2 * h) (hc : ∀ k, k < cnt ↔ f + 2 * h * k < 2 ^ m)
    {l : List Int} (hl : l.Perm (castL (toldN (2 * h) f q cnt))) (hs : l.Pairwise (· ≤ ·)) : l = castL (rowsN (2 * h) p g m) := by
  refine List.Perm.eq_of_pairwise (le := (· ≤ ·)) (fun a b _ _ h1 h2 => Int.le_antisymm h1 h2) hs ?_ (hl.trans ((told_perm hp hg e hf hc).map _))
  unfold castL rowsN
  refine List.Pairwise.map (R := fun a b => a < b) _ (fun a b hab => by (clear hp hg e hf hc hl hs; lia)) ?_
  exact List.Pairwise.filter _ List.pairwise_lt_range
end Mine
end
section
open PySem PySem.Calls PyProof.Rows PySem.W PySem.Spec PySem.SeqAt
set_option Elab.async false
set_option maxRecDepth 100000
set_option linter.unusedVariables false
set_option linter.unusedSimpArgs false
namespace Mine
theorem q_cutp {P : Option Int → Prop} {i : Int} : intPart (.int i) P = P (some i) := rfl
theorem q_lst1 {a : Int} : listV [.int a] = .ints [a] := rfl
theorem q_lst2 {a b : Int} : listV [.int a, .int b] = .ints [a, b] := rfl
theorem q_lstl {a b : List Int} : listV [.ints a, .ints b] = .list [.ints a, .ints b] := rfl
theorem q_lstb {b : Bool} {xs : List V} : listV (.bool b :: xs) = .list (.bool b :: xs) := rfl
theorem q_zip {l m : List Int} {P : List V → Prop} : zipT [.ints l, .ints m] P = (l.length = m.length ∧ P (pairsV l m)) := rfl
theorem q_lrange {b : Int} {P : V → Prop} : lrangeT [.int b] P = (Builtin.Range.small 0 b 1 = true ∧ b ≤ 2 ^ 24 ∧ P (.ints (rangeL 0 b 1))) := rfl
theorem q_sorted {l : List Int} {P : V → Prop} : sortT [.ints l] P = (l.length < 64 ∧ ∀ m : List Int, m.Perm l → m.Pairwise (· ≤ ·) → P (.ints m)) := rfl
theorem q_index {l : List Int} {W2 : WX} {st : List V} {P : V → Prop} : (fun v => match v with | .ints l => W2 st (fun u => match u with | .int a => l.length < 2 ^ 62 ∧ a ∈ l ∧ P (.int (l.idxOf a : Nat)) | _ => False) | _ => False) (V.ints l) = W2 st (fun u => match u with | .int a => l.length < 2 ^ 62 ∧ a ∈ l ∧ P (.int (l.idxOf a : Nat)) | _ => False) := rfl
theorem q_isn {P : V → Prop} : cmpV .Is .none .none P = P (.bool true) := rfl
theorem q_isi {a : Int} {P : V → Prop} : cmpV .Is (.int a) .none P = P (.bool false) := rfl
theorem q_net {xs ys : List V} {P : V → Prop} : cmpV .NotEq (.tup xs) (.tup ys) P = (okCmp (.tup xs) (.tup ys) ∧ P (.bool (!same (V.py (.tup xs)) (V.py (.tup ys))))) := rfl
theorem q_eqt {xs ys : List V} {P : V → Prop} : cmpV .Eq (.tup xs) (.tup ys) P = (okCmp (.tup xs) (.tup ys) ∧ P (.bool (same (V.py (.tup xs)) (V.py (.tup ys))))) := rfl
theorem q_nev {xs ys : List V} {P : V → Prop} : cmpV .NotEq (.list xs) (.list ys) P = (okCmp (.list xs) (.list ys) ∧ P (.bool (!same (V.py (.list xs)) (V.py (.list ys))))) := rfl
theorem rangeL_nat (b : Nat) : rangeL 0 (b : Int) 1 = (List.range b).map fun (j : Nat) => (j : Int) := by
  unfold rangeL
  have : (Builtin.Range.rangeSize 0 (b : Int) 1).toNat = b := by
    simp [Builtin.Range.rangeSize]; split <;> lia
  rw [this]; simp
theorem rangeL_len (b : Nat) : (rangeL 0 b 1).length = b := by rw [rangeL_nat]; simp
theorem range_get {b j : Nat} {v : V} (h : ((rangeL 0 (b : Int) 1).map V.int)[j]? = some v) : j < b ∧ v = .int (j : Int) := by
  rw [rangeL_nat, List.map_map, List.getElem?_map] at h
  by_cases hj : j < b
  · rw [List.getElem?_range hj] at h; simp at h; exact ⟨hj, h.symm⟩
  · rw [List.getElem?_eq_none (by simpa using hj)] at h; cases h
theorem small_nat {b : Nat} (h : b ≤ 2 ^ 20) : Builtin.Range.small 0 (b : Int) 1 = true := by
  unfold Builtin.Range.small; simp [Builtin.Range.rangeSize, Builtin.Range.rangeFitsLong]; lia
noncomputable def interL : List Int → List Int → List Int
  | a :: as, b :: bs => a :: b :: interL as bs
  | _, _ => []
noncomputable def pairF : V → List V
  | .tup [.int a, .int b] => [.int a, .int b]
  | _ => []
theorem pairs_flat : ∀ l m : List Int, (pairsV l m).flatMap pairF = (interL l m).map V.int
  | [], _ => rfl
  | _ :: _, [] => rfl
  | a :: l, b :: m => by simp only [pairsV, interL, List.flatMap_cons, pairs_flat l m]; rfl
theorem pairs_mem : ∀ {l m : List Int} {v : V}, v ∈ pairsV l m → ∃ a b, v = .tup [.int a, .int b]
  | [], _, v, h => by cases h
  | _ :: _, [], v, h => by cases h
  | a :: l, b :: m, v, h => by
    rcases List.mem_cons.mp h with rfl | h
    · exact ⟨a, b, rfl⟩
    · exact pairs_mem h
theorem inter_len : ∀ l m : List Int, (interL l m).length ≤ 2 * l.length
  | [], _ => by simp [interL]
  | _ :: _, [] => by simp [interL]
  | a :: l, b :: m => by have := inter_len l m; simp only [interL, List.length_cons]; lia
noncomputable def goL (n b : Nat) : List Int := (List.range n).map fun c => ((goN n b c : Nat) : Int)
noncomputable def upL (n : Int) : List Int := cutL (rangeL 0 n 1) none (some (n.fdiv 2)) none
noncomputable def loL (n : Int) : List Int := cutL (rangeL 0 n 1) (some (n.fdiv 2)) none none
theorem goes_facts : ∀ h : Fin 6, let n : Nat := 2 * (h.val + 1)
    (upL n).length = (loL n).length ∧ (∀ c ∈ rangeL 0 n 1, c ∈ interL (upL n) (loL n) ∧ c ∈ interL (loL n) (upL n)) ∧
    (rangeL 0 n 1).map (fun c => (((interL (upL n) (loL n)).idxOf c : Nat) : Int)) = goL n 0 ∧ (rangeL 0 n 1).map (fun c => (((interL (loL n) (upL n)).idxOf c : Nat) : Int)) = goL n 1 ∧ (upL n).length ≤ 6 ∧ (loL n).length ≤ 6 := by decide +kernel
theorem noPy {a b : Int} (h0 : 0 ≤ a) (h : a < 2 ^ 4000) : Builtin.divisionGoesByPylong a b = false := noPylong_diff (by have := bits_lt h0 h; (clear h0 h; lia))
theorem noPyN {a : Nat} {b : Int} (h : a < 2 ^ 63) : Builtin.divisionGoesByPylong (a : Int) b = false := by
  refine noPylong_diff ?_
  have : Builtin.Int.intBits (a : Int) ≤ 63 := bits_lt (by lia) (by lia)
  (clear h; lia)
theorem zip_flat {l m : List Int} {P : List V → Prop} (h : (interL l m).length ≤ 2 ^ 20) (hP : P ((interL l m).map V.int)) :
    compL (fun k v K => v.plain ∧ itemsV v fun vs => compL (fun k v K => v.plain ∧ k < 2 ^ 24 ∧ K [v]) k vs K) 0 (pairsV l m) P := by
  refine compL_flat (f := pairF) (B := 2 ^ 20) (by rw [pairs_flat, List.length_map]; (clear hP; lia)) (fun k v K hv hb hK => ?_) (by rw [pairs_flat]; exact hP)
  obtain ⟨a, b, rfl⟩ := pairs_mem hv
  have hb : k + 2 ≤ 2 ^ 20 := hb
  exact ⟨trivial, trivial, by (clear h hP hv hK; lia), trivial, by simp only [List.length_cons, List.length_nil]; (clear h hP hv hK; lia), hK⟩
noncomputable def T_goes (vs : List V) (P : V → Prop) : Prop := ∃ h : Nat, vs = [.int ((2 * h : Nat) : Int)] ∧ 1 ≤ h ∧ h ≤ 6 ∧ P (.list [.ints (goL (2 * h) 0), .ints (goL (2 * h) 1)])
theorem w_goes {h : Nat} (h1 : 1 ≤ h) (h6 : h ≤ 6) {P : V → Prop} (hP : P (.list [.ints (goL (2 * h) 0), .ints (goL (2 * h) 1)])) : W_goes ([.int ((2 * h : Nat) : Int)] ++ List.replicate 5 .unb) (retP P) := by
  obtain ⟨f1, f2, f3, f4, f5, f6⟩ := goes_facts ⟨h - 1, by omega⟩
  simp only [show 2 * (h - 1 + 1) = 2 * h by (clear hP f1 f2 f3 f4 f5 f6; lia)] at f1 f2 f3 f4 f5 f6
  generalize hn : 2 * h = n at *
  unfold W_goes
  (try dsimp only [xNil, xCons, xLift, xNext, xWhile, xFor, sTry, sIter, sRetOwn, q_xnxt, q_xret, appRead, wSubK, wIf, sSetSub, sCallM, setSubW, Int.toNat_natCast, bCons, bNil, sIte, sRet, sRetNone, sAssign, sAssignM, sAug, sUnpack, sSwap, sAppend, sReverse, sAugSub, sNever, sFrz, sWiden, sFor, sWhile, cCmp, cPlain, wName, wInt, wBool, wNone, wBin, wCmp, wUn, wNil, wCons, wCall, wBitLen, wTup, wLst, wSub, wSubM, wLenM, wCut, pNone, pSome, iSeq, iRange, iRev, frz, appW, augSubW, List.replicate_succ, List.replicate_zero, List.cons_append, List.nil_append, List.set_cons_succ, List.set_cons_zero, List.length_cons, List.length_nil, q_rv2, q_rv3, List.reverse_nil, q_add, q_sub, q_mul, q_fdiv, q_mod, q_shl, q_shr, q_and, q_or, q_xor, q_pow, q_cat, q_catv, q_rep, q_repv, q_eq, q_ne, q_lt, q_le, q_eql, q_nel, q_neg, q_inv, q_tri, q_unpt, q_unpi, q_set, q_set0, q_nxt, q_ret, q_rret, q_rnxt, q_getn, q_get0, q_pi, q_pl, q_pv, q_pt, q_pb, q_pn, q_itl, q_divmod, q_wn, q_wr, q_ln, q_lr, q_aadd, q_asub, q_ashl, q_ashr, q_aor, q_len, q_lenv, q_thaw, q_frz, q_frzv, q_subi, q_subv, q_subt, q_cuti, q_cutv, q_part, q_itv, q_itt, q_rev, q_rng1, q_rng3, q_lst0, wComp, wOne, wNst, wTst, sSwapM, augSubW, q_cutp, q_lst1, q_lst2, iZip, wLRange, wIndex, sAppNone, isM, itemsM, q_zip, q_lrange, q_sorted, q_lstl, q_lstb, q_index, q_isn, q_isi, q_eqt, q_net, q_nev, q_frzv, List.map]); (try simp only [V.isNone, true_and, and_true, Int.natCast_nonneg, decide_eq_true_eq, decide_eq_false_iff_not, List.append_nil, List.length_cons, List.length_nil, q_getn, q_get0, q_pi, q_pl, q_pv, q_pt, q_pb, q_pn, List.forall_mem_cons, List.map_cons, List.map_nil, forall_const, List.mem_nil_iff, false_implies, implies_true, List.not_mem_nil])
  refine ⟨small_nat (by (clear hP f1 f2 f3 f4 f5 f6; lia)), by (clear hP f1 f2 f3 f4 f5 f6; lia), ?_⟩
  unfold W_goes_0_1
  (try dsimp only [xNil, xCons, xLift, xNext, xWhile, xFor, sTry, sIter, sRetOwn, q_xnxt, q_xret, appRead, wSubK, wIf, sSetSub, sCallM, setSubW, Int.toNat_natCast, bCons, bNil, sIte, sRet, sRetNone, sAssign, sAssignM, sAug, sUnpack, sSwap, sAppend, sReverse, sAugSub, sNever, sFrz, sWiden, sFor, sWhile, cCmp, cPlain, wName, wInt, wBool, wNone, wBin, wCmp, wUn, wNil, wCons, wCall, wBitLen, wTup, wLst, wSub, wSubM, wLenM, wCut, pNone, pSome, iSeq, iRange, iRev, frz, appW, augSubW, List.replicate_succ, List.replicate_zero, List.cons_append, List.nil_append, List.set_cons_succ, List.set_cons_zero, List.length_cons, List.length_nil, q_rv2, q_rv3, List.reverse_nil, q_add, q_sub, q_mul, q_fdiv, q_mod, q_shl, q_shr, q_and, q_or, q_xor, q_pow, q_cat, q_catv, q_rep, q_repv, q_eq, q_ne, q_lt, q_le, q_eql, q_nel, q_neg, q_inv, q_tri, q_unpt, q_unpi, q_set, q_set0, q_nxt, q_ret, q_rret, q_rnxt, q_getn, q_get0, q_pi, q_pl, q_pv, q_pt, q_pb, q_pn, q_itl, q_divmod, q_wn, q_wr, q_ln, q_lr, q_aadd, q_asub, q_ashl, q_ashr, q_aor, q_len, q_lenv, q_thaw, q_frz, q_frzv, q_subi, q_subv, q_subt, q_cuti, q_cutv, q_part, q_itv, q_itt, q_rev, q_rng1, q_rng3, q_lst0, wComp, wOne, wNst, wTst, sSwapM, augSubW, q_cutp, q_lst1, q_lst2, iZip, wLRange, wIndex, sAppNone, isM, itemsM, q_zip, q_lrange, q_sorted, q_lstl, q_lstb, q_index, q_isn, q_isi, q_eqt, q_net, q_nev, q_frzv, List.map]); (try simp only [V.isNone, true_and, and_true, Int.natCast_nonneg, decide_eq_true_eq, decide_eq_false_iff_not, List.append_nil, List.length_cons, List.length_nil, q_getn, q_get0, q_pi, q_pl, q_pv, q_pt, q_pb, q_pn, List.forall_mem_cons, List.map_cons, List.map_nil, forall_const, List.mem_nil_iff, false_implies, implies_true, List.not_mem_nil])
  have g1 := inter_len (upL n) (loL n)
  have g2 := inter_len (loL n) (upL n)
  refine ⟨by decide, noPyN (by (clear hP f1 f2 f3 f4 f5 f6 g1 g2; lia)), by rw [rangeL_len]; (clear hP f1 f2 f3 f4 f5 f6 g1 g2; lia), by decide, by decide, noPyN (by omega), by rw [rangeL_len]; omega, by decide, by decide, ?_⟩
  unfold W_goes_0_2
  (try dsimp only [xNil, xCons, xLift, xNext, xWhile, xFor, sTry, sIter, sRetOwn, q_xnxt, q_xret, appRead, wSubK, wIf, sSetSub, sCallM, setSubW, Int.toNat_natCast, bCons, bNil, sIte, sRet, sRetNone, sAssign, sAssignM, sAug, sUnpack, sSwap, sAppend, sReverse, sAugSub, sNever, sFrz, sWiden, sFor, sWhile, cCmp, cPlain, wName, wInt, wBool, wNone, wBin, wCmp, wUn, wNil, wCons, wCall, wBitLen, wTup, wLst, wSub, wSubM, wLenM, wCut, pNone, pSome, iSeq, iRange, iRev, frz, appW, augSubW, List.replicate_succ, List.replicate_zero, List.cons_append, List.nil_append, List.set_cons_succ, List.set_cons_zero, List.length_cons, List.length_nil, q_rv2, q_rv3, List.reverse_nil, q_add, q_sub, q_mul, q_fdiv, q_mod, q_shl, q_shr, q_and, q_or, q_xor, q_pow, q_cat, q_catv, q_rep, q_repv, q_eq, q_ne, q_lt, q_le, q_eql, q_nel, q_neg, q_inv, q_tri, q_unpt, q_unpi, q_set, q_set0, q_nxt, q_ret, q_rret, q_rnxt, q_getn, q_get0, q_pi, q_pl, q_pv, q_pt, q_pb, q_pn, q_itl, q_divmod, q_wn, q_wr, q_ln, q_lr, q_aadd, q_asub, q_ashl, q_ashr, q_aor, q_len, q_lenv, q_thaw, q_frz, q_frzv, q_subi, q_subv, q_subt, q_cuti, q_cutv, q_part, q_itv, q_itt, q_rev, q_rng1, q_rng3, q_lst0, wComp, wOne, wNst, wTst, sSwapM, augSubW, q_cutp, q_lst1, q_lst2, iZip, wLRange, wIndex, sAppNone, isM, itemsM, q_zip, q_lrange, q_sorted, q_lstl, q_lstb, q_index, q_isn, q_isi, q_eqt, q_net, q_nev, q_frzv, List.map]); (try simp only [V.isNone, true_and, and_true, Int.natCast_nonneg, decide_eq_true_eq, decide_eq_false_iff_not, List.append_nil, List.length_cons, List.length_nil, q_getn, q_get0, q_pi, q_pl, q_pv, q_pt, q_pb, q_pn, List.forall_mem_cons, List.map_cons, List.map_nil, forall_const, List.mem_nil_iff, false_implies, implies_true, List.not_mem_nil])
  refine ⟨f1, zip_flat (by show (interL (upL n) (loL n)).length ≤ _; (clear h1 h6 hn hP f2 f3 f4 f6 g2; lia)) ?_⟩
  rw [listV_ints]
  unfold W_goes_0_3
  (try dsimp only [xNil, xCons, xLift, xNext, xWhile, xFor, sTry, sIter, sRetOwn, q_xnxt, q_xret, appRead, wSubK, wIf, sSetSub, sCallM, setSubW, Int.toNat_natCast, bCons, bNil, sIte, sRet, sRetNone, sAssign, sAssignM, sAug, sUnpack, sSwap, sAppend, sReverse, sAugSub, sNever, sFrz, sWiden, sFor, sWhile, cCmp, cPlain, wName, wInt, wBool, wNone, wBin, wCmp, wUn, wNil, wCons, wCall, wBitLen, wTup, wLst, wSub, wSubM, wLenM, wCut, pNone, pSome, iSeq, iRange, iRev, frz, appW, augSubW, List.replicate_succ, List.replicate_zero, List.cons_append, List.nil_append, List.set_cons_succ, List.set_cons_zero, List.length_cons, List.length_nil, q_rv2, q_rv3, List.reverse_nil, q_add, q_sub, q_mul, q_fdiv, q_mod, q_shl, q_shr, q_and, q_or, q_xor, q_pow, q_cat, q_catv, q_rep, q_repv, q_eq, q_ne, q_lt, q_le, q_eql, q_nel, q_neg, q_inv, q_tri, q_unpt, q_unpi, q_set, q_set0, q_nxt, q_ret, q_rret, q_rnxt, q_getn, q_get0, q_pi, q_pl, q_pv, q_pt, q_pb, q_pn, q_itl, q_divmod, q_wn, q_wr, q_ln, q_lr, q_aadd, q_asub, q_ashl, q_ashr, q_aor, q_len, q_lenv, q_thaw, q_frz, q_frzv, q_subi, q_subv, q_subt, q_cuti, q_cutv, q_part, q_itv, q_itt, q_rev, q_rng1, q_rng3, q_lst0, wComp, wOne, wNst, wTst, sSwapM, augSubW, q_cutp, q_lst1, q_lst2, iZip, wLRange, wIndex, sAppNone, isM, itemsM, q_zip, q_lrange, q_sorted, q_lstl, q_lstb, q_index, q_isn, q_isi, q_eqt, q_net, q_nev, q_frzv, List.map]); (try simp only [V.isNone, true_and, and_true, Int.natCast_nonneg, decide_eq_true_eq, decide_eq_false_iff_not, List.append_nil, List.length_cons, List.length_nil, q_getn, q_get0, q_pi, q_pl, q_pv, q_pt, q_pb, q_pn, List.forall_mem_cons, List.map_cons, List.map_nil, forall_const, List.mem_nil_iff, false_implies, implies_true, List.not_mem_nil])
  refine ⟨f1.symm, zip_flat (by show (interL (loL n) (upL n)).length ≤ _; (clear h1 h6 hn hP f2 f3 f4 f6 g1; lia)) ?_⟩
  rw [listV_ints]
  show W_goes_0_4 [V.int n, V.ints (rangeL 0 n 1), V.ints (upL n), V.ints (loL n), V.ints (interL (upL n) (loL n)), V.ints (interL (loL n) (upL n))] (retP P)
  generalize interL (upL n) (loL n) = o1 at *
  generalize interL (loL n) (upL n) = o2 at *
  unfold W_goes_0_4
  (try dsimp only [xNil, xCons, xLift, xNext, xWhile, xFor, sTry, sIter, sRetOwn, q_xnxt, q_xret, appRead, wSubK, wIf, sSetSub, sCallM, setSubW, Int.toNat_natCast, bCons, bNil, sIte, sRet, sRetNone, sAssign, sAssignM, sAug, sUnpack, sSwap, sAppend, sReverse, sAugSub, sNever, sFrz, sWiden, sFor, sWhile, cCmp, cPlain, wName, wInt, wBool, wNone, wBin, wCmp, wUn, wNil, wCons, wCall, wBitLen, wTup, wLst, wSub, wSubM, wLenM, wCut, pNone, pSome, iSeq, iRange, iRev, frz, appW, augSubW, List.replicate_succ, List.replicate_zero, List.cons_append, List.nil_append, List.set_cons_succ, List.set_cons_zero, List.length_cons, List.length_nil, q_rv2, q_rv3, List.reverse_nil, q_add, q_sub, q_mul, q_fdiv, q_mod, q_shl, q_shr, q_and, q_or, q_xor, q_pow, q_cat, q_catv, q_rep, q_repv, q_eq, q_ne, q_lt, q_le, q_eql, q_nel, q_neg, q_inv, q_tri, q_unpt, q_unpi, q_set, q_set0, q_nxt, q_ret, q_rret, q_rnxt, q_getn, q_get0, q_pi, q_pl, q_pv, q_pt, q_pb, q_pn, q_itl, q_divmod, q_wn, q_wr, q_ln, q_lr, q_aadd, q_asub, q_ashl, q_ashr, q_aor, q_len, q_lenv, q_thaw, q_frz, q_frzv, q_subi, q_subv, q_subt, q_cuti, q_cutv, q_part, q_itv, q_itt, q_rev, q_rng1, q_rng3, q_lst0, wComp, wOne, wNst, wTst, sSwapM, augSubW, q_cutp, q_lst1, q_lst2, iZip, wLRange, wIndex, sAppNone, isM, itemsM, q_zip, q_lrange, q_sorted, q_lstl, q_lstb, q_index, q_isn, q_isi, q_eqt, q_net, q_nev, q_frzv, List.map]); (try simp only [V.isNone, true_and, and_true, Int.natCast_nonneg, decide_eq_true_eq, decide_eq_false_iff_not, List.append_nil, List.length_cons, List.length_nil, q_getn, q_get0, q_pi, q_pl, q_pv, q_pt, q_pb, q_pn, List.forall_mem_cons, List.map_cons, List.map_nil, forall_const, List.mem_nil_iff, false_implies, implies_true, List.not_mem_nil])
  refine ⟨by decide, ?_⟩
  simp only [compL]
  have inner : ∀ (o : List Int) (P : List V → Prop), o.length ≤ 12 → (∀ c ∈ rangeL 0 n 1, c ∈ o) → P ((rangeL 0 n 1).map fun c => V.int (o.idxOf c : Nat)) →
      compL (fun k v K => (V.ints o).plain ∧ v.plain ∧ match v with | V.int a => o.length < 2 ^ 62 ∧ a ∈ o ∧ k < 2 ^ 24 ∧ K [V.int (o.idxOf a : Nat)] | x => False) 0 ((rangeL 0 n 1).map V.int) P := fun o P ho hm hP =>
    compL_int1 (g := fun c => V.int (o.idxOf c : Nat)) (B := 2 ^ 24) (by rw [rangeL_len]; (clear f1 f5 f6 f3 g1 f4 g2 f2 ho hm hP; lia)) (fun k i K hi hk hK => ⟨trivial, trivial, Nat.lt_of_le_of_lt ho (by decide), hm i hi, hk, hK⟩) hP
  refine ⟨trivial, inner o1 _ (by (clear h1 h6 hn hP f6 f3 f4 g2 f2 inner; lia)) (fun c hc => (f2 c hc).1) ⟨by decide, trivial, inner o2 _ (by (clear h1 h6 hn hP f6 f3 g1 f4 f2 inner; lia)) (fun c hc => (f2 c hc).2) ⟨by simp, ?_⟩⟩⟩
  rw [listV_map, listV_map, f3, f4]
  exact hP
theorem pc_goes (C : Cx) (hK : C.K = KK C.w.params) : PC C 1 (.ref 68) T_goes := by
  refine PC.mono (PC.fn (n := 0) (W := W_goes) (fnok_goes C hK) fun A L h₀ ok => ex_goes C hK A L h₀ ok) ?_
  rintro vs P ⟨h, rfl, h1, h2, hP⟩
  exact ⟨rfl, w_goes h1 h2 hP⟩
end Mine
end
section
open PySem PySem.Calls PyProof.Rows PySem.W PySem.Spec PySem.SeqAt
set_option Elab.async false
set_option maxRecDepth 100000
set_option linter.unusedVariables false
set_option linter.unusedSimpArgs false
namespace Mine
noncomputable def goesV (n : Nat) : V := .list [.ints (goL n 0), .ints (goL n 1)]
noncomputable def placesN (n p j : Nat) : List Nat := (List.range (2 ^ j)).map (finN n p j)
theorem range_two {α : Type} (F : Nat → α) : ∀ k : Nat, (List.range (2 * k)).map F = (List.range k).flatMap fun i => [F (2 * i), F (2 * i + 1)]
  | 0 => rfl
  | k + 1 => by
    rw [show 2 * (k + 1) = 2 * k + 1 + 1 by lia, List.range_succ, List.range_succ, List.range_succ, List.map_append, List.map_append, range_two F k, List.flatMap_append]
    simp
theorem goL_get {n b c : Nat} (hc : c < n) : (goL n b).getD c 0 = ((goN n b c : Nat) : Int) := by
  unfold goL; rw [List.getD_eq_getElem?_getD]; simp [hc]
theorem goL_len (n b : Nat) : (goL n b).length = n := by simp [goL]
theorem places_step (n p j : Nat) : placesN n p (j + 1) = (placesN n p j).flatMap fun c => [goN n 0 c, goN n 1 c] := by
  unfold placesN
  rw [show 2 ^ (j + 1) = 2 * 2 ^ j by rw [Nat.pow_succ]; lia, range_two, List.flatMap_map]
  congr 1; funext i
  simp only [finN]
  rw [show 2 * i / 2 = i by lia, show (2 * i + 1) / 2 = i by lia, show 2 * i % 2 = 0 by lia, show (2 * i + 1) % 2 = 1 by lia]
theorem fin_lt {h p : Nat} (hp : p < 2 * h) : ∀ (m r : Nat), finN (2 * h) p m r < 2 * h
  | 0, r => hp
  | m + 1, r => (go_step (Nat.mod_lt _ (by decide)) (fin_lt hp m (r / 2))).2.2
theorem places_len (n p j : Nat) : (placesN n p j).length = 2 ^ j := by simp [placesN]
noncomputable def T_rows (vs : List V) (P : V → Prop) : Prop := ∃ h p g m : Nat, vs = [goesV (2 * h), .int (p : Int), .int (g : Int), .int (m : Int)] ∧ h ≤ 6 ∧ p < 2 * h ∧ g < 2 * h ∧ m ≤ 6 ∧ P (.ints (castL (rowsN (2 * h) p g m)))
theorem w_rows {h p g m : Nat} (h6 : h ≤ 6) (hp : p < 2 * h) (hg : g < 2 * h) (hm : m ≤ 6) {P : V → Prop} (hP : P (.ints (castL (rowsN (2 * h) p g m)))) :
    W_rows ([goesV (2 * h), .int (p : Int), .int (g : Int), .int (m : Int)] ++ List.replicate 2 .unb) (retP P) := by
  unfold W_rows
  (try dsimp only [xNil, xCons, xLift, xNext, xWhile, xFor, sTry, sIter, sRetOwn, q_xnxt, q_xret, appRead, wSubK, wIf, sSetSub, sCallM, setSubW, Int.toNat_natCast, bCons, bNil, sIte, sRet, sRetNone, sAssign, sAssignM, sAug, sUnpack, sSwap, sAppend, sReverse, sAugSub, sNever, sFrz, sWiden, sFor, sWhile, cCmp, cPlain, wName, wInt, wBool, wNone, wBin, wCmp, wUn, wNil, wCons, wCall, wBitLen, wTup, wLst, wSub, wSubM, wLenM, wCut, pNone, pSome, iSeq, iRange, iRev, frz, appW, augSubW, List.replicate_succ, List.replicate_zero, List.cons_append, List.nil_append, List.set_cons_succ, List.set_cons_zero, List.length_cons, List.length_nil, q_rv2, q_rv3, List.reverse_nil, q_add, q_sub, q_mul, q_fdiv, q_mod, q_shl, q_shr, q_and, q_or, q_xor, q_pow, q_cat, q_catv, q_rep, q_repv, q_eq, q_ne, q_lt, q_le, q_eql, q_nel, q_neg, q_inv, q_tri, q_unpt, q_unpi, q_set, q_set0, q_nxt, q_ret, q_rret, q_rnxt, q_getn, q_get0, q_pi, q_pl, q_pv, q_pt, q_pb, q_pn, q_itl, q_divmod, q_wn, q_wr, q_ln, q_lr, q_aadd, q_asub, q_ashl, q_ashr, q_aor, q_len, q_lenv, q_thaw, q_frz, q_frzv, q_subi, q_subv, q_subt, q_cuti, q_cutv, q_part, q_itv, q_itt, q_rev, q_rng1, q_rng3, q_lst0, wComp, wOne, wNst, wTst, sSwapM, augSubW, q_cutp, q_lst1, q_lst2, iZip, wLRange, wIndex, sAppNone, isM, itemsM, q_zip, q_lrange, q_sorted, q_lstl, q_lstb, q_index, q_isn, q_isi, q_eqt, q_net, q_nev, q_frzv, List.map]); (try simp only [V.isNone, true_and, and_true, Int.natCast_nonneg, decide_eq_true_eq, decide_eq_false_iff_not, List.append_nil, List.length_cons, List.length_nil, q_getn, q_get0, q_pi, q_pl, q_pv, q_pt, q_pb, q_pn, List.forall_mem_cons, List.map_cons, List.map_nil, forall_const, List.mem_nil_iff, false_implies, implies_true, List.not_mem_nil])
  refine ⟨by decide, ?_⟩
  unfold W_rows_0_1
  (try dsimp only [xNil, xCons, xLift, xNext, xWhile, xFor, sTry, sIter, sRetOwn, q_xnxt, q_xret, appRead, wSubK, wIf, sSetSub, sCallM, setSubW, Int.toNat_natCast, bCons, bNil, sIte, sRet, sRetNone, sAssign, sAssignM, sAug, sUnpack, sSwap, sAppend, sReverse, sAugSub, sNever, sFrz, sWiden, sFor, sWhile, cCmp, cPlain, wName, wInt, wBool, wNone, wBin, wCmp, wUn, wNil, wCons, wCall, wBitLen, wTup, wLst, wSub, wSubM, wLenM, wCut, pNone, pSome, iSeq, iRange, iRev, frz, appW, augSubW, List.replicate_succ, List.replicate_zero, List.cons_append, List.nil_append, List.set_cons_succ, List.set_cons_zero, List.length_cons, List.length_nil, q_rv2, q_rv3, List.reverse_nil, q_add, q_sub, q_mul, q_fdiv, q_mod, q_shl, q_shr, q_and, q_or, q_xor, q_pow, q_cat, q_catv, q_rep, q_repv, q_eq, q_ne, q_lt, q_le, q_eql, q_nel, q_neg, q_inv, q_tri, q_unpt, q_unpi, q_set, q_set0, q_nxt, q_ret, q_rret, q_rnxt, q_getn, q_get0, q_pi, q_pl, q_pv, q_pt, q_pb, q_pn, q_itl, q_divmod, q_wn, q_wr, q_ln, q_lr, q_aadd, q_asub, q_ashl, q_ashr, q_aor, q_len, q_lenv, q_thaw, q_frz, q_frzv, q_subi, q_subv, q_subt, q_cuti, q_cutv, q_part, q_itv, q_itt, q_rev, q_rng1, q_rng3, q_lst0, wComp, wOne, wNst, wTst, sSwapM, augSubW, q_cutp, q_lst1, q_lst2, iZip, wLRange, wIndex, sAppNone, isM, itemsM, q_zip, q_lrange, q_sorted, q_lstl, q_lstb, q_index, q_isn, q_isi, q_eqt, q_net, q_nev, q_frzv, List.map]); (try simp only [V.isNone, true_and, and_true, Int.natCast_nonneg, decide_eq_true_eq, decide_eq_false_iff_not, List.append_nil, List.length_cons, List.length_nil, q_getn, q_get0, q_pi, q_pl, q_pv, q_pt, q_pb, q_pn, List.forall_mem_cons, List.map_cons, List.map_nil, forall_const, List.mem_nil_iff, false_implies, implies_true, List.not_mem_nil])
  refine ⟨small_nat (by (clear h6 hp hg hP; lia)), fun j st => ∃ v : V, st = [goesV (2 * h), .int (p : Int), .int (g : Int), .int (m : Int), .ints (castL (placesN (2 * h) p j)), v], ⟨.unb, rfl⟩, ?_, ?_⟩
  · rintro j v st hv ⟨v5, rfl⟩
    obtain ⟨hj, rfl⟩ := range_get hv
    unfold W_rows_1_0
    (try dsimp only [xNil, xCons, xLift, xNext, xWhile, xFor, sTry, sIter, sRetOwn, q_xnxt, q_xret, appRead, wSubK, wIf, sSetSub, sCallM, setSubW, Int.toNat_natCast, bCons, bNil, sIte, sRet, sRetNone, sAssign, sAssignM, sAug, sUnpack, sSwap, sAppend, sReverse, sAugSub, sNever, sFrz, sWiden, sFor, sWhile, cCmp, cPlain, wName, wInt, wBool, wNone, wBin, wCmp, wUn, wNil, wCons, wCall, wBitLen, wTup, wLst, wSub, wSubM, wLenM, wCut, pNone, pSome, iSeq, iRange, iRev, frz, appW, augSubW, List.replicate_succ, List.replicate_zero, List.cons_append, List.nil_append, List.set_cons_succ, List.set_cons_zero, List.length_cons, List.length_nil, q_rv2, q_rv3, List.reverse_nil, q_add, q_sub, q_mul, q_fdiv, q_mod, q_shl, q_shr, q_and, q_or, q_xor, q_pow, q_cat, q_catv, q_rep, q_repv, q_eq, q_ne, q_lt, q_le, q_eql, q_nel, q_neg, q_inv, q_tri, q_unpt, q_unpi, q_set, q_set0, q_nxt, q_ret, q_rret, q_rnxt, q_getn, q_get0, q_pi, q_pl, q_pv, q_pt, q_pb, q_pn, q_itl, q_divmod, q_wn, q_wr, q_ln, q_lr, q_aadd, q_asub, q_ashl, q_ashr, q_aor, q_len, q_lenv, q_thaw, q_frz, q_frzv, q_subi, q_subv, q_subt, q_cuti, q_cutv, q_part, q_itv, q_itt, q_rev, q_rng1, q_rng3, q_lst0, wComp, wOne, wNst, wTst, sSwapM, augSubW, q_cutp, q_lst1, q_lst2, iZip, wLRange, wIndex, sAppNone, isM, itemsM, q_zip, q_lrange, q_sorted, q_lstl, q_lstb, q_index, q_isn, q_isi, q_eqt, q_net, q_nev, q_frzv, List.map]); (try simp only [V.isNone, true_and, and_true, Int.natCast_nonneg, decide_eq_true_eq, decide_eq_false_iff_not, List.append_nil, List.length_cons, List.length_nil, q_getn, q_get0, q_pi, q_pl, q_pv, q_pt, q_pb, q_pn, List.forall_mem_cons, List.map_cons, List.map_nil, forall_const, List.mem_nil_iff, false_implies, implies_true, List.not_mem_nil])
    have e : (castL (placesN (2 * h) p j)).flatMap (fun c => [V.int ((goN (2 * h) 0 c.toNat : Nat) : Int), V.int ((goN (2 * h) 1 c.toNat : Nat) : Int)]) = (castL (placesN (2 * h) p (j + 1))).map V.int := by
      rw [places_step]; unfold castL
      rw [List.flatMap_map, List.map_flatMap, List.map_flatMap]
      congr 1
    have el : ((castL (placesN (2 * h) p j)).flatMap (fun c => [V.int ((goN (2 * h) 0 c.toNat : Nat) : Int), V.int ((goN (2 * h) 1 c.toNat : Nat) : Int)])).length ≤ 2 ^ 6 := by
      rw [e]; simp only [castL, List.length_map, places_len]; exact Nat.pow_le_pow_right (by decide) (by (clear h6 hp hg hP hv e; lia))
    refine ⟨trivial, compL_ints (f := fun c => [V.int ((goN (2 * h) 0 c.toNat : Nat) : Int), V.int ((goN (2 * h) 1 c.toNat : Nat) : Int)]) (B := 2 ^ 6) (by (clear h6 hp hg hm hP hj hv e; lia)) (fun k i K hi hb hK => ?_) ?_⟩
    · obtain ⟨c, hc, rfl⟩ := List.mem_map.mp hi
      have hc' : c < 2 * h := by
        obtain ⟨r, _, rfl⟩ := List.mem_map.mp hc; exact fin_lt hp j r
      simp only [List.length_cons, List.length_nil] at hb
      simp only [goesV, q_itv, compL, q_subi, goL_get hc', goL_len, Int.toNat_natCast]
      simp only [Int.toNat_natCast] at hK
      exact ⟨trivial, trivial, trivial, by (clear h6 hp hg hm hP hj hv e el hc hi hb hK hc'; lia), hc', by (clear hp hg hm hP hj hv e el hc hi hb hK; lia), by (clear h6 hp hg hm hP hj hv e el hc hi hK hc'; lia), trivial, trivial, by omega, hc', by omega, by simp; (clear h6 hp hg hm hP hj hv e el hc hi hK hc'; lia), hK⟩
    · rw [e, listV_ints]; exact ⟨_, rfl⟩
  · rintro st ⟨v5, rfl⟩
    rw [List.length_map, rangeL_len]
    unfold W_rows_0_2
    (try dsimp only [xNil, xCons, xLift, xNext, xWhile, xFor, sTry, sIter, sRetOwn, q_xnxt, q_xret, appRead, wSubK, wIf, sSetSub, sCallM, setSubW, Int.toNat_natCast, bCons, bNil, sIte, sRet, sRetNone, sAssign, sAssignM, sAug, sUnpack, sSwap, sAppend, sReverse, sAugSub, sNever, sFrz, sWiden, sFor, sWhile, cCmp, cPlain, wName, wInt, wBool, wNone, wBin, wCmp, wUn, wNil, wCons, wCall, wBitLen, wTup, wLst, wSub, wSubM, wLenM, wCut, pNone, pSome, iSeq, iRange, iRev, frz, appW, augSubW, List.replicate_succ, List.replicate_zero, List.cons_append, List.nil_append, List.set_cons_succ, List.set_cons_zero, List.length_cons, List.length_nil, q_rv2, q_rv3, List.reverse_nil, q_add, q_sub, q_mul, q_fdiv, q_mod, q_shl, q_shr, q_and, q_or, q_xor, q_pow, q_cat, q_catv, q_rep, q_repv, q_eq, q_ne, q_lt, q_le, q_eql, q_nel, q_neg, q_inv, q_tri, q_unpt, q_unpi, q_set, q_set0, q_nxt, q_ret, q_rret, q_rnxt, q_getn, q_get0, q_pi, q_pl, q_pv, q_pt, q_pb, q_pn, q_itl, q_divmod, q_wn, q_wr, q_ln, q_lr, q_aadd, q_asub, q_ashl, q_ashr, q_aor, q_len, q_lenv, q_thaw, q_frz, q_frzv, q_subi, q_subv, q_subt, q_cuti, q_cutv, q_part, q_itv, q_itt, q_rev, q_rng1, q_rng3, q_lst0, wComp, wOne, wNst, wTst, sSwapM, augSubW, q_cutp, q_lst1, q_lst2, iZip, wLRange, wIndex, sAppNone, isM, itemsM, q_zip, q_lrange, q_sorted, q_lstl, q_lstb, q_index, q_isn, q_isi, q_eqt, q_net, q_nev, q_frzv, List.map]); (try simp only [V.isNone, true_and, and_true, Int.natCast_nonneg, decide_eq_true_eq, decide_eq_false_iff_not, List.append_nil, List.length_cons, List.length_nil, q_getn, q_get0, q_pi, q_pl, q_pv, q_pt, q_pb, q_pn, List.forall_mem_cons, List.map_cons, List.map_nil, forall_const, List.mem_nil_iff, false_implies, implies_true, List.not_mem_nil])
    rw [← cast_pow2 m]
    have hp2 : 2 ^ m ≤ 2 ^ 6 := Nat.pow_le_pow_right (by decide) hm
    have e : (rangeL 0 ((2 ^ m : Nat) : Int) 1).flatMap (fun c => if finN (2 * h) p m c.toNat = g then [V.int c] else []) = (castL (rowsN (2 * h) p g m)).map V.int := by
      rw [rangeL_nat, List.flatMap_map]; unfold rowsN castL
      simp only [Int.toNat_natCast]
      generalize List.range (2 ^ m) = l
      induction l with
      | nil => rfl
      | cons a l ih =>
        rw [List.flatMap_cons, ih, List.filter_cons]
        split <;> simp_all
    have el : (castL (rowsN (2 * h) p g m)).length ≤ 2 ^ 6 := by
      simp only [castL, List.length_map, rowsN]
      exact Nat.le_trans (List.length_filter_le ..) (by rw [List.length_range]; exact hp2)
    refine ⟨?_, small_nat (by (clear h6 hp hg hm hP e el; lia)), compL_ints (f := fun c => if finN (2 * h) p m c.toNat = g then [V.int c] else []) (B := 2 ^ 6) (by rw [e, List.length_map]; (clear h6 hp hg hm hP hp2 e; lia)) (fun k i K hi hb hK => ?_) ?_⟩
    · rw [show Builtin.Int.intBits 2 = 2 by decide]; (clear h6 hp hg hP hp2 e el; lia)
    · rw [rangeL_nat] at hi
      obtain ⟨r, hr, rfl⟩ := List.mem_map.mp hi
      have hr := List.mem_range.mp hr
      have eg : (castL (placesN (2 * h) p m)).getD r 0 = ((finN (2 * h) p m r : Nat) : Int) := by
        unfold castL placesN; rw [List.getD_eq_getElem?_getD]; simp [hr]
      simp only [q_subi, Int.toNat_natCast, eg, q_eq]
      simp only [Int.toNat_natCast] at hK hb
      refine ⟨trivial, by (clear h6 hp hg hm hP hp2 e el hi hb hK hr eg; lia), by simp [castL, places_len, hr], by (clear h6 hp hg hm hP e el hi hb hK eg; lia), fun hd => ?_, fun hd => ?_⟩
      · have : finN (2 * h) p m r = g := by have := of_decide_eq_true hd; (clear h6 hp hg hm hP hp2 e el hi hb hK hr eg hd; lia)
        rw [if_pos this] at hK hb
        simp only [List.length_cons, List.length_nil] at hb
        exact ⟨trivial, by (clear h6 hp hg hm hP hp2 e el hi hK hr eg hd this; lia), hK⟩
      · have : ¬ finN (2 * h) p m r = g := by have := of_decide_eq_false hd; (clear h6 hp hg hm hP hp2 e el hi hb hK hr eg hd; lia)
        rw [if_neg this] at hK
        exact hK
    · rw [e, listV_ints]; exact hP
theorem pc_rows (C : Cx) (hK : C.K = KK C.w.params) : PC C 1 (.ref 73) T_rows := by
  refine PC.mono (PC.fn (n := 0) (W := W_rows) (fnok_rows C hK) fun A L h₀ ok => ex_rows C hK A L h₀ ok) ?_
  rintro vs P ⟨h, p, g, m, rfl, h1, h2, h3, h4, hP⟩
  exact ⟨rfl, w_rows h1 h2 h3 h4 hP⟩
end Mine
end
section
open PySem PySem.Calls PyProof.Rows PySem.W PySem.Spec PySem.SeqAt
set_option Elab.async false
set_option maxRecDepth 100000
set_option linter.unusedVariables false
set_option linter.unusedSimpArgs false
namespace Mine
theorem preD_sm {a b : Int} {k : Nat} (ha : 0 ≤ a) (h1 : a < 2 ^ k) (hk : k ≤ 200) (hb : 0 < b) (h2 : b < 2 ^ 6) : preD a b := by
  have e1 := bits_lt ha h1
  have e2 := bits_lt (Int.le_of_lt hb) h2
  refine ⟨ha, hb, by (clear ha h1 hb h2 e2; lia), by (clear ha h1 hk hb h2 e1; lia), Nat.le_trans (Nat.div_le_self _ _) (by (clear ha h1 hb h2; lia))⟩
noncomputable def T_told (vs : List V) (P : V → Prop) : Prop := ∃ h p g m : Nat, vs = [.int ((2 * h : Nat) : Int), .int (p : Int), .int (g : Int), .int (m : Int)] ∧ 1 ≤ h ∧ h ≤ 6 ∧ p < 2 * h ∧ g < 2 * h ∧ m ≤ 6 ∧
  ∀ f q cnt : Nat, p * 2 ^ m + f = 2 * h * q + g → f < 2 * h → (∀ k, k < cnt ↔ f + 2 * h * k < 2 ^ m) → P (.ints (castL (toldN (2 * h) f q cnt)))
theorem w_told {h p g m : Nat} (h1 : 1 ≤ h) (h6 : h ≤ 6) (hp : p < 2 * h) (hg : g < 2 * h) (hm : m ≤ 6) {P : V → Prop}
    (hP : ∀ f q cnt : Nat, p * 2 ^ m + f = 2 * h * q + g → f < 2 * h → (∀ k, k < cnt ↔ f + 2 * h * k < 2 ^ m) → P (.ints (castL (toldN (2 * h) f q cnt)))) :
    W_told T_idm ([.int ((2 * h : Nat) : Int), .int (p : Int), .int (g : Int), .int (m : Int)] ++ List.replicate 2 .unb) (retP P) := by
  unfold W_told
  (try dsimp only [xNil, xCons, xLift, xNext, xWhile, xFor, sTry, sIter, sRetOwn, q_xnxt, q_xret, appRead, wSubK, wIf, sSetSub, sCallM, setSubW, Int.toNat_natCast, bCons, bNil, sIte, sRet, sRetNone, sAssign, sAssignM, sAug, sUnpack, sSwap, sAppend, sReverse, sAugSub, sNever, sFrz, sWiden, sFor, sWhile, cCmp, cPlain, wName, wInt, wBool, wNone, wBin, wCmp, wUn, wNil, wCons, wCall, wBitLen, wTup, wLst, wSub, wSubM, wLenM, wCut, pNone, pSome, iSeq, iRange, iRev, frz, appW, augSubW, List.replicate_succ, List.replicate_zero, List.cons_append, List.nil_append, List.set_cons_succ, List.set_cons_zero, List.length_cons, List.length_nil, q_rv2, q_rv3, List.reverse_nil, q_add, q_sub, q_mul, q_fdiv, q_mod, q_shl, q_shr, q_and, q_or, q_xor, q_pow, q_cat, q_catv, q_rep, q_repv, q_eq, q_ne, q_lt, q_le, q_eql, q_nel, q_neg, q_inv, q_tri, q_unpt, q_unpi, q_set, q_set0, q_nxt, q_ret, q_rret, q_rnxt, q_getn, q_get0, q_pi, q_pl, q_pv, q_pt, q_pb, q_pn, q_itl, q_divmod, q_wn, q_wr, q_ln, q_lr, q_aadd, q_asub, q_ashl, q_ashr, q_aor, q_len, q_lenv, q_thaw, q_frz, q_frzv, q_subi, q_subv, q_subt, q_cuti, q_cutv, q_part, q_itv, q_itt, q_rev, q_rng1, q_rng3, q_lst0, wComp, wOne, wNst, wTst, sSwapM, augSubW, q_cutp, q_lst1, q_lst2, iZip, wLRange, wIndex, sAppNone, isM, itemsM, q_zip, q_lrange, q_sorted, q_lstl, q_lstb, q_index, q_isn, q_isi, q_eqt, q_net, q_nev, q_frzv, List.map]); (try simp only [V.isNone, true_and, and_true, Int.natCast_nonneg, decide_eq_true_eq, decide_eq_false_iff_not, List.append_nil, List.length_cons, List.length_nil, q_getn, q_get0, q_pi, q_pl, q_pv, q_pt, q_pb, q_pn, List.forall_mem_cons, List.map_cons, List.map_nil, forall_const, List.mem_nil_iff, false_implies, implies_true, List.not_mem_nil])
  have hp2 : 2 ^ m ≤ 2 ^ 6 := Nat.pow_le_pow_right (by decide) hm
  have hp1 : 0 < 2 ^ m := Nat.pow_pos (by decide)
  rw [← cast_pow2 m]
  have hpm : p * 2 ^ m ≤ 12 * 2 ^ 6 := Nat.mul_le_mul (by (clear hg hm hP hp2 hp1; lia)) hp2
  have ea : ((p : Int) * ((2 ^ m : Nat) : Int) - (g : Int)) = ((p * 2 ^ m : Nat) : Int) - (g : Int) := by simp
  rw [ea]
  have d1 := Int.emod_nonneg (-(((p * 2 ^ m : Nat) : Int) - (g : Int))) (b := ((2 * h : Nat) : Int)) (by (clear hp hg hm hP hp2 hp1 hpm ea; lia))
  have d2 := Int.emod_lt_of_pos (-(((p * 2 ^ m : Nat) : Int) - (g : Int))) (b := ((2 * h : Nat) : Int)) (by (clear hp hg hm hP hp2 hp1 hpm ea d1; lia))
  have d3 := Int.mul_ediv_add_emod (-(((p * 2 ^ m : Nat) : Int) - (g : Int))) ((2 * h : Nat) : Int)
  refine ⟨by have : Builtin.Int.intBits (p : Int) ≤ 6 := bits_lt (by (clear h1 h6 hp hg hm hP hp2 hp1 hpm ea d1 d2 d3; lia)) (by (clear hg hm hP hp2 hp1 hpm ea d1 d2 d3; lia)); (clear h1 h6 hp hg hP hp2 hp1 hpm ea d1 d2 d3; lia), _, _, rfl, .inr ⟨by (clear hp hg hm hP hp2 hp1 hpm ea d1 d2 d3; lia), fun _ => preD_sm (k := 20) (by omega) (by (clear hp hm hP hp2 hp1 ea d1 d2; lia)) (by decide) (by (clear hp hg hm hP hp2 hp1 hpm ea d1 d2 d3; lia)) (by (clear hp hg hm hP hp2 hp1 hpm ea d1 d2 d3; lia)), fun _ => preD_sm (k := 20) (by (clear h1 h6 hp hg hm hP hp2 hp1 hpm ea d1 d2; lia)) (by (clear h1 h6 hp hg hm hP hp2 hp1 ea d1 d2; lia)) (by decide) (by omega) (by omega), ?_⟩⟩
  rw [Int.neg_neg]
  generalize (-(((p * 2 ^ m : Nat) : Int) - (g : Int))) / ((2 * h : Nat) : Int) = Q at *
  generalize (-(((p * 2 ^ m : Nat) : Int) - (g : Int))) % ((2 * h : Nat) : Int) = f at *
  obtain ⟨f, rfl⟩ := Int.eq_ofNat_of_zero_le d1
  have hQ : 0 ≤ -Q := by
    refine Int.not_lt.mp fun hlt => ?_
    have : ((2 * h : Nat) : Int) * 1 ≤ ((2 * h : Nat) : Int) * Q := Int.mul_le_mul_of_nonneg_left (by (clear h1 h6 hp hg hm hP hp2 hp1 hpm ea d1 d2 d3; lia)) (by (clear hp hg hm hP hp2 hp1 hpm ea d1 d2 d3 hlt; lia))
    (clear h1 h6 hp hm hP hp2 hp1 ea d2 hlt; lia)
  obtain ⟨q, hq⟩ := Int.eq_ofNat_of_zero_le hQ
  obtain rfl : Q = -(q : Int) := by (clear h1 h6 hp hg hm hP hp2 hp1 hpm ea d1 d2 d3 hQ; lia)
  rw [Int.mul_neg] at d3
  have e : p * 2 ^ m + f = 2 * h * q + g := by
    have : ((p * 2 ^ m + f : Nat) : Int) = ((2 * h * q + g : Nat) : Int) := by
      rw [Int.natCast_add, Int.natCast_add, Int.natCast_mul (2 * h) q]; (clear h1 h6 hp hg hm hP hp2 hp1 hpm ea d1 d2 hQ hq; lia)
    exact Int.ofNat_inj.mp this
  (try dsimp only [xNil, xCons, xLift, xNext, xWhile, xFor, sTry, sIter, sRetOwn, q_xnxt, q_xret, appRead, wSubK, wIf, sSetSub, sCallM, setSubW, Int.toNat_natCast, bCons, bNil, sIte, sRet, sRetNone, sAssign, sAssignM, sAug, sUnpack, sSwap, sAppend, sReverse, sAugSub, sNever, sFrz, sWiden, sFor, sWhile, cCmp, cPlain, wName, wInt, wBool, wNone, wBin, wCmp, wUn, wNil, wCons, wCall, wBitLen, wTup, wLst, wSub, wSubM, wLenM, wCut, pNone, pSome, iSeq, iRange, iRev, frz, appW, augSubW, List.replicate_succ, List.replicate_zero, List.cons_append, List.nil_append, List.set_cons_succ, List.set_cons_zero, List.length_cons, List.length_nil, q_rv2, q_rv3, List.reverse_nil, q_add, q_sub, q_mul, q_fdiv, q_mod, q_shl, q_shr, q_and, q_or, q_xor, q_pow, q_cat, q_catv, q_rep, q_repv, q_eq, q_ne, q_lt, q_le, q_eql, q_nel, q_neg, q_inv, q_tri, q_unpt, q_unpi, q_set, q_set0, q_nxt, q_ret, q_rret, q_rnxt, q_getn, q_get0, q_pi, q_pl, q_pv, q_pt, q_pb, q_pn, q_itl, q_divmod, q_wn, q_wr, q_ln, q_lr, q_aadd, q_asub, q_ashl, q_ashr, q_aor, q_len, q_lenv, q_thaw, q_frz, q_frzv, q_subi, q_subv, q_subt, q_cuti, q_cutv, q_part, q_itv, q_itt, q_rev, q_rng1, q_rng3, q_lst0, wComp, wOne, wNst, wTst, sSwapM, augSubW, q_cutp, q_lst1, q_lst2, iZip, wLRange, wIndex, sAppNone, isM, itemsM, q_zip, q_lrange, q_sorted, q_lstl, q_lstb, q_index, q_isn, q_isi, q_eqt, q_net, q_nev, q_frzv, List.map]); (try simp only [V.isNone, true_and, and_true, Int.natCast_nonneg, decide_eq_true_eq, decide_eq_false_iff_not, List.append_nil, List.length_cons, List.length_nil, q_getn, q_get0, q_pi, q_pl, q_pv, q_pt, q_pb, q_pn, List.forall_mem_cons, List.map_cons, List.map_nil, forall_const, List.mem_nil_iff, false_implies, implies_true, List.not_mem_nil])
  unfold W_told_0_1
  (try dsimp only [xNil, xCons, xLift, xNext, xWhile, xFor, sTry, sIter, sRetOwn, q_xnxt, q_xret, appRead, wSubK, wIf, sSetSub, sCallM, setSubW, Int.toNat_natCast, bCons, bNil, sIte, sRet, sRetNone, sAssign, sAssignM, sAug, sUnpack, sSwap, sAppend, sReverse, sAugSub, sNever, sFrz, sWiden, sFor, sWhile, cCmp, cPlain, wName, wInt, wBool, wNone, wBin, wCmp, wUn, wNil, wCons, wCall, wBitLen, wTup, wLst, wSub, wSubM, wLenM, wCut, pNone, pSome, iSeq, iRange, iRev, frz, appW, augSubW, List.replicate_succ, List.replicate_zero, List.cons_append, List.nil_append, List.set_cons_succ, List.set_cons_zero, List.length_cons, List.length_nil, q_rv2, q_rv3, List.reverse_nil, q_add, q_sub, q_mul, q_fdiv, q_mod, q_shl, q_shr, q_and, q_or, q_xor, q_pow, q_cat, q_catv, q_rep, q_repv, q_eq, q_ne, q_lt, q_le, q_eql, q_nel, q_neg, q_inv, q_tri, q_unpt, q_unpi, q_set, q_set0, q_nxt, q_ret, q_rret, q_rnxt, q_getn, q_get0, q_pi, q_pl, q_pv, q_pt, q_pb, q_pn, q_itl, q_divmod, q_wn, q_wr, q_ln, q_lr, q_aadd, q_asub, q_ashl, q_ashr, q_aor, q_len, q_lenv, q_thaw, q_frz, q_frzv, q_subi, q_subv, q_subt, q_cuti, q_cutv, q_part, q_itv, q_itt, q_rev, q_rng1, q_rng3, q_lst0, wComp, wOne, wNst, wTst, sSwapM, augSubW, q_cutp, q_lst1, q_lst2, iZip, wLRange, wIndex, sAppNone, isM, itemsM, q_zip, q_lrange, q_sorted, q_lstl, q_lstb, q_index, q_isn, q_isi, q_eqt, q_net, q_nev, q_frzv, List.map]); (try simp only [V.isNone, true_and, and_true, Int.natCast_nonneg, decide_eq_true_eq, decide_eq_false_iff_not, List.append_nil, List.length_cons, List.length_nil, q_getn, q_get0, q_pi, q_pl, q_pv, q_pt, q_pb, q_pn, List.forall_mem_cons, List.map_cons, List.map_nil, forall_const, List.mem_nil_iff, false_implies, implies_true, List.not_mem_nil])
  rw [← cast_pow2 m, fdiv_ediv (by (clear hp hg hm hP hp2 hp1 hpm ea d1 d2 d3 hQ hq e; lia))]
  have hc : ∃ c : Nat, (((2 ^ m : Nat) : Int) - 1 + -(f : Int)) / ((2 * h : Nat) : Int) + 1 = (c : Int) ∧ ∀ k : Nat, k < c ↔ f + 2 * h * k < 2 ^ m := by
    have low : -1 ≤ (((2 ^ m : Nat) : Int) - 1 + -(f : Int)) / ((2 * h : Nat) : Int) := (Int.le_ediv_iff_mul_le (by (clear hp hg hm hP hp2 hp1 hpm ea d1 d2 d3 hQ hq e; lia))).mpr (by (clear h1 h6 hp hg hm hP hpm ea d1 d3 hQ hq e; lia))
    obtain ⟨c, hc⟩ := Int.eq_ofNat_of_zero_le (show 0 ≤ (((2 ^ m : Nat) : Int) - 1 + -(f : Int)) / ((2 * h : Nat) : Int) + 1 by (clear h1 h6 hp hg hm hP hp2 hp1 hpm ea d1 d2 d3 hQ hq e; omega))
    refine ⟨c, hc, fun k => ?_⟩
    have := Int.le_ediv_iff_mul_le (a := (k : Int)) (b := ((2 ^ m : Nat) : Int) - 1 + -(f : Int)) (c := ((2 * h : Nat) : Int)) (by (clear hp hg hm hP hp2 hp1 hpm ea d1 d2 d3 hQ hq e low hc; lia))
    have em : (k : Int) * ((2 * h : Nat) : Int) = ((2 * h * k : Nat) : Int) := by rw [Int.natCast_mul (2 * h) k, Int.mul_comm]
    rw [em] at this
    generalize 2 * h * k = z at *
    (clear h1 h6 hp hg hm hP hp2 hp1 hpm ea d1 d2 d3 hQ hq e low em; omega)
  obtain ⟨c, hc, hk⟩ := hc
  have cb : c ≤ 2 ^ m := by
    refine Nat.le_of_not_lt fun hlt => ?_
    have := (hk (2 ^ m)).mp hlt
    have h2 : 1 * 2 ^ m ≤ 2 * h * 2 ^ m := Nat.mul_le_mul_right _ (by (clear hp hg hm hP hp2 hp1 hpm ea d1 d2 d3 hQ hq e hc hk hlt this; lia))
    (clear hp hg hm hP hp2 hp1 hpm ea d3 hQ hq e hc hk hlt; lia)
  rw [hc]
  refine ⟨by rw [show Builtin.Int.intBits 2 = 2 by decide]; (clear h1 h6 hp hg hP hp2 hp1 hpm ea d1 d2 d3 hQ hq e hc hk cb; lia), by (clear hp hg hm hP hp2 hp1 hpm ea d1 d2 d3 hQ hq e hc hk cb; lia), ?_, small_nat (by (clear h1 h6 hp hg hm hP hpm ea d1 d2 d3 hQ hq e hc hk; lia)), compL_int1 (g := fun i => V.int (((f + 2 * h * i.toNat) ^^^ (q + i.toNat) : Nat) : Int)) (B := 2 ^ 20) (by rw [rangeL_len]; (clear h1 h6 hp hg hm hP hpm ea d1 d2 d3 hQ hq e hc hk; lia)) (fun k i K hi hb hK => ?_) ?_⟩
  · by_cases h0 : 0 ≤ ((2 ^ m : Nat) : Int) - 1 + -(f : Int)
    · exact noPy h0 (by (clear h1 h6 hp hg hm hP hpm ea d2 d3 hQ hq e hc hk cb h0; lia))
    · have : Builtin.Int.intBits (((2 ^ m : Nat) : Int) - 1 + -(f : Int)) ≤ 20 := by rw [intBits_le_iff]; (clear hp hg hm hP hpm ea d1 d3 hQ hq e hc hk cb; omega)
      exact noPylong_diff (by (clear h1 h6 hp hg hm hP hp2 hp1 hpm ea d1 d2 d3 hQ hq e hc hk cb h0; omega))
  · rw [rangeL_nat] at hi
    obtain ⟨j, hj, rfl⟩ := List.mem_map.mp hi
    have hj := List.mem_range.mp hj
    simp only [q_mul, q_sub, q_xor]
    have e1 : ((2 * h : Nat) : Int) * (j : Int) - -(f : Int) = ((f + 2 * h * j : Nat) : Int) := by rw [Int.natCast_add, Int.natCast_mul (2 * h) j]; (clear h1 h6 hp hg hm hP hp2 hp1 hpm ea d1 d2 d3 hQ hq e hc hk cb hb hi hK hj; lia)
    have e2 : (j : Int) - -(q : Int) = ((q + j : Nat) : Int) := by (clear h1 h6 hp hg hm hP hp2 hp1 hpm ea d1 d2 d3 hQ hq e hc hk cb hb hi hK hj e1; lia)
    rw [e1, e2, bxor_nat]
    exact ⟨trivial, IntMulOk.of_left (Nat.le_trans (bits_lt (m := 6) (by (clear hp hg hm hP hp2 hp1 hpm ea d1 d2 d3 hQ hq e hc hk cb hb hi hK hj e1 e2; lia)) (by (clear hp hg hm hP hp2 hp1 hpm ea d1 d2 d3 hQ hq e hc hk cb hb hi hK hj e1 e2; lia))) (by decide)), trivial, by (clear h1 h6 hp hg hm hP hp2 hp1 hpm ea d1 d2 d3 hQ hq e hc hk cb hi hK hj e1 e2; lia), hK⟩
  · rw [listV_map, rangeL_nat, List.map_map]
    have := hP f q c e (by (clear h1 h6 hp hg hm hP hp2 hp1 hpm ea d1 d3 hQ hq e hc hk cb; lia)) hk
    unfold toldN castL at this
    rw [List.map_map] at this
    exact this
theorem pc_told (C : Cx) (hK : C.K = KK C.w.params) {tabs : List Tab} (hC : TC C tabs) (ht1 : tab1 ∈ tabs) (ht2 : tab2 ∈ tabs) : PC C 23 (.ref 78) T_told := by
  refine PC.mono (PC.fn (n := 22) (W := W_told T_idm) (fnok_told C hK) fun A L h₀ ok => ex_told C hK (pc_idm C hK hC ht1 ht2) (by decide) A L h₀ ok) ?_
  rintro vs P ⟨h, p, g, m, rfl, h1, h2, h3, h4, h5, hP⟩
  exact ⟨rfl, w_told h1 h2 h3 h4 h5 hP⟩
end Mine
end
section
open PySem PySem.Calls PyProof.Rows PySem.W PySem.Spec PySem.SeqAt
set_option Elab.async false
set_option maxRecDepth 100000
set_option linter.unusedVariables false
set_option linter.unusedSimpArgs false
namespace Mine
noncomputable def valF (r : Nat) (l : List Nat) : Nat := l.foldl (fun a b => 2 * a + b) r
noncomputable def stepW (n : Nat) (w : List Nat × Nat) (b : Nat) : List Nat × Nat := (w.1 ++ [2 * w.2 / n], goN n b w.2)
noncomputable def walkL (n p : Nat) (l : List Nat) : List Nat × Nat := l.foldl (stepW n) ([], p)
theorem valF_snoc (r : Nat) (l : List Nat) (b : Nat) : valF r (l ++ [b]) = 2 * valF r l + b := by unfold valF; rw [List.foldl_append]; rfl
theorem walk_gen {h p0 : Nat} : ∀ (l : List Nat) (k r : Nat) (hs : List Nat) (p : Nat), (∀ b ∈ l, b < 2) → p < 2 * h → (∀ b ∈ hs, b < 2) → p0 * 2 ^ k + (r ^^^ valF 0 hs) = 2 * h * valF 0 hs + p →
    p0 * 2 ^ (k + l.length) + (valF r l ^^^ valF 0 (l.foldl (stepW (2 * h)) (hs, p)).1) = 2 * h * valF 0 (l.foldl (stepW (2 * h)) (hs, p)).1 + (l.foldl (stepW (2 * h)) (hs, p)).2 ∧
    (l.foldl (stepW (2 * h)) (hs, p)).1.length = hs.length + l.length ∧ (∀ b ∈ (l.foldl (stepW (2 * h)) (hs, p)).1, b < 2) ∧ (l.foldl (stepW (2 * h)) (hs, p)).2 < 2 * h
  | [], k, r, hs, p, _, hp, hh, e => ⟨e, rfl, hh, hp⟩
  | b :: l, k, r, hs, p, hl, hp, hh, e => by
    obtain ⟨s1, s2, s3⟩ := go_step (h := h) (b := b) (c := p) (hl b List.mem_cons_self) hp
    have hb := hl b List.mem_cons_self
    have ih := walk_gen (h := h) (p0 := p0) l (k + 1) (2 * r + b) (hs ++ [2 * p / (2 * h)]) (goN (2 * h) b p) (fun c hc => hl c (List.mem_cons_of_mem _ hc)) s3 (fun c hc => by
      rcases List.mem_append.mp hc with hc | hc
      · exact hh c hc
      · rw [List.mem_singleton] at hc; rw [hc]; exact s1) (by
      rw [valF_snoc, xor_two, Nat.pow_succ, ← Nat.mul_assoc]
      generalize 2 * p / (2 * h) = u at *
      rw [show (2 * r + b) / 2 = r by (clear hl hp hh e s3 s1 s2; lia), show (2 * r + b) % 2 = b by (clear hl hp hh e s3 s1 s2; lia), show (2 * valF 0 hs + u) / 2 = valF 0 hs by (clear hl hp hh e s3 hb s2; lia), show (2 * valF 0 hs + u) % 2 = u by (clear hl hp hh e s3 hb s2; lia), Nat.mul_add, Nat.mul_left_comm (2 * h) 2]
      (clear hl hp hh s3 hb s1; lia))
    rw [show k + (b :: l).length = k + 1 + l.length by simp; (clear hl hp hh e s1 s2 s3 hb ih; lia)]
    exact ⟨ih.1, Eq.trans ih.2.1 (by simp only [List.length_append, List.length_cons, List.length_nil]; (clear hl hp hh e s1 s2 s3 hb ih; lia)), ih.2.2⟩
theorem walk_val {h p : Nat} (hp : p < 2 * h) {l : List Nat} (hl : ∀ b ∈ l, b < 2) : p * 2 ^ l.length + (valF 0 l ^^^ valF 0 (walkL (2 * h) p l).1) = 2 * h * valF 0 (walkL (2 * h) p l).1 + (walkL (2 * h) p l).2 ∧
    (walkL (2 * h) p l).1.length = l.length ∧ (∀ b ∈ (walkL (2 * h) p l).1, b < 2) ∧ (walkL (2 * h) p l).2 < 2 * h := by
  have := walk_gen (h := h) (p0 := p) l 0 0 [] p hl hp (fun b hb => by cases hb) (by simp [valF])
  simpa [walkL] using this
theorem walk_snoc (n p : Nat) (l : List Nat) (b : Nat) : walkL n p (l ++ [b]) = stepW n (walkL n p l) b := by unfold walkL; rw [List.foldl_append]; rfl
noncomputable def T_walk (vs : List V) (P : V → Prop) : Prop := ∃ (h p : Nat) (l : List Nat), vs = [goesV (2 * h), .ints (castL l), .int (p : Int)] ∧ h ≤ 6 ∧ p < 2 * h ∧ (∀ b ∈ l, b < 2) ∧ l.length ≤ 2 ^ 10 ∧
  P (.tup [.ints (castL (walkL (2 * h) p l).1), .int ((walkL (2 * h) p l).2 : Nat)])
theorem w_walk {h p : Nat} {l : List Nat} (h6 : h ≤ 6) (hp : p < 2 * h) (hb : ∀ b ∈ l, b < 2) (hl : l.length ≤ 2 ^ 10) {P : V → Prop} (hP : P (.tup [.ints (castL (walkL (2 * h) p l).1), .int ((walkL (2 * h) p l).2 : Nat)])) :
    W_walk ([goesV (2 * h), .ints (castL l), .int (p : Int)] ++ List.replicate 2 .unb) (retP P) := by
  unfold W_walk
  (try dsimp only [xNil, xCons, xLift, xNext, xWhile, xFor, sTry, sIter, sRetOwn, q_xnxt, q_xret, appRead, wSubK, wIf, sSetSub, sCallM, setSubW, Int.toNat_natCast, bCons, bNil, sIte, sRet, sRetNone, sAssign, sAssignM, sAug, sUnpack, sSwap, sAppend, sReverse, sAugSub, sNever, sFrz, sWiden, sFor, sWhile, cCmp, cPlain, wName, wInt, wBool, wNone, wBin, wCmp, wUn, wNil, wCons, wCall, wBitLen, wTup, wLst, wSub, wSubM, wLenM, wCut, pNone, pSome, iSeq, iRange, iRev, frz, appW, augSubW, List.replicate_succ, List.replicate_zero, List.cons_append, List.nil_append, List.set_cons_succ, List.set_cons_zero, List.length_cons, List.length_nil, q_rv2, q_rv3, List.reverse_nil, q_add, q_sub, q_mul, q_fdiv, q_mod, q_shl, q_shr, q_and, q_or, q_xor, q_pow, q_cat, q_catv, q_rep, q_repv, q_eq, q_ne, q_lt, q_le, q_eql, q_nel, q_neg, q_inv, q_tri, q_unpt, q_unpi, q_set, q_set0, q_nxt, q_ret, q_rret, q_rnxt, q_getn, q_get0, q_pi, q_pl, q_pv, q_pt, q_pb, q_pn, q_itl, q_divmod, q_wn, q_wr, q_ln, q_lr, q_aadd, q_asub, q_ashl, q_ashr, q_aor, q_len, q_lenv, q_thaw, q_frz, q_frzv, q_subi, q_subv, q_subt, q_cuti, q_cutv, q_part, q_itv, q_itt, q_rev, q_rng1, q_rng3, q_lst0, wComp, wOne, wNst, wTst, sSwapM, augSubW, q_cutp, q_lst1, q_lst2, iZip, wLRange, wIndex, sAppNone, isM, itemsM, q_zip, q_lrange, q_sorted, q_lstl, q_lstb, q_index, q_isn, q_isi, q_eqt, q_net, q_nev, q_frzv, List.map]); (try simp only [V.isNone, true_and, and_true, Int.natCast_nonneg, decide_eq_true_eq, decide_eq_false_iff_not, List.append_nil, List.length_cons, List.length_nil, q_getn, q_get0, q_pi, q_pl, q_pv, q_pt, q_pb, q_pn, List.forall_mem_cons, List.map_cons, List.map_nil, forall_const, List.mem_nil_iff, false_implies, implies_true, List.not_mem_nil])
  refine ⟨by decide, ?_⟩
  unfold W_walk_0_1
  (try dsimp only [xNil, xCons, xLift, xNext, xWhile, xFor, sTry, sIter, sRetOwn, q_xnxt, q_xret, appRead, wSubK, wIf, sSetSub, sCallM, setSubW, Int.toNat_natCast, bCons, bNil, sIte, sRet, sRetNone, sAssign, sAssignM, sAug, sUnpack, sSwap, sAppend, sReverse, sAugSub, sNever, sFrz, sWiden, sFor, sWhile, cCmp, cPlain, wName, wInt, wBool, wNone, wBin, wCmp, wUn, wNil, wCons, wCall, wBitLen, wTup, wLst, wSub, wSubM, wLenM, wCut, pNone, pSome, iSeq, iRange, iRev, frz, appW, augSubW, List.replicate_succ, List.replicate_zero, List.cons_append, List.nil_append, List.set_cons_succ, List.set_cons_zero, List.length_cons, List.length_nil, q_rv2, q_rv3, List.reverse_nil, q_add, q_sub, q_mul, q_fdiv, q_mod, q_shl, q_shr, q_and, q_or, q_xor, q_pow, q_cat, q_catv, q_rep, q_repv, q_eq, q_ne, q_lt, q_le, q_eql, q_nel, q_neg, q_inv, q_tri, q_unpt, q_unpi, q_set, q_set0, q_nxt, q_ret, q_rret, q_rnxt, q_getn, q_get0, q_pi, q_pl, q_pv, q_pt, q_pb, q_pn, q_itl, q_divmod, q_wn, q_wr, q_ln, q_lr, q_aadd, q_asub, q_ashl, q_ashr, q_aor, q_len, q_lenv, q_thaw, q_frz, q_frzv, q_subi, q_subv, q_subt, q_cuti, q_cutv, q_part, q_itv, q_itt, q_rev, q_rng1, q_rng3, q_lst0, wComp, wOne, wNst, wTst, sSwapM, augSubW, q_cutp, q_lst1, q_lst2, iZip, wLRange, wIndex, sAppNone, isM, itemsM, q_zip, q_lrange, q_sorted, q_lstl, q_lstb, q_index, q_isn, q_isi, q_eqt, q_net, q_nev, q_frzv, List.map]); (try simp only [V.isNone, true_and, and_true, Int.natCast_nonneg, decide_eq_true_eq, decide_eq_false_iff_not, List.append_nil, List.length_cons, List.length_nil, q_getn, q_get0, q_pi, q_pl, q_pv, q_pt, q_pb, q_pn, List.forall_mem_cons, List.map_cons, List.map_nil, forall_const, List.mem_nil_iff, false_implies, implies_true, List.not_mem_nil])
  refine ⟨fun j st => ∃ v : V, st = [goesV (2 * h), .ints (castL l), .int ((walkL (2 * h) p (l.take j)).2 : Nat), .mints (castL (walkL (2 * h) p (l.take j)).1), v], ⟨.unb, rfl⟩, ?_, ?_⟩
  · rintro j v st hv ⟨v4, rfl⟩
    unfold castL at hv
    rw [List.map_map, List.getElem?_map] at hv
    obtain ⟨b, hx, rfl⟩ := Option.map_eq_some_iff.mp hv
    have hb2 := hb b (List.mem_of_getElem? hx)
    obtain ⟨w1, w2, w3, w4⟩ := walk_val hp (l := l.take j) (fun c hc => hb c (List.mem_of_mem_take hc))
    have e : l.take (j + 1) = l.take j ++ [b] := by rw [List.take_add_one, hx]; rfl
    have es : walkL (2 * h) p (l.take (j + 1)) = stepW (2 * h) (walkL (2 * h) p (l.take j)) b := by rw [e, walk_snoc]
    have hg : ∃ go : List V, goesV (2 * h) = .list go ∧ go[b]? = some (.ints (goL (2 * h) b)) := ⟨_, rfl, by
      have : b = 0 ∨ b = 1 := by (clear h6 hp hb hl hP hx hv w1 w2 w3 w4 e es; lia)
      rcases this with rfl | rfl <;> rfl⟩
    obtain ⟨go, eg, hg⟩ := hg
    rw [List.length_take] at w2
    rw [eg]
    generalize walkL (2 * h) p (l.take j) = w at *
    obtain ⟨hs, c⟩ := w
    unfold W_walk_1_0
    simp only [Function.comp]
    (try dsimp only [xNil, xCons, xLift, xNext, xWhile, xFor, sTry, sIter, sRetOwn, q_xnxt, q_xret, appRead, wSubK, wIf, sSetSub, sCallM, setSubW, Int.toNat_natCast, bCons, bNil, sIte, sRet, sRetNone, sAssign, sAssignM, sAug, sUnpack, sSwap, sAppend, sReverse, sAugSub, sNever, sFrz, sWiden, sFor, sWhile, cCmp, cPlain, wName, wInt, wBool, wNone, wBin, wCmp, wUn, wNil, wCons, wCall, wBitLen, wTup, wLst, wSub, wSubM, wLenM, wCut, pNone, pSome, iSeq, iRange, iRev, frz, appW, augSubW, List.replicate_succ, List.replicate_zero, List.cons_append, List.nil_append, List.set_cons_succ, List.set_cons_zero, List.length_cons, List.length_nil, q_rv2, q_rv3, List.reverse_nil, q_add, q_sub, q_mul, q_fdiv, q_mod, q_shl, q_shr, q_and, q_or, q_xor, q_pow, q_cat, q_catv, q_rep, q_repv, q_eq, q_ne, q_lt, q_le, q_eql, q_nel, q_neg, q_inv, q_tri, q_unpt, q_unpi, q_set, q_set0, q_nxt, q_ret, q_rret, q_rnxt, q_getn, q_get0, q_pi, q_pl, q_pv, q_pt, q_pb, q_pn, q_itl, q_divmod, q_wn, q_wr, q_ln, q_lr, q_aadd, q_asub, q_ashl, q_ashr, q_aor, q_len, q_lenv, q_thaw, q_frz, q_frzv, q_subi, q_subv, q_subt, q_cuti, q_cutv, q_part, q_itv, q_itt, q_rev, q_rng1, q_rng3, q_lst0, wComp, wOne, wNst, wTst, sSwapM, augSubW, q_cutp, q_lst1, q_lst2, iZip, wLRange, wIndex, sAppNone, isM, itemsM, q_zip, q_lrange, q_sorted, q_lstl, q_lstb, q_index, q_isn, q_isi, q_eqt, q_net, q_nev, q_frzv, List.map]); (try simp only [V.isNone, true_and, and_true, Int.natCast_nonneg, decide_eq_true_eq, decide_eq_false_iff_not, List.append_nil, List.length_cons, List.length_nil, q_getn, q_get0, q_pi, q_pl, q_pv, q_pt, q_pb, q_pn, List.forall_mem_cons, List.map_cons, List.map_nil, forall_const, List.mem_nil_iff, false_implies, implies_true, List.not_mem_nil])
    simp only at w1 w2 w3 w4
    refine ⟨IntMulOk.of_left (by decide), by (clear h6 hp hb hl hP hx hv e eg hg w1 w2 w3 w4 es; lia), _, hg, ?_⟩
    simp only [q_len, q_fdiv, goL_len]
    have e1 : (2 * (c : Int)).fdiv ((2 * h : Nat) : Int) = ((2 * c / (2 * h) : Nat) : Int) := by rw [fdiv_ediv (by (clear hp hb hl hP hx hv hb2 e eg hg w1 w2 w3 w4 es; lia)), Int.natCast_ediv]; rfl
    rw [e1]
    refine ⟨by (clear hp hb hl hP hx hv hb2 e eg hg w1 w2 w3 w4 es e1; lia), by (clear h6 hb hl hP hx hv hb2 e eg hg w1 w2 w3 w4 es e1; lia), noPy (by (clear h6 hp hb hl hP hx hv hb2 e eg hg w1 w2 w3 w4 es e1; lia)) (by (clear hp hb hl hP hx hv hb2 e eg hg w1 w2 w3 es e1; lia)), by simp only [castL, List.length_map]; (clear h6 hp hb hP hx hv hb2 e eg hg w1 w3 w4 es e1; lia), ?_⟩
    unfold W_walk_1_1
    (try dsimp only [xNil, xCons, xLift, xNext, xWhile, xFor, sTry, sIter, sRetOwn, q_xnxt, q_xret, appRead, wSubK, wIf, sSetSub, sCallM, setSubW, Int.toNat_natCast, bCons, bNil, sIte, sRet, sRetNone, sAssign, sAssignM, sAug, sUnpack, sSwap, sAppend, sReverse, sAugSub, sNever, sFrz, sWiden, sFor, sWhile, cCmp, cPlain, wName, wInt, wBool, wNone, wBin, wCmp, wUn, wNil, wCons, wCall, wBitLen, wTup, wLst, wSub, wSubM, wLenM, wCut, pNone, pSome, iSeq, iRange, iRev, frz, appW, augSubW, List.replicate_succ, List.replicate_zero, List.cons_append, List.nil_append, List.set_cons_succ, List.set_cons_zero, List.length_cons, List.length_nil, q_rv2, q_rv3, List.reverse_nil, q_add, q_sub, q_mul, q_fdiv, q_mod, q_shl, q_shr, q_and, q_or, q_xor, q_pow, q_cat, q_catv, q_rep, q_repv, q_eq, q_ne, q_lt, q_le, q_eql, q_nel, q_neg, q_inv, q_tri, q_unpt, q_unpi, q_set, q_set0, q_nxt, q_ret, q_rret, q_rnxt, q_getn, q_get0, q_pi, q_pl, q_pv, q_pt, q_pb, q_pn, q_itl, q_divmod, q_wn, q_wr, q_ln, q_lr, q_aadd, q_asub, q_ashl, q_ashr, q_aor, q_len, q_lenv, q_thaw, q_frz, q_frzv, q_subi, q_subv, q_subt, q_cuti, q_cutv, q_part, q_itv, q_itt, q_rev, q_rng1, q_rng3, q_lst0, wComp, wOne, wNst, wTst, sSwapM, augSubW, q_cutp, q_lst1, q_lst2, iZip, wLRange, wIndex, sAppNone, isM, itemsM, q_zip, q_lrange, q_sorted, q_lstl, q_lstb, q_index, q_isn, q_isi, q_eqt, q_net, q_nev, q_frzv, List.map]); (try simp only [V.isNone, true_and, and_true, Int.natCast_nonneg, decide_eq_true_eq, decide_eq_false_iff_not, List.append_nil, List.length_cons, List.length_nil, q_getn, q_get0, q_pi, q_pl, q_pv, q_pt, q_pb, q_pn, List.forall_mem_cons, List.map_cons, List.map_nil, forall_const, List.mem_nil_iff, false_implies, implies_true, List.not_mem_nil])
    refine ⟨by omega, _, hg, ?_⟩
    simp only [q_subi, Int.toNat_natCast, goL_get w4, goL_len]
    refine ⟨by (clear h6 hp hb hl hP hx hv hb2 e eg hg w1 w2 w3 w4 es e1; lia), w4, by (clear hp hb hl hP hx hv hb2 e eg hg w1 w2 w3 es e1; lia), ⟨.int (b : Int), ?_⟩⟩
    rw [es]
    unfold stepW castL
    simp only [List.map_append, List.map_cons, List.map_nil]
  · rintro st ⟨v4, rfl⟩
    rw [List.length_map, castL, List.length_map, List.take_length]
    unfold W_walk_0_2
    (try dsimp only [xNil, xCons, xLift, xNext, xWhile, xFor, sTry, sIter, sRetOwn, q_xnxt, q_xret, appRead, wSubK, wIf, sSetSub, sCallM, setSubW, Int.toNat_natCast, bCons, bNil, sIte, sRet, sRetNone, sAssign, sAssignM, sAug, sUnpack, sSwap, sAppend, sReverse, sAugSub, sNever, sFrz, sWiden, sFor, sWhile, cCmp, cPlain, wName, wInt, wBool, wNone, wBin, wCmp, wUn, wNil, wCons, wCall, wBitLen, wTup, wLst, wSub, wSubM, wLenM, wCut, pNone, pSome, iSeq, iRange, iRev, frz, appW, augSubW, List.replicate_succ, List.replicate_zero, List.cons_append, List.nil_append, List.set_cons_succ, List.set_cons_zero, List.length_cons, List.length_nil, q_rv2, q_rv3, List.reverse_nil, q_add, q_sub, q_mul, q_fdiv, q_mod, q_shl, q_shr, q_and, q_or, q_xor, q_pow, q_cat, q_catv, q_rep, q_repv, q_eq, q_ne, q_lt, q_le, q_eql, q_nel, q_neg, q_inv, q_tri, q_unpt, q_unpi, q_set, q_set0, q_nxt, q_ret, q_rret, q_rnxt, q_getn, q_get0, q_pi, q_pl, q_pv, q_pt, q_pb, q_pn, q_itl, q_divmod, q_wn, q_wr, q_ln, q_lr, q_aadd, q_asub, q_ashl, q_ashr, q_aor, q_len, q_lenv, q_thaw, q_frz, q_frzv, q_subi, q_subv, q_subt, q_cuti, q_cutv, q_part, q_itv, q_itt, q_rev, q_rng1, q_rng3, q_lst0, wComp, wOne, wNst, wTst, sSwapM, augSubW, q_cutp, q_lst1, q_lst2, iZip, wLRange, wIndex, sAppNone, isM, itemsM, q_zip, q_lrange, q_sorted, q_lstl, q_lstb, q_index, q_isn, q_isi, q_eqt, q_net, q_nev, q_frzv, List.map]); (try simp only [V.isNone, true_and, and_true, Int.natCast_nonneg, decide_eq_true_eq, decide_eq_false_iff_not, List.append_nil, List.length_cons, List.length_nil, q_getn, q_get0, q_pi, q_pl, q_pv, q_pt, q_pb, q_pn, List.forall_mem_cons, List.map_cons, List.map_nil, forall_const, List.mem_nil_iff, false_implies, implies_true, List.not_mem_nil])
    exact ⟨by decide, hP⟩
theorem pc_walk (C : Cx) (hK : C.K = KK C.w.params) : PC C 1 (.ref 85) T_walk := by
  refine PC.mono (PC.fn (n := 0) (W := W_walk) (fnok_walk C hK) fun A L h₀ ok => ex_walk C hK A L h₀ ok) ?_
  rintro vs P ⟨h, p, l, rfl, h1, h2, h3, h4, hP⟩
  exact ⟨rfl, w_walk h1 h2 h3 h4 hP⟩
end Mine
end
section
open PySem PySem.Calls PyProof.Rows PySem.W PySem.Spec PySem.SeqAt
set_option Elab.async false
set_option maxRecDepth 100000
set_option linter.unusedVariables false
set_option linter.unusedSimpArgs false
namespace Mine
theorem cutL_one {α : Type} (xs : List α) (lo hi : Option Int) : cutL xs lo hi none = (xs.drop (kms_lo lo xs.length)).take (kms_hi hi xs.length - kms_lo lo xs.length) := by
  unfold cutL
  rw [kms_bounds]
  have h := pick_run xs.toArray (kms_lo lo xs.length) (kms_hi hi xs.length - kms_lo lo xs.length)
  simp only [List.getElem?_toArray] at h
  simp only [sliceRange_one]
  exact h
theorem cutL_from {α : Type} (xs : List α) (b : Nat) : cutL xs (some (b : Int)) none none = xs.drop b := by
  rw [cutL_one]
  simp only [kms_lo, kms_hi, if_neg (show ¬ ((b : Int) < 0) by lia), Int.toNat_natCast]
  rw [kmk_drop_min, List.take_of_length_le]
  rw [List.length_drop]; omega
theorem cutL_mid {α : Type} (xs : List α) (b k : Nat) (h : b + k ≤ xs.length) : cutL xs (some (b : Int)) (some ((b : Int) + (k : Int))) none = (xs.drop b).take k := by
  rw [cutL_one]
  simp only [kms_lo, kms_hi, if_neg (show ¬ ((b : Int) < 0) by (clear h; omega)), if_neg (show ¬ ((b : Int) + (k : Int) < 0) by (clear h; lia)), Int.toNat_natCast]
  rw [show ((b : Int) + (k : Int)).toNat = b + k by (clear h; lia), Nat.min_eq_left (by omega), Nat.min_eq_left (by lia)]
  congr 1; (clear h; lia)
theorem oct_and : ∀ o : Fin 256, Builtin.bitAnd (o.val : Int) 63 = ((o.val % 64 : Nat) : Int) ∧ (Builtin.bitAnd (o.val : Int) 64 = 0 ↔ o.val / 64 % 2 = 0) := by decide +kernel
theorem oct_of {d s z : Nat} (hd : d < 64) (hs : s < 2) (hz : z < 2) : Builtin.bitAnd ((d + 64 * s + 128 * z : Nat) : Int) 63 = (d : Int) ∧ (Builtin.bitAnd ((d + 64 * s + 128 * z : Nat) : Int) 64 = 0 ↔ s = 0) := by
  obtain ⟨k1, k2⟩ := oct_and ⟨d + 64 * s + 128 * z, by lia⟩
  simp only at k1 k2
  refine ⟨by rw [k1]; (clear hs hz k2; lia), by rw [k2]; (clear hz k2; lia)⟩
noncomputable def rdsN : List Nat → List Int → List Int → Prop
  | [], l, t => l = t
  | v :: vs, l, t => ∃ r, pvR l = some ((v : Int), r) ∧ rdsN vs r t
theorem rdsN_append : ∀ {vs ws : List Nat} {l m t : List Int}, rdsN vs l m → rdsN ws m t → rdsN (vs ++ ws) l t
  | [], _, _, _, _, h1, h2 => by simp only [rdsN] at h1; subst h1; exact h2
  | v :: vs, ws, l, m, t, ⟨r, e, h1⟩, h2 => ⟨r, e, rdsN_append h1 h2⟩
noncomputable def Grp (part : List Int) (bits : List Nat) (q i : Nat) : Prop := (i = 0 ∧ part = []) ∨ (0 < i ∧ ∃ b : Int, (∀ t, pvR (part ++ t) = pvGo t (valF 0 (bits.take (6 * i)) : Nat) b) ∧ (Builtin.bitAnd b 64 = 0 ↔ i = q))
theorem six_of {l : List Nat} (hl : 6 ≤ l.length) : ∃ a b c d e f, l.take 6 = [a, b, c, d, e, f] := by
  have h6 : (l.take 6).length = 6 := by rw [List.length_take]; lia
  obtain ⟨a, b, c, d, e, r, e1, h⟩ := len5 (k := 1) h6
  obtain ⟨f, r, rfl, h1⟩ := len_s (k := 0) h
  obtain rfl := len_z h1
  exact ⟨a, b, c, d, e, f, e1⟩
theorem valF_lt : ∀ {l : List Nat} {r k : Nat}, (∀ b ∈ l, b < 2) → r < 2 ^ k → valF r l < 2 ^ (k + l.length)
  | [], r, k, _, hr => hr
  | b :: l, r, k, hl, hr => by
    have hb := hl b List.mem_cons_self
    have := valF_lt (l := l) (r := 2 * r + b) (k := k + 1) (fun c hc => hl c (List.mem_cons_of_mem _ hc)) (by rw [Nat.pow_succ]; (clear hl; lia))
    rw [show k + (b :: l).length = k + 1 + l.length by simp; (clear hl hr hb this; lia)]
    exact this
theorem grp_step {part : List Int} {bits : List Nat} {q i : Nat} (hb : ∀ b ∈ bits, b < 2) (hi : i < q) (hlen : bits.length = 6 * q) (G : Grp part bits q i) {a b c d e f s z : Nat} (e6 : (bits.drop (6 * i)).take 6 = [a, b, c, d, e, f]) (hs : s < 2) (hse : s = 0 ↔ i + 1 = q) (hz : z < 2) :
    Grp (part ++ [((32 * a + 16 * b + 8 * c + 4 * d + 2 * e + f + 64 * s + 128 * z : Nat) : Int)]) bits q (i + 1) := by
  have mem : ∀ x ∈ [a, b, c, d, e, f], x < 2 := fun x hx => hb x (List.mem_of_mem_drop (List.mem_of_mem_take (e6 ▸ hx)))
  have ha := mem a mm0; have hb' := mem b mm1; have hc := mem c mm2; have hd := mem d mm3; have he := mem e mm4; have hf := mem f mm5
  obtain ⟨o1, o2⟩ := oct_of (d := 32 * a + 16 * b + 8 * c + 4 * d + 2 * e + f) (s := s) (z := z) (by (clear hb hi hlen G e6 hs hse hz mem; lia)) hs hz
  have et : bits.take (6 * (i + 1)) = bits.take (6 * i) ++ [a, b, c, d, e, f] := by rw [← e6, Nat.mul_add, List.take_add]
  have ev : valF 0 (bits.take (6 * (i + 1))) = 64 * valF 0 (bits.take (6 * i)) + (32 * a + 16 * b + 8 * c + 4 * d + 2 * e + f) := by
    rw [et]; unfold valF; rw [List.foldl_append]; simp only [List.foldl_cons, List.foldl_nil]; (clear hb hi hlen G e6 hs hse hz mem ha hb' hc hd he hf o1 o2 et; lia)
  refine .inr ⟨by (clear hb hi hlen G e6 hs hse hz mem ha hb' hc hd he hf o1 o2 et ev; lia), _, fun t => ?_, by rw [o2, hse]⟩
  rcases G with ⟨rfl, rfl⟩ | ⟨h0, b0, h1, h2⟩
  · rw [List.nil_append]
    show pvGo t (Builtin.bitAnd _ 63) _ = _
    rw [o1, ev]; simp [valF]
  · rw [List.append_assoc, h1]
    show pvGo (_ :: t) _ _ = _
    rw [pvGo_cons (fun hz => by have := h2.mp hz; (clear hb hlen e6 hs hse mem ha hb' hc hd he hf o1 o2 et ev h0 h1 h2 hz; lia)), o1, ev]
    have hv : valF 0 (bits.take (6 * i)) < 2 ^ (6 * i) := by
      have := valF_lt (l := bits.take (6 * i)) (r := 0) (k := 0) (fun b h => hb b (List.mem_of_mem_take h)) (by decide)
      rw [List.length_take, Nat.zero_add, Nat.min_eq_left (by (clear hb e6 hs hse hz mem ha hb' hc hd he hf o1 o2 et ev h0 h1 h2 this; lia))] at this; exact this
    obtain ⟨e1, _, _⟩ := or_step (a := ((valF 0 (bits.take (6 * i)) : Nat) : Int)) (b := ((32 * a + 16 * b + 8 * c + 4 * d + 2 * e + f : Nat) : Int)) (m := 6 * i) (by (clear hb hi hlen e6 hs hse hz mem ha hb' hc hd he hf o1 o2 et ev h0 h1 h2 hv; lia)) (by rw [← cast_pow2]; (clear hb hi hlen e6 hs hse hz mem ha hb' hc hd he hf o1 o2 et ev h0 h1 h2; lia)) (by (clear hb hi hlen e6 hs hse hz mem o2 et h0 h1 h2 hv; lia)) (by (clear hb hi hlen e6 hs hse hz mem o2 et h0 h1 h2 hv; lia))
    rw [e1]
    congr 1; (clear hb hi hlen e6 hs hse hz mem ha hb' hc hd he hf o1 o2 et ev h0 h1 h2 hv e1; lia)
theorem grp_end {part : List Int} {bits : List Nat} {q : Nat} (hq : 0 < q) (hlen : bits.length = 6 * q) (G : Grp part bits q q) (t : List Int) : pvR (part ++ t) = some (((valF 0 bits : Nat) : Int), t) := by
  rcases G with ⟨h, _⟩ | ⟨_, b, h1, h2⟩
  · (clear hlen; lia)
  · rw [h1, ← hlen, List.take_length]; exact pvGo_stop (h2.mpr rfl) t
theorem valF_zeros : ∀ (k : Nat) (l : List Nat), valF 0 (List.replicate k 0 ++ l) = valF 0 l
  | 0, l => rfl
  | k + 1, l => by rw [List.replicate_succ, List.cons_append]; exact valF_zeros k l
end Mine
end
section
open PySem PySem.Calls PyProof.Rows PySem.W PySem.Spec PySem.SeqAt
set_option Elab.async false
set_option maxRecDepth 100000
set_option linter.unusedVariables false
set_option linter.unusedSimpArgs false
namespace Mine
noncomputable def rowsV (rs : List (List Nat)) : V := .list (rs.map fun r => V.ints (castL r))
noncomputable def T_oct (vs : List V) (P : V → Prop) : Prop := ∃ rs : List (List Nat), vs = [rowsV rs] ∧ rs.length ≤ 64 ∧ (∀ r ∈ rs, r.length ≤ 2 ^ 8 ∧ ∀ b ∈ r, b < 2) ∧
  ∀ os : List Int, os.length ≤ 2 ^ 12 → (∀ t, rdsN (rs.map (valF 0)) (os ++ t) t) → P (.ints (os ++ [69]))
theorem castL_append (a b : List Nat) : castL (a ++ b) = castL a ++ castL b := by simp [castL]
theorem castL_len (a : List Nat) : (castL a).length = a.length := by simp [castL]
theorem flat_one {α : Type} (x : α) : ∀ k : Nat, (List.replicate k [x]).flatten = List.replicate k x
  | 0 => rfl
  | k + 1 => by rw [List.replicate_succ, List.flatten_cons, flat_one x k]; rfl
theorem range6 (q : Nat) : rangeL 0 ((6 * q : Nat) : Int) 6 = (List.range q).map fun j => ((6 * j : Nat) : Int) := by
  unfold rangeL
  have : (Builtin.Range.rangeSize 0 ((6 * q : Nat) : Int) 6).toNat = q := by
    simp [Builtin.Range.rangeSize]; split <;> lia
  rw [this]
  refine List.map_congr_left fun j _ => ?_
  (clear this; lia)
theorem w_oct {rs : List (List Nat)} (hl : rs.length ≤ 64) (hr : ∀ r ∈ rs, r.length ≤ 2 ^ 8 ∧ ∀ b ∈ r, b < 2) {P : V → Prop} (hP : ∀ os : List Int, os.length ≤ 2 ^ 12 → (∀ t, rdsN (rs.map (valF 0)) (os ++ t) t) → P (.ints (os ++ [69]))) :
    W_oct ([rowsV rs] ++ List.replicate 11 .unb) (retP P) := by
  unfold W_oct
  (try dsimp only [xNil, xCons, xLift, xNext, xWhile, xFor, sTry, sIter, sRetOwn, q_xnxt, q_xret, appRead, wSubK, wIf, sSetSub, sCallM, setSubW, Int.toNat_natCast, bCons, bNil, sIte, sRet, sRetNone, sAssign, sAssignM, sAug, sUnpack, sSwap, sAppend, sReverse, sAugSub, sNever, sFrz, sWiden, sFor, sWhile, cCmp, cPlain, wName, wInt, wBool, wNone, wBin, wCmp, wUn, wNil, wCons, wCall, wBitLen, wTup, wLst, wSub, wSubM, wLenM, wCut, pNone, pSome, iSeq, iRange, iRev, frz, appW, augSubW, List.replicate_succ, List.replicate_zero, List.cons_append, List.nil_append, List.set_cons_succ, List.set_cons_zero, List.length_cons, List.length_nil, q_rv2, q_rv3, List.reverse_nil, q_add, q_sub, q_mul, q_fdiv, q_mod, q_shl, q_shr, q_and, q_or, q_xor, q_pow, q_cat, q_catv, q_rep, q_repv, q_eq, q_ne, q_lt, q_le, q_eql, q_nel, q_neg, q_inv, q_tri, q_unpt, q_unpi, q_set, q_set0, q_nxt, q_ret, q_rret, q_rnxt, q_getn, q_get0, q_pi, q_pl, q_pv, q_pt, q_pb, q_pn, q_itl, q_divmod, q_wn, q_wr, q_ln, q_lr, q_aadd, q_asub, q_ashl, q_ashr, q_aor, q_len, q_lenv, q_thaw, q_frz, q_frzv, q_subi, q_subv, q_subt, q_cuti, q_cutv, q_part, q_itv, q_itt, q_rev, q_rng1, q_rng3, q_lst0, wComp, wOne, wNst, wTst, sSwapM, augSubW, q_cutp, q_lst1, q_lst2, iZip, wLRange, wIndex, sAppNone, isM, itemsM, q_zip, q_lrange, q_sorted, q_lstl, q_lstb, q_index, q_isn, q_isi, q_eqt, q_net, q_nev, q_frzv, List.map]); (try simp only [V.isNone, true_and, and_true, Int.natCast_nonneg, decide_eq_true_eq, decide_eq_false_iff_not, List.append_nil, List.length_cons, List.length_nil, q_getn, q_get0, q_pi, q_pl, q_pv, q_pt, q_pb, q_pn, List.forall_mem_cons, List.map_cons, List.map_nil, forall_const, List.mem_nil_iff, false_implies, implies_true, List.not_mem_nil])
  refine ⟨by decide, ?_⟩
  unfold W_oct_0_1
  (try dsimp only [xNil, xCons, xLift, xNext, xWhile, xFor, sTry, sIter, sRetOwn, q_xnxt, q_xret, appRead, wSubK, wIf, sSetSub, sCallM, setSubW, Int.toNat_natCast, bCons, bNil, sIte, sRet, sRetNone, sAssign, sAssignM, sAug, sUnpack, sSwap, sAppend, sReverse, sAugSub, sNever, sFrz, sWiden, sFor, sWhile, cCmp, cPlain, wName, wInt, wBool, wNone, wBin, wCmp, wUn, wNil, wCons, wCall, wBitLen, wTup, wLst, wSub, wSubM, wLenM, wCut, pNone, pSome, iSeq, iRange, iRev, frz, appW, augSubW, List.replicate_succ, List.replicate_zero, List.cons_append, List.nil_append, List.set_cons_succ, List.set_cons_zero, List.length_cons, List.length_nil, q_rv2, q_rv3, List.reverse_nil, q_add, q_sub, q_mul, q_fdiv, q_mod, q_shl, q_shr, q_and, q_or, q_xor, q_pow, q_cat, q_catv, q_rep, q_repv, q_eq, q_ne, q_lt, q_le, q_eql, q_nel, q_neg, q_inv, q_tri, q_unpt, q_unpi, q_set, q_set0, q_nxt, q_ret, q_rret, q_rnxt, q_getn, q_get0, q_pi, q_pl, q_pv, q_pt, q_pb, q_pn, q_itl, q_divmod, q_wn, q_wr, q_ln, q_lr, q_aadd, q_asub, q_ashl, q_ashr, q_aor, q_len, q_lenv, q_thaw, q_frz, q_frzv, q_subi, q_subv, q_subt, q_cuti, q_cutv, q_part, q_itv, q_itt, q_rev, q_rng1, q_rng3, q_lst0, wComp, wOne, wNst, wTst, sSwapM, augSubW, q_cutp, q_lst1, q_lst2, iZip, wLRange, wIndex, sAppNone, isM, itemsM, q_zip, q_lrange, q_sorted, q_lstl, q_lstb, q_index, q_isn, q_isi, q_eqt, q_net, q_nev, q_frzv, List.map]); (try simp only [V.isNone, true_and, and_true, Int.natCast_nonneg, decide_eq_true_eq, decide_eq_false_iff_not, List.append_nil, List.length_cons, List.length_nil, q_getn, q_get0, q_pi, q_pl, q_pv, q_pt, q_pb, q_pn, List.forall_mem_cons, List.map_cons, List.map_nil, forall_const, List.mem_nil_iff, false_implies, implies_true, List.not_mem_nil])
  refine ⟨trivial, fun j st => ∃ (os : List Int) (vs : List V), st = [rowsV rs, .mints os] ++ vs ∧ vs.length = 10 ∧ os.length ≤ 44 * j ∧ ∀ t, rdsN ((rs.take j).map (valF 0)) (os ++ t) t, ⟨[], _, rfl, rfl, by simp, fun t => rfl⟩, ?_, ?_⟩
  · rintro j v st hv ⟨os, vs, rfl, hvs, hos, hrd⟩
    obtain ⟨v2, v3, v4, v5, v6, vs, rfl, hvs1⟩ := len5 (k := 5) hvs
    obtain ⟨v7, v8, v9, v10, v11, vs, rfl, hvs2⟩ := len5 (k := 0) hvs1
    obtain rfl := len_z hvs2
    rw [List.getElem?_map] at hv
    obtain ⟨r, hx, rfl⟩ := Option.map_eq_some_iff.mp hv
    obtain ⟨r1, r2⟩ := hr r (List.mem_of_getElem? hx)
    have hj : j < rs.length := (List.getElem?_eq_some_iff.mp hx).1
    unfold W_oct_1_0
    simp only [List.cons_append, List.nil_append]
    (try dsimp only [xNil, xCons, xLift, xNext, xWhile, xFor, sTry, sIter, sRetOwn, q_xnxt, q_xret, appRead, wSubK, wIf, sSetSub, sCallM, setSubW, Int.toNat_natCast, bCons, bNil, sIte, sRet, sRetNone, sAssign, sAssignM, sAug, sUnpack, sSwap, sAppend, sReverse, sAugSub, sNever, sFrz, sWiden, sFor, sWhile, cCmp, cPlain, wName, wInt, wBool, wNone, wBin, wCmp, wUn, wNil, wCons, wCall, wBitLen, wTup, wLst, wSub, wSubM, wLenM, wCut, pNone, pSome, iSeq, iRange, iRev, frz, appW, augSubW, List.replicate_succ, List.replicate_zero, List.cons_append, List.nil_append, List.set_cons_succ, List.set_cons_zero, List.length_cons, List.length_nil, q_rv2, q_rv3, List.reverse_nil, q_add, q_sub, q_mul, q_fdiv, q_mod, q_shl, q_shr, q_and, q_or, q_xor, q_pow, q_cat, q_catv, q_rep, q_repv, q_eq, q_ne, q_lt, q_le, q_eql, q_nel, q_neg, q_inv, q_tri, q_unpt, q_unpi, q_set, q_set0, q_nxt, q_ret, q_rret, q_rnxt, q_getn, q_get0, q_pi, q_pl, q_pv, q_pt, q_pb, q_pn, q_itl, q_divmod, q_wn, q_wr, q_ln, q_lr, q_aadd, q_asub, q_ashl, q_ashr, q_aor, q_len, q_lenv, q_thaw, q_frz, q_frzv, q_subi, q_subv, q_subt, q_cuti, q_cutv, q_part, q_itv, q_itt, q_rev, q_rng1, q_rng3, q_lst0, wComp, wOne, wNst, wTst, sSwapM, augSubW, q_cutp, q_lst1, q_lst2, iZip, wLRange, wIndex, sAppNone, isM, itemsM, q_zip, q_lrange, q_sorted, q_lstl, q_lstb, q_index, q_isn, q_isi, q_eqt, q_net, q_nev, q_frzv, List.map]); (try simp only [V.isNone, true_and, and_true, Int.natCast_nonneg, decide_eq_true_eq, decide_eq_false_iff_not, List.append_nil, List.length_cons, List.length_nil, q_getn, q_get0, q_pi, q_pl, q_pv, q_pt, q_pb, q_pn, List.forall_mem_cons, List.map_cons, List.map_nil, forall_const, List.mem_nil_iff, false_implies, implies_true, List.not_mem_nil])
    rw [castL_len, flat_one, fmod_emod (by decide)]
    have hpad : (6 - ((r.length : Nat) : Int) % 6).toNat = 6 - r.length % 6 := by (clear hl hr hP hos hrd hvs2 hvs1 hvs hx hv r1 r2 hj; lia)
    rw [hpad]
    generalize hbits : List.replicate (6 - r.length % 6) 0 ++ r = bits
    have hc : List.replicate (6 - r.length % 6) (0 : Int) ++ castL r = castL bits := by rw [← hbits, castL_append]; unfold castL; rw [List.map_replicate]; rfl
    obtain ⟨q, hq⟩ : ∃ q, bits.length = 6 * q := ⟨(r.length + 5) / 6 + (if r.length % 6 = 0 then 1 else 0), by rw [← hbits, List.length_append, List.length_replicate]; split <;> (clear hl hr hP hos hrd hvs2 hvs1 hvs hx hv r1 r2 hj hpad hbits hc; lia)⟩
    have hq0 : 0 < q ∧ q ≤ 43 := by rw [← hbits, List.length_append, List.length_replicate] at hq; (clear hl hr hP hos hrd hvs2 hvs1 hvs hx hv r2 hj hpad hbits hc; lia)
    have hb2 : ∀ b ∈ bits, b < 2 := fun b hb => by
      rw [← hbits] at hb
      rcases List.mem_append.mp hb with hb | hb
      · rw [List.eq_of_mem_replicate hb]; decide
      · exact r2 b hb
    have hval : valF 0 bits = valF 0 r := by rw [← hbits]; exact valF_zeros _ _
    rw [hc]
    refine ⟨by decide, by (clear hl hr hP hos hrd hvs2 hvs1 hvs hx hv r2 hj hpad hbits hc hq hq0 hb2 hval; lia), by decide, by (clear hl hr hP hos hrd hvs2 hvs1 hvs hx hv r1 r2 hj hpad hbits hc hq hq0 hb2 hval; lia), by (clear hl hr hP hos hrd hvs2 hvs1 hvs hx hv r1 r2 hj hpad hbits hc hq hq0 hb2 hval; omega), by (clear hl hr hP hos hrd hvs2 hvs1 hvs hx hv r1 r2 hj hpad hbits hc hq hq0 hb2 hval; omega), by rw [List.length_replicate]; (clear hl hr hP hos hrd hvs2 hvs1 hvs hx hv r2 hj hpad hbits hc hq hq0 hb2 hval; lia), ?_⟩
    unfold W_oct_1_1
    (try dsimp only [xNil, xCons, xLift, xNext, xWhile, xFor, sTry, sIter, sRetOwn, q_xnxt, q_xret, appRead, wSubK, wIf, sSetSub, sCallM, setSubW, Int.toNat_natCast, bCons, bNil, sIte, sRet, sRetNone, sAssign, sAssignM, sAug, sUnpack, sSwap, sAppend, sReverse, sAugSub, sNever, sFrz, sWiden, sFor, sWhile, cCmp, cPlain, wName, wInt, wBool, wNone, wBin, wCmp, wUn, wNil, wCons, wCall, wBitLen, wTup, wLst, wSub, wSubM, wLenM, wCut, pNone, pSome, iSeq, iRange, iRev, frz, appW, augSubW, List.replicate_succ, List.replicate_zero, List.cons_append, List.nil_append, List.set_cons_succ, List.set_cons_zero, List.length_cons, List.length_nil, q_rv2, q_rv3, List.reverse_nil, q_add, q_sub, q_mul, q_fdiv, q_mod, q_shl, q_shr, q_and, q_or, q_xor, q_pow, q_cat, q_catv, q_rep, q_repv, q_eq, q_ne, q_lt, q_le, q_eql, q_nel, q_neg, q_inv, q_tri, q_unpt, q_unpi, q_set, q_set0, q_nxt, q_ret, q_rret, q_rnxt, q_getn, q_get0, q_pi, q_pl, q_pv, q_pt, q_pb, q_pn, q_itl, q_divmod, q_wn, q_wr, q_ln, q_lr, q_aadd, q_asub, q_ashl, q_ashr, q_aor, q_len, q_lenv, q_thaw, q_frz, q_frzv, q_subi, q_subv, q_subt, q_cuti, q_cutv, q_part, q_itv, q_itt, q_rev, q_rng1, q_rng3, q_lst0, wComp, wOne, wNst, wTst, sSwapM, augSubW, q_cutp, q_lst1, q_lst2, iZip, wLRange, wIndex, sAppNone, isM, itemsM, q_zip, q_lrange, q_sorted, q_lstl, q_lstb, q_index, q_isn, q_isi, q_eqt, q_net, q_nev, q_frzv, List.map]); (try simp only [V.isNone, true_and, and_true, Int.natCast_nonneg, decide_eq_true_eq, decide_eq_false_iff_not, List.append_nil, List.length_cons, List.length_nil, q_getn, q_get0, q_pi, q_pl, q_pv, q_pt, q_pb, q_pn, List.forall_mem_cons, List.map_cons, List.map_nil, forall_const, List.mem_nil_iff, false_implies, implies_true, List.not_mem_nil])
    rw [castL_len, hq, range6]
    refine ⟨by (clear hl hr hP hos hrd hvs2 hvs1 hvs hx hv r1 r2 hj hpad hbits hc hq hb2 hval; lia), by decide, by rw [Int.sub_zero]; exact noPyN (by (clear hl hr hP hos hrd hvs2 hvs1 hvs hx hv r1 r2 hj hpad hbits hc hq hb2 hval; lia)), ?_, ?_⟩
    · unfold Builtin.Range.small; simp [Builtin.Range.rangeSize, Builtin.Range.rangeFitsLong]; (clear hl hr hP hos hrd hvs2 hvs1 hvs hx hv r1 r2 hj hpad hbits hc hq hb2 hval; omega)
    refine ⟨fun i st => ∃ (part : List Int) (vs : List V), st = [rowsV rs, .mints (os ++ part), .ints (castL r), .ints (castL bits)] ++ vs ∧ vs.length = 8 ∧ part.length = i ∧ Grp part bits q i, ⟨[], [v4, v5, v6, v7, v8, v9, v10, v11], by rw [List.append_nil]; rfl, rfl, rfl, .inl ⟨rfl, rfl⟩⟩, ?_, ?_⟩
    · rintro i v st hv ⟨part, vs, rfl, hvs, hpl, G⟩
      obtain ⟨v4, v5, v6, v7, v8, vs, rfl, hvs1⟩ := len5 (k := 3) hvs
      obtain ⟨v9, vs, rfl, hvs2⟩ := len_s (k := 2) hvs1
      obtain ⟨v10, vs, rfl, hvs3⟩ := len_s (k := 1) hvs2
      obtain ⟨v11, vs, rfl, hvs4⟩ := len_s (k := 0) hvs3
      obtain rfl := len_z hvs4
      rw [List.map_map, List.getElem?_map] at hv
      obtain ⟨i', hi', rfl⟩ := Option.map_eq_some_iff.mp hv
      obtain ⟨hlt, hi'⟩ := List.getElem?_eq_some_iff.mp hi'
      rw [List.getElem_range] at hi'; subst hi'
      rw [List.length_range] at hlt
      obtain ⟨a, b, c, d, e, f, e6⟩ := six_of (l := bits.drop (6 * i)) (by rw [List.length_drop]; (clear hl hr hP hos hrd hx r1 r2 hj hpad hbits hc hq0 hb2 hval hpl G hvs4 hvs3 hvs2 hvs1 hvs hi' hv; lia))
      have ecut : cutL (castL bits) (some ((6 * i : Nat) : Int)) (some (((6 * i : Nat) : Int) + 6)) none = castL [a, b, c, d, e, f] := by
        have := cutL_mid (castL bits) (6 * i) 6 (by rw [castL_len]; (clear hl hr hP hos hrd hx r1 r2 hj hpad hbits hc hq0 hb2 hval hpl G hvs4 hvs3 hvs2 hvs1 hvs hi' hv e6; lia))
        rw [← e6]; unfold castL at this ⊢; rw [List.map_take, List.map_drop]; exact this
      unfold W_oct_2_0
      simp only [Function.comp]
      simp only [List.cons_append, List.nil_append]
      (try dsimp only [xNil, xCons, xLift, xNext, xWhile, xFor, sTry, sIter, sRetOwn, q_xnxt, q_xret, appRead, wSubK, wIf, sSetSub, sCallM, setSubW, Int.toNat_natCast, bCons, bNil, sIte, sRet, sRetNone, sAssign, sAssignM, sAug, sUnpack, sSwap, sAppend, sReverse, sAugSub, sNever, sFrz, sWiden, sFor, sWhile, cCmp, cPlain, wName, wInt, wBool, wNone, wBin, wCmp, wUn, wNil, wCons, wCall, wBitLen, wTup, wLst, wSub, wSubM, wLenM, wCut, pNone, pSome, iSeq, iRange, iRev, frz, appW, augSubW, List.replicate_succ, List.replicate_zero, List.cons_append, List.nil_append, List.set_cons_succ, List.set_cons_zero, List.length_cons, List.length_nil, q_rv2, q_rv3, List.reverse_nil, q_add, q_sub, q_mul, q_fdiv, q_mod, q_shl, q_shr, q_and, q_or, q_xor, q_pow, q_cat, q_catv, q_rep, q_repv, q_eq, q_ne, q_lt, q_le, q_eql, q_nel, q_neg, q_inv, q_tri, q_unpt, q_unpi, q_set, q_set0, q_nxt, q_ret, q_rret, q_rnxt, q_getn, q_get0, q_pi, q_pl, q_pv, q_pt, q_pb, q_pn, q_itl, q_divmod, q_wn, q_wr, q_ln, q_lr, q_aadd, q_asub, q_ashl, q_ashr, q_aor, q_len, q_lenv, q_thaw, q_frz, q_frzv, q_subi, q_subv, q_subt, q_cuti, q_cutv, q_part, q_itv, q_itt, q_rev, q_rng1, q_rng3, q_lst0, wComp, wOne, wNst, wTst, sSwapM, augSubW, q_cutp, q_lst1, q_lst2, iZip, wLRange, wIndex, sAppNone, isM, itemsM, q_zip, q_lrange, q_sorted, q_lstl, q_lstb, q_index, q_isn, q_isi, q_eqt, q_net, q_nev, q_frzv, List.map]); (try simp only [V.isNone, true_and, and_true, Int.natCast_nonneg, decide_eq_true_eq, decide_eq_false_iff_not, List.append_nil, List.length_cons, List.length_nil, q_getn, q_get0, q_pi, q_pl, q_pv, q_pt, q_pb, q_pn, List.forall_mem_cons, List.map_cons, List.map_nil, forall_const, List.mem_nil_iff, false_implies, implies_true, List.not_mem_nil])
      rw [ecut]
      rw [show castL [a, b, c, d, e, f] = [(a : Int), b, c, d, e, f] from rfl]
      (try dsimp only [xNil, xCons, xLift, xNext, xWhile, xFor, sTry, sIter, sRetOwn, q_xnxt, q_xret, appRead, wSubK, wIf, sSetSub, sCallM, setSubW, Int.toNat_natCast, bCons, bNil, sIte, sRet, sRetNone, sAssign, sAssignM, sAug, sUnpack, sSwap, sAppend, sReverse, sAugSub, sNever, sFrz, sWiden, sFor, sWhile, cCmp, cPlain, wName, wInt, wBool, wNone, wBin, wCmp, wUn, wNil, wCons, wCall, wBitLen, wTup, wLst, wSub, wSubM, wLenM, wCut, pNone, pSome, iSeq, iRange, iRev, frz, appW, augSubW, List.replicate_succ, List.replicate_zero, List.cons_append, List.nil_append, List.set_cons_succ, List.set_cons_zero, List.length_cons, List.length_nil, q_rv2, q_rv3, List.reverse_nil, q_add, q_sub, q_mul, q_fdiv, q_mod, q_shl, q_shr, q_and, q_or, q_xor, q_pow, q_cat, q_catv, q_rep, q_repv, q_eq, q_ne, q_lt, q_le, q_eql, q_nel, q_neg, q_inv, q_tri, q_unpt, q_unpi, q_set, q_set0, q_nxt, q_ret, q_rret, q_rnxt, q_getn, q_get0, q_pi, q_pl, q_pv, q_pt, q_pb, q_pn, q_itl, q_divmod, q_wn, q_wr, q_ln, q_lr, q_aadd, q_asub, q_ashl, q_ashr, q_aor, q_len, q_lenv, q_thaw, q_frz, q_frzv, q_subi, q_subv, q_subt, q_cuti, q_cutv, q_part, q_itv, q_itt, q_rev, q_rng1, q_rng3, q_lst0, wComp, wOne, wNst, wTst, sSwapM, augSubW, q_cutp, q_lst1, q_lst2, iZip, wLRange, wIndex, sAppNone, isM, itemsM, q_zip, q_lrange, q_sorted, q_lstl, q_lstb, q_index, q_isn, q_isi, q_eqt, q_net, q_nev, q_frzv, List.map]); (try simp only [V.isNone, true_and, and_true, Int.natCast_nonneg, decide_eq_true_eq, decide_eq_false_iff_not, List.append_nil, List.length_cons, List.length_nil, q_getn, q_get0, q_pi, q_pl, q_pv, q_pt, q_pb, q_pn, List.forall_mem_cons, List.map_cons, List.map_nil, forall_const, List.mem_nil_iff, false_implies, implies_true, List.not_mem_nil])
      rw [castL_len]
      refine ⟨by (clear hl hr hP hos hrd hx r1 r2 hj hpad hbits hc hb2 hval hpl G hvs4 hvs3 hvs2 hvs1 hvs hlt hi' hv e6 ecut; lia), by decide, ?_⟩
      have mem : ∀ x ∈ [a, b, c, d, e, f], x < 2 := fun x hx => hb2 x (List.mem_of_mem_drop (List.mem_of_mem_take (e6 ▸ hx)))
      have ha := mem a mm0; have hb' := mem b mm1; have hc' := mem c mm2; have hd := mem d mm3; have he := mem e mm4; have hf := mem f mm5
      have tail : ∀ (s : Nat) (o : Int) (K : Out → List V → Prop), s < 2 → (s = 0 ↔ i + 1 = q) → o = ((32 * a + 16 * b + 8 * c + 4 * d + 2 * e + f + 64 * s : Nat) : Int) →
          (∀ (part' : List Int) (vs : List V), vs.length = 8 → part'.length = i + 1 → Grp part' bits q (i + 1) → K .nxt ([rowsV rs, .mints (os ++ part'), .ints (castL r), .ints (castL bits)] ++ vs)) →
          W_oct_2_3 [rowsV rs, .mints (os ++ part), .ints (castL r), .ints (castL bits), .int ((6 * i : Nat) : Int), .int a, .int b, .int c, .int d, .int e, .int f, .int o] K := by
        rintro s o K hs hse rfl hK
        unfold W_oct_2_3
        (try dsimp only [xNil, xCons, xLift, xNext, xWhile, xFor, sTry, sIter, sRetOwn, q_xnxt, q_xret, appRead, wSubK, wIf, sSetSub, sCallM, setSubW, Int.toNat_natCast, bCons, bNil, sIte, sRet, sRetNone, sAssign, sAssignM, sAug, sUnpack, sSwap, sAppend, sReverse, sAugSub, sNever, sFrz, sWiden, sFor, sWhile, cCmp, cPlain, wName, wInt, wBool, wNone, wBin, wCmp, wUn, wNil, wCons, wCall, wBitLen, wTup, wLst, wSub, wSubM, wLenM, wCut, pNone, pSome, iSeq, iRange, iRev, frz, appW, augSubW, List.replicate_succ, List.replicate_zero, List.cons_append, List.nil_append, List.set_cons_succ, List.set_cons_zero, List.length_cons, List.length_nil, q_rv2, q_rv3, List.reverse_nil, q_add, q_sub, q_mul, q_fdiv, q_mod, q_shl, q_shr, q_and, q_or, q_xor, q_pow, q_cat, q_catv, q_rep, q_repv, q_eq, q_ne, q_lt, q_le, q_eql, q_nel, q_neg, q_inv, q_tri, q_unpt, q_unpi, q_set, q_set0, q_nxt, q_ret, q_rret, q_rnxt, q_getn, q_get0, q_pi, q_pl, q_pv, q_pt, q_pb, q_pn, q_itl, q_divmod, q_wn, q_wr, q_ln, q_lr, q_aadd, q_asub, q_ashl, q_ashr, q_aor, q_len, q_lenv, q_thaw, q_frz, q_frzv, q_subi, q_subv, q_subt, q_cuti, q_cutv, q_part, q_itv, q_itt, q_rev, q_rng1, q_rng3, q_lst0, wComp, wOne, wNst, wTst, sSwapM, augSubW, q_cutp, q_lst1, q_lst2, iZip, wLRange, wIndex, sAppNone, isM, itemsM, q_zip, q_lrange, q_sorted, q_lstl, q_lstb, q_index, q_isn, q_isi, q_eqt, q_net, q_nev, q_frzv, List.map]); (try simp only [V.isNone, true_and, and_true, Int.natCast_nonneg, decide_eq_true_eq, decide_eq_false_iff_not, List.append_nil, List.length_cons, List.length_nil, q_getn, q_get0, q_pi, q_pl, q_pv, q_pt, q_pb, q_pn, List.forall_mem_cons, List.map_cons, List.map_nil, forall_const, List.mem_nil_iff, false_implies, implies_true, List.not_mem_nil])
        have ez : (((os ++ part).length : Nat) : Int).fmod 2 = (((os ++ part).length % 2 : Nat) : Int) := by rw [fmod_emod (by decide)]; (clear hl hr hP hos hrd hx r1 r2 hj hpad hbits hc hq hq0 hb2 hval hpl G hvs4 hvs3 hvs2 hvs1 hvs hlt hi' hv e6 ecut mem ha hb' hc' hd he hf hs hse hK; lia)
        rw [ez]
        have eo : ((32 * a + 16 * b + 8 * c + 4 * d + 2 * e + f + 64 * s : Nat) : Int) + 128 * (((os ++ part).length % 2 : Nat) : Int) = ((32 * a + 16 * b + 8 * c + 4 * d + 2 * e + f + 64 * s + 128 * ((os ++ part).length % 2) : Nat) : Int) := by (clear hl hr hP hos hrd hx r1 r2 hj hpad hbits hc hq hq0 hb2 hval hpl G hvs4 hvs3 hvs2 hvs1 hvs hlt hi' hv e6 ecut mem ha hb' hc' hd he hf hs hse hK ez; lia)
        rw [eo, List.append_assoc]
        have hlen : (os ++ part).length < 2 ^ 24 := by rw [List.length_append]; (clear hr hP hrd hx r1 r2 hpad hbits hc hq hb2 hval G hvs4 hvs3 hvs2 hvs1 hvs hi' hv e6 ecut mem ha hb' hc' hd he hf hs hse hK ez eo; lia)
        refine ⟨by (clear hl hr hP hos hrd hx r1 r2 hj hpad hbits hc hq hq0 hb2 hval hpl G hvs4 hvs3 hvs2 hvs1 hvs hlt hi' hv e6 ecut mem ha hb' hc' hd he hf hs hse hK ez eo; lia), by decide, IntMulOk.of_left (by decide), hlen, ?_⟩
        exact hK _ _ rfl (by rw [List.length_append, hpl]; rfl) (grp_step hb2 hlt hq G e6 hs hse (Nat.mod_lt _ (by decide)))
      unfold W_oct_2_1
      (try dsimp only [xNil, xCons, xLift, xNext, xWhile, xFor, sTry, sIter, sRetOwn, q_xnxt, q_xret, appRead, wSubK, wIf, sSetSub, sCallM, setSubW, Int.toNat_natCast, bCons, bNil, sIte, sRet, sRetNone, sAssign, sAssignM, sAug, sUnpack, sSwap, sAppend, sReverse, sAugSub, sNever, sFrz, sWiden, sFor, sWhile, cCmp, cPlain, wName, wInt, wBool, wNone, wBin, wCmp, wUn, wNil, wCons, wCall, wBitLen, wTup, wLst, wSub, wSubM, wLenM, wCut, pNone, pSome, iSeq, iRange, iRev, frz, appW, augSubW, List.replicate_succ, List.replicate_zero, List.cons_append, List.nil_append, List.set_cons_succ, List.set_cons_zero, List.length_cons, List.length_nil, q_rv2, q_rv3, List.reverse_nil, q_add, q_sub, q_mul, q_fdiv, q_mod, q_shl, q_shr, q_and, q_or, q_xor, q_pow, q_cat, q_catv, q_rep, q_repv, q_eq, q_ne, q_lt, q_le, q_eql, q_nel, q_neg, q_inv, q_tri, q_unpt, q_unpi, q_set, q_set0, q_nxt, q_ret, q_rret, q_rnxt, q_getn, q_get0, q_pi, q_pl, q_pv, q_pt, q_pb, q_pn, q_itl, q_divmod, q_wn, q_wr, q_ln, q_lr, q_aadd, q_asub, q_ashl, q_ashr, q_aor, q_len, q_lenv, q_thaw, q_frz, q_frzv, q_subi, q_subv, q_subt, q_cuti, q_cutv, q_part, q_itv, q_itt, q_rev, q_rng1, q_rng3, q_lst0, wComp, wOne, wNst, wTst, sSwapM, augSubW, q_cutp, q_lst1, q_lst2, iZip, wLRange, wIndex, sAppNone, isM, itemsM, q_zip, q_lrange, q_sorted, q_lstl, q_lstb, q_index, q_isn, q_isi, q_eqt, q_net, q_nev, q_frzv, List.map]); (try simp only [V.isNone, true_and, and_true, Int.natCast_nonneg, decide_eq_true_eq, decide_eq_false_iff_not, List.append_nil, List.length_cons, List.length_nil, q_getn, q_get0, q_pi, q_pl, q_pv, q_pt, q_pb, q_pn, List.forall_mem_cons, List.map_cons, List.map_nil, forall_const, List.mem_nil_iff, false_implies, implies_true, List.not_mem_nil])
      refine ⟨IntMulOk.of_left (by decide), IntMulOk.of_left (by decide), IntMulOk.of_left (by decide), IntMulOk.of_left (by decide), IntMulOk.of_left (by decide), ?_⟩
      unfold W_oct_2_2
      (try dsimp only [xNil, xCons, xLift, xNext, xWhile, xFor, sTry, sIter, sRetOwn, q_xnxt, q_xret, appRead, wSubK, wIf, sSetSub, sCallM, setSubW, Int.toNat_natCast, bCons, bNil, sIte, sRet, sRetNone, sAssign, sAssignM, sAug, sUnpack, sSwap, sAppend, sReverse, sAugSub, sNever, sFrz, sWiden, sFor, sWhile, cCmp, cPlain, wName, wInt, wBool, wNone, wBin, wCmp, wUn, wNil, wCons, wCall, wBitLen, wTup, wLst, wSub, wSubM, wLenM, wCut, pNone, pSome, iSeq, iRange, iRev, frz, appW, augSubW, List.replicate_succ, List.replicate_zero, List.cons_append, List.nil_append, List.set_cons_succ, List.set_cons_zero, List.length_cons, List.length_nil, q_rv2, q_rv3, List.reverse_nil, q_add, q_sub, q_mul, q_fdiv, q_mod, q_shl, q_shr, q_and, q_or, q_xor, q_pow, q_cat, q_catv, q_rep, q_repv, q_eq, q_ne, q_lt, q_le, q_eql, q_nel, q_neg, q_inv, q_tri, q_unpt, q_unpi, q_set, q_set0, q_nxt, q_ret, q_rret, q_rnxt, q_getn, q_get0, q_pi, q_pl, q_pv, q_pt, q_pb, q_pn, q_itl, q_divmod, q_wn, q_wr, q_ln, q_lr, q_aadd, q_asub, q_ashl, q_ashr, q_aor, q_len, q_lenv, q_thaw, q_frz, q_frzv, q_subi, q_subv, q_subt, q_cuti, q_cutv, q_part, q_itv, q_itt, q_rev, q_rng1, q_rng3, q_lst0, wComp, wOne, wNst, wTst, sSwapM, augSubW, q_cutp, q_lst1, q_lst2, iZip, wLRange, wIndex, sAppNone, isM, itemsM, q_zip, q_lrange, q_sorted, q_lstl, q_lstb, q_index, q_isn, q_isi, q_eqt, q_net, q_nev, q_frzv, List.map]); (try simp only [V.isNone, true_and, and_true, Int.natCast_nonneg, decide_eq_true_eq, decide_eq_false_iff_not, List.append_nil, List.length_cons, List.length_nil, q_getn, q_get0, q_pi, q_pl, q_pv, q_pt, q_pb, q_pn, List.forall_mem_cons, List.map_cons, List.map_nil, forall_const, List.mem_nil_iff, false_implies, implies_true, List.not_mem_nil])
      rw [castL_len]
      refine ⟨by (clear hl hr hP hos hrd hx r1 r2 hj hpad hbits hc hb2 hval hpl G hvs4 hvs3 hvs2 hvs1 hvs hlt hi' hv e6 ecut mem ha hb' hc' hd he hf tail; lia), fun hc1 => ?_, fun hc1 => tail 0 _ _ (by decide) ⟨fun _ => by (clear hl hr hP hos hrd hx r1 r2 hj hpad hbits hc hq0 hb2 hval hpl G hvs4 hvs3 hvs2 hvs1 hvs hi' hv e6 ecut mem ha hb' hc' hd he hf tail; lia), fun _ => rfl⟩ (by (clear hl hr hP hos hrd hx r1 r2 hj hpad hbits hc hq hq0 hb2 hval hpl G hvs4 hvs3 hvs2 hvs1 hvs hlt hi' hv e6 ecut mem ha hb' hc' hd he hf tail hc1; lia)) fun part' vs h1 h2 h3 => ⟨part', vs, rfl, h1, h2, h3⟩⟩
      unfold W_oct_3_0
      (try dsimp only [xNil, xCons, xLift, xNext, xWhile, xFor, sTry, sIter, sRetOwn, q_xnxt, q_xret, appRead, wSubK, wIf, sSetSub, sCallM, setSubW, Int.toNat_natCast, bCons, bNil, sIte, sRet, sRetNone, sAssign, sAssignM, sAug, sUnpack, sSwap, sAppend, sReverse, sAugSub, sNever, sFrz, sWiden, sFor, sWhile, cCmp, cPlain, wName, wInt, wBool, wNone, wBin, wCmp, wUn, wNil, wCons, wCall, wBitLen, wTup, wLst, wSub, wSubM, wLenM, wCut, pNone, pSome, iSeq, iRange, iRev, frz, appW, augSubW, List.replicate_succ, List.replicate_zero, List.cons_append, List.nil_append, List.set_cons_succ, List.set_cons_zero, List.length_cons, List.length_nil, q_rv2, q_rv3, List.reverse_nil, q_add, q_sub, q_mul, q_fdiv, q_mod, q_shl, q_shr, q_and, q_or, q_xor, q_pow, q_cat, q_catv, q_rep, q_repv, q_eq, q_ne, q_lt, q_le, q_eql, q_nel, q_neg, q_inv, q_tri, q_unpt, q_unpi, q_set, q_set0, q_nxt, q_ret, q_rret, q_rnxt, q_getn, q_get0, q_pi, q_pl, q_pv, q_pt, q_pb, q_pn, q_itl, q_divmod, q_wn, q_wr, q_ln, q_lr, q_aadd, q_asub, q_ashl, q_ashr, q_aor, q_len, q_lenv, q_thaw, q_frz, q_frzv, q_subi, q_subv, q_subt, q_cuti, q_cutv, q_part, q_itv, q_itt, q_rev, q_rng1, q_rng3, q_lst0, wComp, wOne, wNst, wTst, sSwapM, augSubW, q_cutp, q_lst1, q_lst2, iZip, wLRange, wIndex, sAppNone, isM, itemsM, q_zip, q_lrange, q_sorted, q_lstl, q_lstb, q_index, q_isn, q_isi, q_eqt, q_net, q_nev, q_frzv, List.map]); (try simp only [V.isNone, true_and, and_true, Int.natCast_nonneg, decide_eq_true_eq, decide_eq_false_iff_not, List.append_nil, List.length_cons, List.length_nil, q_getn, q_get0, q_pi, q_pl, q_pv, q_pt, q_pb, q_pn, List.forall_mem_cons, List.map_cons, List.map_nil, forall_const, List.mem_nil_iff, false_implies, implies_true, List.not_mem_nil])
      exact tail 1 _ _ (by decide) ⟨fun h => by (clear hl hr hP hos hrd hx r1 r2 hj hpad hbits hc hq hq0 hb2 hval hpl G hvs4 hvs3 hvs2 hvs1 hvs hlt hi' hv e6 ecut mem ha hb' hc' hd he hf tail hc1; lia), fun h => by (clear hl hr hP hos hrd hx r1 r2 hj hpad hbits hc hq0 hb2 hval hpl G hvs4 hvs3 hvs2 hvs1 hvs hlt hi' hv e6 ecut mem ha hb' hc' hd he hf tail; lia)⟩ (by (clear hl hr hP hos hrd hx r1 r2 hj hpad hbits hc hq hq0 hb2 hval hpl G hvs4 hvs3 hvs2 hvs1 hvs hlt hi' hv e6 ecut mem ha hb' hc' hd he hf tail hc1; lia)) fun part' vs h1 h2 h3 => ⟨part', vs, rfl, h1, h2, h3⟩
    · rintro st ⟨part, vs, rfl, hvs, hpl, G⟩
      rw [List.length_map, List.length_map, List.length_range] at hpl G
      simp only [List.cons_append, List.nil_append, q_nxt, bNil, q_ln]
      refine ⟨os ++ part, _, rfl, by simp; omega, by rw [List.length_append]; (clear hl hr hP hrd hvs2 hvs1 hx hv r1 r2 hj hpad hbits hc hq hb2 hval hvs G; lia), fun t => ?_⟩
      rw [List.take_add_one, hx, List.map_append, List.append_assoc]
      refine rdsN_append (hrd _) ?_
      exact ⟨t, by rw [grp_end hq0.1 hq G t, hval], rfl⟩
  · rintro st ⟨os, vs, rfl, hvs, hos, hrd⟩
    obtain ⟨v2, v3, v4, v5, v6, vs, rfl, hvs1⟩ := len5 (k := 5) hvs
    obtain ⟨v7, v8, v9, v10, v11, vs, rfl, hvs2⟩ := len5 (k := 0) hvs1
    obtain rfl := len_z hvs2
    rw [List.length_map] at hos hrd
    rw [List.take_length] at hrd
    unfold W_oct_0_2
    simp only [List.cons_append, List.nil_append]
    (try dsimp only [xNil, xCons, xLift, xNext, xWhile, xFor, sTry, sIter, sRetOwn, q_xnxt, q_xret, appRead, wSubK, wIf, sSetSub, sCallM, setSubW, Int.toNat_natCast, bCons, bNil, sIte, sRet, sRetNone, sAssign, sAssignM, sAug, sUnpack, sSwap, sAppend, sReverse, sAugSub, sNever, sFrz, sWiden, sFor, sWhile, cCmp, cPlain, wName, wInt, wBool, wNone, wBin, wCmp, wUn, wNil, wCons, wCall, wBitLen, wTup, wLst, wSub, wSubM, wLenM, wCut, pNone, pSome, iSeq, iRange, iRev, frz, appW, augSubW, List.replicate_succ, List.replicate_zero, List.cons_append, List.nil_append, List.set_cons_succ, List.set_cons_zero, List.length_cons, List.length_nil, q_rv2, q_rv3, List.reverse_nil, q_add, q_sub, q_mul, q_fdiv, q_mod, q_shl, q_shr, q_and, q_or, q_xor, q_pow, q_cat, q_catv, q_rep, q_repv, q_eq, q_ne, q_lt, q_le, q_eql, q_nel, q_neg, q_inv, q_tri, q_unpt, q_unpi, q_set, q_set0, q_nxt, q_ret, q_rret, q_rnxt, q_getn, q_get0, q_pi, q_pl, q_pv, q_pt, q_pb, q_pn, q_itl, q_divmod, q_wn, q_wr, q_ln, q_lr, q_aadd, q_asub, q_ashl, q_ashr, q_aor, q_len, q_lenv, q_thaw, q_frz, q_frzv, q_subi, q_subv, q_subt, q_cuti, q_cutv, q_part, q_itv, q_itt, q_rev, q_rng1, q_rng3, q_lst0, wComp, wOne, wNst, wTst, sSwapM, augSubW, q_cutp, q_lst1, q_lst2, iZip, wLRange, wIndex, sAppNone, isM, itemsM, q_zip, q_lrange, q_sorted, q_lstl, q_lstb, q_index, q_isn, q_isi, q_eqt, q_net, q_nev, q_frzv, List.map]); (try simp only [V.isNone, true_and, and_true, Int.natCast_nonneg, decide_eq_true_eq, decide_eq_false_iff_not, List.append_nil, List.length_cons, List.length_nil, q_getn, q_get0, q_pi, q_pl, q_pv, q_pt, q_pb, q_pn, List.forall_mem_cons, List.map_cons, List.map_nil, forall_const, List.mem_nil_iff, false_implies, implies_true, List.not_mem_nil])
    exact ⟨by decide, by (clear hr hP hrd hvs2 hvs1 hvs; lia), hP os (by (clear hr hP hrd hvs2 hvs1 hvs; lia)) hrd⟩
theorem pc_oct (C : Cx) (hK : C.K = KK C.w.params) : PC C 1 (.ref 92) T_oct := by
  refine PC.mono (PC.fn (n := 0) (W := W_oct) (fnok_oct C hK) fun A L h₀ ok => ex_oct C hK A L h₀ ok) ?_
  rintro vs P ⟨rs, rfl, h1, h2, hP⟩
  exact ⟨rfl, w_oct h1 h2 hP⟩
end Mine
end
section
open PySem PySem.Calls PyProof.Rows PySem.W PySem.Spec PySem.SeqAt
set_option Elab.async false
set_option maxRecDepth 100000
set_option linter.unusedVariables false
set_option linter.unusedSimpArgs false
namespace Mine
theorem pvR69 : pvR [69] = none := by
  show pvGo [] _ 69 = none
  exact pvGo_nil (by decide)
theorem pvGo_len : ∀ {r : List Int} {acc b v : Int} {r' : List Int}, pvGo r acc b = some (v, r') → r'.length ≤ r.length
  | [], acc, b, v, r', h => by
    rw [pvGo] at h; split at h
    · injection h with h; injection h with _ h; subst h; exact Nat.le_refl _
    · cases h
  | b' :: r, acc, b, v, r', h => by
    rw [pvGo] at h; split at h
    · injection h with h; injection h with _ h; subst h; exact Nat.le_refl _
    · have := pvGo_len h; simp; (clear h; lia)
theorem pvR_len {l : List Int} {v : Int} {r : List Int} (h : pvR l = some (v, r)) : r.length < l.length := by
  cases l with
  | nil => cases h
  | cons b t => have := pvGo_len (show pvGo t _ _ = _ from h); simp; (clear h; lia)
noncomputable def T_rd2 (vs : List V) (P : V → Prop) : Prop := ∃ (oct : List Int) (vals : List Nat), vs = [.ints oct, .int ((vals.length + 2 : Nat) : Int)] ∧ oct.length ≤ 2 ^ 13 ∧ vals.length ≤ 2 ^ 10 ∧ rdsN vals oct [69] ∧
  P (.list (vals.map (fun v => V.int ((v : Nat) : Int)) ++ [.none, .none]))
theorem w_rd2 {oct : List Int} {vals : List Nat} (hl : oct.length ≤ 2 ^ 13) (hv : vals.length ≤ 2 ^ 10) (hr : rdsN vals oct [69]) {P : V → Prop} (hP : P (.list (vals.map (fun v => V.int ((v : Nat) : Int)) ++ [.none, .none]))) :
    W_rd2 T_pv ([.ints oct, .int ((vals.length + 2 : Nat) : Int)] ++ List.replicate 3 .unb) (retP P) := by
  unfold W_rd2
  (try dsimp only [xNil, xCons, xLift, xNext, xWhile, xFor, sTry, sIter, sRetOwn, q_xnxt, q_xret, appRead, wSubK, wIf, sSetSub, sCallM, setSubW, Int.toNat_natCast, bCons, bNil, sIte, sRet, sRetNone, sAssign, sAssignM, sAug, sUnpack, sSwap, sAppend, sReverse, sAugSub, sNever, sFrz, sWiden, sFor, sWhile, cCmp, cPlain, wName, wInt, wBool, wNone, wBin, wCmp, wUn, wNil, wCons, wCall, wBitLen, wTup, wLst, wSub, wSubM, wLenM, wCut, pNone, pSome, iSeq, iRange, iRev, frz, appW, augSubW, List.replicate_succ, List.replicate_zero, List.cons_append, List.nil_append, List.set_cons_succ, List.set_cons_zero, List.length_cons, List.length_nil, q_rv2, q_rv3, List.reverse_nil, q_add, q_sub, q_mul, q_fdiv, q_mod, q_shl, q_shr, q_and, q_or, q_xor, q_pow, q_cat, q_catv, q_rep, q_repv, q_eq, q_ne, q_lt, q_le, q_eql, q_nel, q_neg, q_inv, q_tri, q_unpt, q_unpi, q_set, q_set0, q_nxt, q_ret, q_rret, q_rnxt, q_getn, q_get0, q_pi, q_pl, q_pv, q_pt, q_pb, q_pn, q_itl, q_divmod, q_wn, q_wr, q_ln, q_lr, q_aadd, q_asub, q_ashl, q_ashr, q_aor, q_len, q_lenv, q_thaw, q_frz, q_frzv, q_subi, q_subv, q_subt, q_cuti, q_cutv, q_part, q_itv, q_itt, q_rev, q_rng1, q_rng3, q_lst0, wComp, wOne, wNst, wTst, sSwapM, augSubW, q_cutp, q_lst1, q_lst2, iZip, wLRange, wIndex, sAppNone, isM, itemsM, q_zip, q_lrange, q_sorted, q_lstl, q_lstb, q_index, q_isn, q_isi, q_eqt, q_net, q_nev, q_frzv, List.map]); (try simp only [V.isNone, true_and, and_true, Int.natCast_nonneg, decide_eq_true_eq, decide_eq_false_iff_not, List.append_nil, List.length_cons, List.length_nil, q_getn, q_get0, q_pi, q_pl, q_pv, q_pt, q_pb, q_pn, List.forall_mem_cons, List.map_cons, List.map_nil, forall_const, List.mem_nil_iff, false_implies, implies_true, List.not_mem_nil])
  intro a
  refine ⟨by decide, ?_⟩
  unfold W_rd2_2
  (try dsimp only [xNil, xCons, xLift, xNext, xWhile, xFor, sTry, sIter, sRetOwn, q_xnxt, q_xret, appRead, wSubK, wIf, sSetSub, sCallM, setSubW, Int.toNat_natCast, bCons, bNil, sIte, sRet, sRetNone, sAssign, sAssignM, sAug, sUnpack, sSwap, sAppend, sReverse, sAugSub, sNever, sFrz, sWiden, sFor, sWhile, cCmp, cPlain, wName, wInt, wBool, wNone, wBin, wCmp, wUn, wNil, wCons, wCall, wBitLen, wTup, wLst, wSub, wSubM, wLenM, wCut, pNone, pSome, iSeq, iRange, iRev, frz, appW, augSubW, List.replicate_succ, List.replicate_zero, List.cons_append, List.nil_append, List.set_cons_succ, List.set_cons_zero, List.length_cons, List.length_nil, q_rv2, q_rv3, List.reverse_nil, q_add, q_sub, q_mul, q_fdiv, q_mod, q_shl, q_shr, q_and, q_or, q_xor, q_pow, q_cat, q_catv, q_rep, q_repv, q_eq, q_ne, q_lt, q_le, q_eql, q_nel, q_neg, q_inv, q_tri, q_unpt, q_unpi, q_set, q_set0, q_nxt, q_ret, q_rret, q_rnxt, q_getn, q_get0, q_pi, q_pl, q_pv, q_pt, q_pb, q_pn, q_itl, q_divmod, q_wn, q_wr, q_ln, q_lr, q_aadd, q_asub, q_ashl, q_ashr, q_aor, q_len, q_lenv, q_thaw, q_frz, q_frzv, q_subi, q_subv, q_subt, q_cuti, q_cutv, q_part, q_itv, q_itt, q_rev, q_rng1, q_rng3, q_lst0, wComp, wOne, wNst, wTst, sSwapM, augSubW, q_cutp, q_lst1, q_lst2, iZip, wLRange, wIndex, sAppNone, isM, itemsM, q_zip, q_lrange, q_sorted, q_lstl, q_lstb, q_index, q_isn, q_isi, q_eqt, q_net, q_nev, q_frzv, List.map]); (try simp only [V.isNone, true_and, and_true, Int.natCast_nonneg, decide_eq_true_eq, decide_eq_false_iff_not, List.append_nil, List.length_cons, List.length_nil, q_getn, q_get0, q_pi, q_pl, q_pv, q_pt, q_pb, q_pn, List.forall_mem_cons, List.map_cons, List.map_nil, forall_const, List.mem_nil_iff, false_implies, implies_true, List.not_mem_nil])
  refine ⟨small_nat (by (clear hl hr hP; lia)), fun j st => ∃ (v4 : V), (∃ rest, st = [.ints oct, .int ((vals.length + 2 : Nat) : Int), .mit a rest, .mints (castL (vals.take j)), v4] ∧ j ≤ vals.length ∧ rest.length ≤ 2 ^ 13 ∧ rdsN (vals.drop j) rest [69]) ∨
    (st = [.ints oct, .int ((vals.length + 2 : Nat) : Int), .mit a [], .mlist (vals.map (fun v => V.int ((v : Nat) : Int)) ++ [.none]), v4] ∧ j = vals.length + 1) ∨
    (st = [.ints oct, .int ((vals.length + 2 : Nat) : Int), .mit a [], .mlist (vals.map (fun v => V.int ((v : Nat) : Int)) ++ [.none, .none]), v4] ∧ j = vals.length + 2), ⟨.unb, .inl ⟨oct, rfl, by (clear hl hr hP; lia), hl, hr⟩⟩, ?_, ?_⟩
  · rintro j v st hv' ⟨v4, hst⟩
    obtain ⟨hj, rfl⟩ := range_get hv'
    unfold W_rd2_try
    rcases hst with ⟨rest, rfl, hj', hrl, hrd⟩ | ⟨rfl, rfl⟩ | ⟨rfl, rfl⟩
    · (try dsimp only [xNil, xCons, xLift, xNext, xWhile, xFor, sTry, sIter, sRetOwn, q_xnxt, q_xret, appRead, wSubK, wIf, sSetSub, sCallM, setSubW, Int.toNat_natCast, bCons, bNil, sIte, sRet, sRetNone, sAssign, sAssignM, sAug, sUnpack, sSwap, sAppend, sReverse, sAugSub, sNever, sFrz, sWiden, sFor, sWhile, cCmp, cPlain, wName, wInt, wBool, wNone, wBin, wCmp, wUn, wNil, wCons, wCall, wBitLen, wTup, wLst, wSub, wSubM, wLenM, wCut, pNone, pSome, iSeq, iRange, iRev, frz, appW, augSubW, List.replicate_succ, List.replicate_zero, List.cons_append, List.nil_append, List.set_cons_succ, List.set_cons_zero, List.length_cons, List.length_nil, q_rv2, q_rv3, List.reverse_nil, q_add, q_sub, q_mul, q_fdiv, q_mod, q_shl, q_shr, q_and, q_or, q_xor, q_pow, q_cat, q_catv, q_rep, q_repv, q_eq, q_ne, q_lt, q_le, q_eql, q_nel, q_neg, q_inv, q_tri, q_unpt, q_unpi, q_set, q_set0, q_nxt, q_ret, q_rret, q_rnxt, q_getn, q_get0, q_pi, q_pl, q_pv, q_pt, q_pb, q_pn, q_itl, q_divmod, q_wn, q_wr, q_ln, q_lr, q_aadd, q_asub, q_ashl, q_ashr, q_aor, q_len, q_lenv, q_thaw, q_frz, q_frzv, q_subi, q_subv, q_subt, q_cuti, q_cutv, q_part, q_itv, q_itt, q_rev, q_rng1, q_rng3, q_lst0, wComp, wOne, wNst, wTst, sSwapM, augSubW, q_cutp, q_lst1, q_lst2, iZip, wLRange, wIndex, sAppNone, isM, itemsM, q_zip, q_lrange, q_sorted, q_lstl, q_lstb, q_index, q_isn, q_isi, q_eqt, q_net, q_nev, q_frzv, List.map]); (try simp only [V.isNone, true_and, and_true, Int.natCast_nonneg, decide_eq_true_eq, decide_eq_false_iff_not, List.append_nil, List.length_cons, List.length_nil, q_getn, q_get0, q_pi, q_pl, q_pv, q_pt, q_pb, q_pn, List.forall_mem_cons, List.map_cons, List.map_nil, forall_const, List.mem_nil_iff, false_implies, implies_true, List.not_mem_nil])
      refine ⟨by rw [castL_len, List.length_take]; (clear hl hr hP hj hv' hrl hrd; lia), by (clear hl hv hr hP hj hv' hj' hrd; lia), ?_⟩
      cases hd : vals.drop j with
      | nil =>
        rw [hd] at hrd
        obtain rfl : rest = [69] := hrd
        have hje : vals.length ≤ j := List.drop_eq_nil_iff.mp hd
        rw [pvR69]
        (try dsimp only [xNil, xCons, xLift, xNext, xWhile, xFor, sTry, sIter, sRetOwn, q_xnxt, q_xret, appRead, wSubK, wIf, sSetSub, sCallM, setSubW, Int.toNat_natCast, bCons, bNil, sIte, sRet, sRetNone, sAssign, sAssignM, sAug, sUnpack, sSwap, sAppend, sReverse, sAugSub, sNever, sFrz, sWiden, sFor, sWhile, cCmp, cPlain, wName, wInt, wBool, wNone, wBin, wCmp, wUn, wNil, wCons, wCall, wBitLen, wTup, wLst, wSub, wSubM, wLenM, wCut, pNone, pSome, iSeq, iRange, iRev, frz, appW, augSubW, List.replicate_succ, List.replicate_zero, List.cons_append, List.nil_append, List.set_cons_succ, List.set_cons_zero, List.length_cons, List.length_nil, q_rv2, q_rv3, List.reverse_nil, q_add, q_sub, q_mul, q_fdiv, q_mod, q_shl, q_shr, q_and, q_or, q_xor, q_pow, q_cat, q_catv, q_rep, q_repv, q_eq, q_ne, q_lt, q_le, q_eql, q_nel, q_neg, q_inv, q_tri, q_unpt, q_unpi, q_set, q_set0, q_nxt, q_ret, q_rret, q_rnxt, q_getn, q_get0, q_pi, q_pl, q_pv, q_pt, q_pb, q_pn, q_itl, q_divmod, q_wn, q_wr, q_ln, q_lr, q_aadd, q_asub, q_ashl, q_ashr, q_aor, q_len, q_lenv, q_thaw, q_frz, q_frzv, q_subi, q_subv, q_subt, q_cuti, q_cutv, q_part, q_itv, q_itt, q_rev, q_rng1, q_rng3, q_lst0, wComp, wOne, wNst, wTst, sSwapM, augSubW, q_cutp, q_lst1, q_lst2, iZip, wLRange, wIndex, sAppNone, isM, itemsM, q_zip, q_lrange, q_sorted, q_lstl, q_lstb, q_index, q_isn, q_isi, q_eqt, q_net, q_nev, q_frzv, List.map]); (try simp only [V.isNone, true_and, and_true, Int.natCast_nonneg, decide_eq_true_eq, decide_eq_false_iff_not, List.append_nil, List.length_cons, List.length_nil, q_getn, q_get0, q_pi, q_pl, q_pv, q_pt, q_pb, q_pn, List.forall_mem_cons, List.map_cons, List.map_nil, forall_const, List.mem_nil_iff, false_implies, implies_true, List.not_mem_nil])
        have e1 : (castL (vals.take j)).map V.int = vals.map fun v => V.int ((v : Nat) : Int) := by rw [List.take_of_length_le hje]; unfold castL; rw [List.map_map]; rfl
        rw [e1]
        exact ⟨by rw [List.length_map]; (clear hl hr hP hj hv' hd hrl e1; lia), .int (j : Int), .inr (.inl ⟨rfl, by (clear hl hv hr hP hj hv' hd hrl e1; lia)⟩)⟩
      | cons x xs =>
        rw [hd] at hrd
        obtain ⟨r, e, hrd'⟩ := hrd
        rw [e]
        have := pvR_len e
        simp only
        have e1 : castL (vals.take (j + 1)) = castL (vals.take j) ++ [(x : Int)] := by
          have hx : vals[j]? = some x := by
            have := congrArg (fun l => l[0]?) hd
            simpa [List.getElem?_drop] using this
          rw [List.take_add_one, hx]; unfold castL; simp
        have hlen : j + 1 ≤ vals.length := by
          have := congrArg List.length hd
          rw [List.length_drop, List.length_cons] at this; (clear hl hv hr hP hj hv' hrl hd e hrd' e1; lia)
        refine ⟨_, rfl, .int (j : Int), .inl ⟨r, by rw [e1], hlen, by (clear hl hv hr hP hj hv' hj' hd e hrd' e1 hlen; lia), ?_⟩⟩
        rw [← List.drop_drop, hd]; exact hrd'
    · (try dsimp only [xNil, xCons, xLift, xNext, xWhile, xFor, sTry, sIter, sRetOwn, q_xnxt, q_xret, appRead, wSubK, wIf, sSetSub, sCallM, setSubW, Int.toNat_natCast, bCons, bNil, sIte, sRet, sRetNone, sAssign, sAssignM, sAug, sUnpack, sSwap, sAppend, sReverse, sAugSub, sNever, sFrz, sWiden, sFor, sWhile, cCmp, cPlain, wName, wInt, wBool, wNone, wBin, wCmp, wUn, wNil, wCons, wCall, wBitLen, wTup, wLst, wSub, wSubM, wLenM, wCut, pNone, pSome, iSeq, iRange, iRev, frz, appW, augSubW, List.replicate_succ, List.replicate_zero, List.cons_append, List.nil_append, List.set_cons_succ, List.set_cons_zero, List.length_cons, List.length_nil, q_rv2, q_rv3, List.reverse_nil, q_add, q_sub, q_mul, q_fdiv, q_mod, q_shl, q_shr, q_and, q_or, q_xor, q_pow, q_cat, q_catv, q_rep, q_repv, q_eq, q_ne, q_lt, q_le, q_eql, q_nel, q_neg, q_inv, q_tri, q_unpt, q_unpi, q_set, q_set0, q_nxt, q_ret, q_rret, q_rnxt, q_getn, q_get0, q_pi, q_pl, q_pv, q_pt, q_pb, q_pn, q_itl, q_divmod, q_wn, q_wr, q_ln, q_lr, q_aadd, q_asub, q_ashl, q_ashr, q_aor, q_len, q_lenv, q_thaw, q_frz, q_frzv, q_subi, q_subv, q_subt, q_cuti, q_cutv, q_part, q_itv, q_itt, q_rev, q_rng1, q_rng3, q_lst0, wComp, wOne, wNst, wTst, sSwapM, augSubW, q_cutp, q_lst1, q_lst2, iZip, wLRange, wIndex, sAppNone, isM, itemsM, q_zip, q_lrange, q_sorted, q_lstl, q_lstb, q_index, q_isn, q_isi, q_eqt, q_net, q_nev, q_frzv, List.map]); (try simp only [V.isNone, true_and, and_true, Int.natCast_nonneg, decide_eq_true_eq, decide_eq_false_iff_not, List.append_nil, List.length_cons, List.length_nil, q_getn, q_get0, q_pi, q_pl, q_pv, q_pt, q_pb, q_pn, List.forall_mem_cons, List.map_cons, List.map_nil, forall_const, List.mem_nil_iff, false_implies, implies_true, List.not_mem_nil])
      refine ⟨by rw [List.length_append, List.length_map]; simp; (clear hl hr hP hj hv'; lia), by decide, by rw [List.length_append, List.length_map]; simp; omega, .int ((vals.length + 1 : Nat) : Int), .inr (.inr ?_)⟩
      rw [List.append_assoc]; rfl
    · (clear hl hv hr hP hv'; lia)
  · rintro st ⟨v4, hst⟩
    rw [List.length_map, rangeL_len] at hst
    rcases hst with ⟨rest, rfl, hj', hrl, hrd⟩ | ⟨rfl, hj⟩ | ⟨rfl, hj⟩
    · (clear hl hv hr hP hrl hrd; lia)
    · (clear hl hv hr hP; lia)
    · (try dsimp only [xNil, xCons, xLift, xNext, xWhile, xFor, sTry, sIter, sRetOwn, q_xnxt, q_xret, appRead, wSubK, wIf, sSetSub, sCallM, setSubW, Int.toNat_natCast, bCons, bNil, sIte, sRet, sRetNone, sAssign, sAssignM, sAug, sUnpack, sSwap, sAppend, sReverse, sAugSub, sNever, sFrz, sWiden, sFor, sWhile, cCmp, cPlain, wName, wInt, wBool, wNone, wBin, wCmp, wUn, wNil, wCons, wCall, wBitLen, wTup, wLst, wSub, wSubM, wLenM, wCut, pNone, pSome, iSeq, iRange, iRev, frz, appW, augSubW, List.replicate_succ, List.replicate_zero, List.cons_append, List.nil_append, List.set_cons_succ, List.set_cons_zero, List.length_cons, List.length_nil, q_rv2, q_rv3, List.reverse_nil, q_add, q_sub, q_mul, q_fdiv, q_mod, q_shl, q_shr, q_and, q_or, q_xor, q_pow, q_cat, q_catv, q_rep, q_repv, q_eq, q_ne, q_lt, q_le, q_eql, q_nel, q_neg, q_inv, q_tri, q_unpt, q_unpi, q_set, q_set0, q_nxt, q_ret, q_rret, q_rnxt, q_getn, q_get0, q_pi, q_pl, q_pv, q_pt, q_pb, q_pn, q_itl, q_divmod, q_wn, q_wr, q_ln, q_lr, q_aadd, q_asub, q_ashl, q_ashr, q_aor, q_len, q_lenv, q_thaw, q_frz, q_frzv, q_subi, q_subv, q_subt, q_cuti, q_cutv, q_part, q_itv, q_itt, q_rev, q_rng1, q_rng3, q_lst0, wComp, wOne, wNst, wTst, sSwapM, augSubW, q_cutp, q_lst1, q_lst2, iZip, wLRange, wIndex, sAppNone, isM, itemsM, q_zip, q_lrange, q_sorted, q_lstl, q_lstb, q_index, q_isn, q_isi, q_eqt, q_net, q_nev, q_frzv, List.map]); (try simp only [V.isNone, true_and, and_true, Int.natCast_nonneg, decide_eq_true_eq, decide_eq_false_iff_not, List.append_nil, List.length_cons, List.length_nil, q_getn, q_get0, q_pi, q_pl, q_pv, q_pt, q_pb, q_pn, List.forall_mem_cons, List.map_cons, List.map_nil, forall_const, List.mem_nil_iff, false_implies, implies_true, List.not_mem_nil])
      exact hP
theorem pcx_rd2 (C : Cx) (hK : C.K = KK C.w.params) : PCX C 2 (.ref 99) T_rd2 := by
  intro l hl
  refine PCA.mono (PCA.fn (n := 1) (fnok_rd2 (frC C l hl) hK) fun A L h₀ hz ok => ex_rd2 C hK (pci_pv C hK) (by decide) l hl A L h₀ hz ok) ?_
  rintro vs P ⟨oct, vals, rfl, h1, h2, h3, hP⟩
  exact ⟨rfl, w_rd2 h1 h2 h3 hP⟩
end Mine
end
section
open PySem PySem.Calls PyProof.Rows PySem.W PySem.Spec PySem.SeqAt
set_option Elab.async false
set_option maxRecDepth 100000
set_option linter.unusedVariables false
set_option linter.unusedSimpArgs false
namespace Mine
theorem noPyS {a b : Int} (h0 : 0 ≤ b) (h : b < 2 ^ 30) : Builtin.divisionGoesByPylong a b = false := by
  unfold Builtin.divisionGoesByPylong
  simp only [Bool.and_eq_false_iff, decide_eq_false_iff_not]
  left
  obtain ⟨n, rfl⟩ := Int.eq_ofNat_of_zero_le h0
  have hn : n < 2 ^ 30 := by lia
  split
  · (clear h0 h hn; lia)
  · rename_i hz
    have hz : n ≠ 0 := fun e => by subst e; exact hz rfl
    have : (n : Int).natAbs.log2 < 30 := by rw [Int.natAbs_natCast]; exact (Nat.log2_lt hz).mpr hn
    (clear h0 h hn hz; lia)
noncomputable abbrev WI (W : (List V → (V → Prop) → Prop) → (List V → (V → Prop) → Prop) → (List V → (V → Prop) → Prop) → (List V → (V → Prop) → Prop) → (List V → (V → Prop) → Prop) → (List V → (V → Prop) → Prop) → (List V → (V → Prop) → Prop) → WS) : WS := W T_goes T_rows T_told T_walk T_oct T_idm T_rd2
theorem rangeDown (m : Nat) (hm : m ≤ 6) : rangeL ((m : Int) - 1) (-1) (-1) = (List.range m).map fun j => ((m - 1 - j : Nat) : Int) := by
  have : m = 0 ∨ m = 1 ∨ m = 2 ∨ m = 3 ∨ m = 4 ∨ m = 5 ∨ m = 6 := by lia
  rcases this with rfl | rfl | rfl | rfl | rfl | rfl | rfl <;> decide +kernel
theorem modN (x : Int) {n : Nat} (hn : 0 < n) : ∃ p : Nat, x.fmod (n : Int) = (p : Int) ∧ p < n := by
  rw [fmod_emod (by lia)]
  have h1 := Int.emod_nonneg x (b := (n : Int)) (by lia)
  have h2 := Int.emod_lt_of_pos x (b := (n : Int)) (by (clear h1; lia))
  exact ⟨(x % (n : Int)).toNat, by (clear hn h2; lia), by (clear hn; lia)⟩
theorem band1 (n : Nat) : Builtin.bitAnd (n : Int) 1 = ((n % 2 : Nat) : Int) := by
  have := band_nat n 1
  rw [Nat.and_one_is_mod] at this; exact this
theorem fdiv_pow (j k : Nat) : (j : Int).fdiv (2 ^ k) = ((j / 2 ^ k : Nat) : Int) := by
  rw [fdiv_ediv (Int.le_of_lt (pow2_pos k)), ← cast_pow2]; simp
theorem smallDown (m : Nat) (hm : m ≤ 6) : Builtin.Range.small ((m : Int) - 1) (-1) (-1) = true ∧ Builtin.divisionGoesByPylong (-1 - ((m : Int) - 1)) (-1) = false := by
  have : m = 0 ∨ m = 1 ∨ m = 2 ∨ m = 3 ∨ m = 4 ∨ m = 5 ∨ m = 6 := by omega
  rcases this with rfl | rfl | rfl | rfl | rfl | rfl | rfl <;> decide +kernel
noncomputable def bitsD (m r : Nat) : List Nat := (List.range m).map fun j => r / 2 ^ (m - 1 - j) % 2
theorem w_wish {h : Nat} (h1 : 1 ≤ h) (h6 : h ≤ 6) {sc : List Int} {w : Int} {run : List Nat} (hb : ∀ b ∈ run, b < 2) (hl : run.length ≤ 18) {vs : List V} (hvs : vs.length = 14) {K : Out → List V → Prop}
    (hK : ∀ (run' : List Nat) (vs' : List V), vs'.length = 14 → (∀ b ∈ run', b < 2) → run'.length ≤ run.length + 6 → run.length ≤ run'.length → (w.fmod 7 = 6 → run'.length = run.length + 6) → K .nxt ([.ints sc, .int ((2 * h : Nat) : Int), goesV (2 * h), .ints (castL run'), .int w] ++ vs')) :
    WI W_law_1_0 ([.ints sc, .int ((2 * h : Nat) : Int), goesV (2 * h), .ints (castL run), .int w] ++ vs) K := by
  obtain ⟨v5, v6, v7, v8, v9, vs, rfl, hvs1⟩ := len5 (k := 9) hvs
  obtain ⟨v10, v11, v12, v13, v14, vs, rfl, hvs2⟩ := len5 (k := 4) hvs1
  obtain ⟨v15, vs, rfl, hvs3⟩ := len_s (k := 3) hvs2
  obtain ⟨v16, vs, rfl, hvs4⟩ := len_s (k := 2) hvs3
  obtain ⟨v17, vs, rfl, hvs5⟩ := len_s (k := 1) hvs4
  obtain ⟨v18, vs, rfl, hvs6⟩ := len_s (k := 0) hvs5
  obtain rfl := len_z hvs6
  unfold WI W_law_1_0
  simp only [List.cons_append, List.nil_append]
  (try dsimp only [xNil, xCons, xLift, xNext, xWhile, xFor, sTry, sIter, sRetOwn, q_xnxt, q_xret, appRead, wSubK, wIf, sSetSub, sCallM, setSubW, Int.toNat_natCast, bCons, bNil, sIte, sRet, sRetNone, sAssign, sAssignM, sAug, sUnpack, sSwap, sAppend, sReverse, sAugSub, sNever, sFrz, sWiden, sFor, sWhile, cCmp, cPlain, wName, wInt, wBool, wNone, wBin, wCmp, wUn, wNil, wCons, wCall, wBitLen, wTup, wLst, wSub, wSubM, wLenM, wCut, pNone, pSome, iSeq, iRange, iRev, frz, appW, augSubW, List.replicate_succ, List.replicate_zero, List.cons_append, List.nil_append, List.set_cons_succ, List.set_cons_zero, List.length_cons, List.length_nil, q_rv2, q_rv3, List.reverse_nil, q_add, q_sub, q_mul, q_fdiv, q_mod, q_shl, q_shr, q_and, q_or, q_xor, q_pow, q_cat, q_catv, q_rep, q_repv, q_eq, q_ne, q_lt, q_le, q_eql, q_nel, q_neg, q_inv, q_tri, q_unpt, q_unpi, q_set, q_set0, q_nxt, q_ret, q_rret, q_rnxt, q_getn, q_get0, q_pi, q_pl, q_pv, q_pt, q_pb, q_pn, q_itl, q_divmod, q_wn, q_wr, q_ln, q_lr, q_aadd, q_asub, q_ashl, q_ashr, q_aor, q_len, q_lenv, q_thaw, q_frz, q_frzv, q_subi, q_subv, q_subt, q_cuti, q_cutv, q_part, q_itv, q_itt, q_rev, q_rng1, q_rng3, q_lst0, wComp, wOne, wNst, wTst, sSwapM, augSubW, q_cutp, q_lst1, q_lst2, iZip, wLRange, wIndex, sAppNone, isM, itemsM, q_zip, q_lrange, q_sorted, q_lstl, q_lstb, q_index, q_isn, q_isi, q_eqt, q_net, q_nev, q_frzv, List.map]); (try simp only [V.isNone, true_and, and_true, Int.natCast_nonneg, decide_eq_true_eq, decide_eq_false_iff_not, List.append_nil, List.length_cons, List.length_nil, q_getn, q_get0, q_pi, q_pl, q_pv, q_pt, q_pb, q_pn, List.forall_mem_cons, List.map_cons, List.map_nil, forall_const, List.mem_nil_iff, false_implies, implies_true, List.not_mem_nil])
  obtain ⟨m, em, hm⟩ := modN w (n := 7) (by decide)
  generalize w.fdiv 7 = left
  obtain ⟨p, ep, hp⟩ := modN left (n := 2 * h) (by (clear hb hl hK hvs6 hvs5 hvs4 hvs3 hvs2 hvs1 hvs em hm; lia))
  obtain ⟨g, eg, hg⟩ := modN (left.fdiv ((2 * h : Nat) : Int)) (n := 2 * h) (by (clear hb hl hK hvs6 hvs5 hvs4 hvs3 hvs2 hvs1 hvs em hm ep hp; lia))
  rw [show (7 : Int) = ((7 : Nat) : Int) from rfl, em]
  refine ⟨by decide, noPyS (by decide) (by decide), by decide, by decide, ?_⟩
  unfold W_law_1_1
  (try dsimp only [xNil, xCons, xLift, xNext, xWhile, xFor, sTry, sIter, sRetOwn, q_xnxt, q_xret, appRead, wSubK, wIf, sSetSub, sCallM, setSubW, Int.toNat_natCast, bCons, bNil, sIte, sRet, sRetNone, sAssign, sAssignM, sAug, sUnpack, sSwap, sAppend, sReverse, sAugSub, sNever, sFrz, sWiden, sFor, sWhile, cCmp, cPlain, wName, wInt, wBool, wNone, wBin, wCmp, wUn, wNil, wCons, wCall, wBitLen, wTup, wLst, wSub, wSubM, wLenM, wCut, pNone, pSome, iSeq, iRange, iRev, frz, appW, augSubW, List.replicate_succ, List.replicate_zero, List.cons_append, List.nil_append, List.set_cons_succ, List.set_cons_zero, List.length_cons, List.length_nil, q_rv2, q_rv3, List.reverse_nil, q_add, q_sub, q_mul, q_fdiv, q_mod, q_shl, q_shr, q_and, q_or, q_xor, q_pow, q_cat, q_catv, q_rep, q_repv, q_eq, q_ne, q_lt, q_le, q_eql, q_nel, q_neg, q_inv, q_tri, q_unpt, q_unpi, q_set, q_set0, q_nxt, q_ret, q_rret, q_rnxt, q_getn, q_get0, q_pi, q_pl, q_pv, q_pt, q_pb, q_pn, q_itl, q_divmod, q_wn, q_wr, q_ln, q_lr, q_aadd, q_asub, q_ashl, q_ashr, q_aor, q_len, q_lenv, q_thaw, q_frz, q_frzv, q_subi, q_subv, q_subt, q_cuti, q_cutv, q_part, q_itv, q_itt, q_rev, q_rng1, q_rng3, q_lst0, wComp, wOne, wNst, wTst, sSwapM, augSubW, q_cutp, q_lst1, q_lst2, iZip, wLRange, wIndex, sAppNone, isM, itemsM, q_zip, q_lrange, q_sorted, q_lstl, q_lstb, q_index, q_isn, q_isi, q_eqt, q_net, q_nev, q_frzv, List.map]); (try simp only [V.isNone, true_and, and_true, Int.natCast_nonneg, decide_eq_true_eq, decide_eq_false_iff_not, List.append_nil, List.length_cons, List.length_nil, q_getn, q_get0, q_pi, q_pl, q_pv, q_pt, q_pb, q_pn, List.forall_mem_cons, List.map_cons, List.map_nil, forall_const, List.mem_nil_iff, false_implies, implies_true, List.not_mem_nil])
  rw [ep, eg]
  generalize (left.fdiv ((2 * h : Nat) : Int)).fdiv ((2 * h : Nat) : Int) = choice
  have nz : ((2 * h : Nat) : Int) ≠ 0 := by (clear hb hl hK hvs6 hvs5 hvs4 hvs3 hvs2 hvs1 hvs em hm ep hp eg hg; lia)
  have np : ∀ x : Int, Builtin.divisionGoesByPylong x ((2 * h : Nat) : Int) = false := fun x => noPyS (by (clear hb hl hK hvs6 hvs5 hvs4 hvs3 hvs2 hvs1 hvs em hm ep hp eg hg nz; lia)) (by (clear hb hl hK hvs6 hvs5 hvs4 hvs3 hvs2 hvs1 hvs em hm ep hp eg hg nz; lia))
  refine ⟨nz, nz, np _, nz, nz, np _, nz, np _, by decide, ?_⟩
  unfold W_law_1_2
  (try dsimp only [xNil, xCons, xLift, xNext, xWhile, xFor, sTry, sIter, sRetOwn, q_xnxt, q_xret, appRead, wSubK, wIf, sSetSub, sCallM, setSubW, Int.toNat_natCast, bCons, bNil, sIte, sRet, sRetNone, sAssign, sAssignM, sAug, sUnpack, sSwap, sAppend, sReverse, sAugSub, sNever, sFrz, sWiden, sFor, sWhile, cCmp, cPlain, wName, wInt, wBool, wNone, wBin, wCmp, wUn, wNil, wCons, wCall, wBitLen, wTup, wLst, wSub, wSubM, wLenM, wCut, pNone, pSome, iSeq, iRange, iRev, frz, appW, augSubW, List.replicate_succ, List.replicate_zero, List.cons_append, List.nil_append, List.set_cons_succ, List.set_cons_zero, List.length_cons, List.length_nil, q_rv2, q_rv3, List.reverse_nil, q_add, q_sub, q_mul, q_fdiv, q_mod, q_shl, q_shr, q_and, q_or, q_xor, q_pow, q_cat, q_catv, q_rep, q_repv, q_eq, q_ne, q_lt, q_le, q_eql, q_nel, q_neg, q_inv, q_tri, q_unpt, q_unpi, q_set, q_set0, q_nxt, q_ret, q_rret, q_rnxt, q_getn, q_get0, q_pi, q_pl, q_pv, q_pt, q_pb, q_pn, q_itl, q_divmod, q_wn, q_wr, q_ln, q_lr, q_aadd, q_asub, q_ashl, q_ashr, q_aor, q_len, q_lenv, q_thaw, q_frz, q_frzv, q_subi, q_subv, q_subt, q_cuti, q_cutv, q_part, q_itv, q_itt, q_rev, q_rng1, q_rng3, q_lst0, wComp, wOne, wNst, wTst, sSwapM, augSubW, q_cutp, q_lst1, q_lst2, iZip, wLRange, wIndex, sAppNone, isM, itemsM, q_zip, q_lrange, q_sorted, q_lstl, q_lstb, q_index, q_isn, q_isi, q_eqt, q_net, q_nev, q_frzv, List.map]); (try simp only [V.isNone, true_and, and_true, Int.natCast_nonneg, decide_eq_true_eq, decide_eq_false_iff_not, List.append_nil, List.length_cons, List.length_nil, q_getn, q_get0, q_pi, q_pl, q_pv, q_pt, q_pb, q_pn, List.forall_mem_cons, List.map_cons, List.map_nil, forall_const, List.mem_nil_iff, false_implies, implies_true, List.not_mem_nil])
  refine ⟨h, p, g, m, rfl, h1, h6, hp, hg, by (clear h1 h6 hb hl hK hvs6 hvs5 hvs4 hvs3 hvs2 hvs1 hvs em ep hp eg hg nz np; lia), fun f q cnt e hf hk => ?_⟩
  have hp2 : 2 ^ m ≤ 2 ^ 6 := Nat.pow_le_pow_right (by decide) (by (clear h1 h6 hb hl hK hvs6 hvs5 hvs4 hvs3 hvs2 hvs1 hvs em ep hp eg hg nz np e hf hk; lia))
  have cb : cnt ≤ 32 := by
    refine Nat.le_of_not_lt fun hlt => ?_
    have := (hk 32).mp hlt
    (clear h1 h6 hb hl hK hvs6 hvs5 hvs4 hvs3 hvs2 hvs1 hvs em hm ep eg hg nz np e hf hk hlt; lia)
  unfold W_law_1_3
  (try dsimp only [xNil, xCons, xLift, xNext, xWhile, xFor, sTry, sIter, sRetOwn, q_xnxt, q_xret, appRead, wSubK, wIf, sSetSub, sCallM, setSubW, Int.toNat_natCast, bCons, bNil, sIte, sRet, sRetNone, sAssign, sAssignM, sAug, sUnpack, sSwap, sAppend, sReverse, sAugSub, sNever, sFrz, sWiden, sFor, sWhile, cCmp, cPlain, wName, wInt, wBool, wNone, wBin, wCmp, wUn, wNil, wCons, wCall, wBitLen, wTup, wLst, wSub, wSubM, wLenM, wCut, pNone, pSome, iSeq, iRange, iRev, frz, appW, augSubW, List.replicate_succ, List.replicate_zero, List.cons_append, List.nil_append, List.set_cons_succ, List.set_cons_zero, List.length_cons, List.length_nil, q_rv2, q_rv3, List.reverse_nil, q_add, q_sub, q_mul, q_fdiv, q_mod, q_shl, q_shr, q_and, q_or, q_xor, q_pow, q_cat, q_catv, q_rep, q_repv, q_eq, q_ne, q_lt, q_le, q_eql, q_nel, q_neg, q_inv, q_tri, q_unpt, q_unpi, q_set, q_set0, q_nxt, q_ret, q_rret, q_rnxt, q_getn, q_get0, q_pi, q_pl, q_pv, q_pt, q_pb, q_pn, q_itl, q_divmod, q_wn, q_wr, q_ln, q_lr, q_aadd, q_asub, q_ashl, q_ashr, q_aor, q_len, q_lenv, q_thaw, q_frz, q_frzv, q_subi, q_subv, q_subt, q_cuti, q_cutv, q_part, q_itv, q_itt, q_rev, q_rng1, q_rng3, q_lst0, wComp, wOne, wNst, wTst, sSwapM, augSubW, q_cutp, q_lst1, q_lst2, iZip, wLRange, wIndex, sAppNone, isM, itemsM, q_zip, q_lrange, q_sorted, q_lstl, q_lstb, q_index, q_isn, q_isi, q_eqt, q_net, q_nev, q_frzv, List.map]); (try simp only [V.isNone, true_and, and_true, Int.natCast_nonneg, decide_eq_true_eq, decide_eq_false_iff_not, List.append_nil, List.length_cons, List.length_nil, q_getn, q_get0, q_pi, q_pl, q_pv, q_pt, q_pb, q_pn, List.forall_mem_cons, List.map_cons, List.map_nil, forall_const, List.mem_nil_iff, false_implies, implies_true, List.not_mem_nil])
  refine ⟨by unfold toldN; rw [castL_len, List.length_map, List.length_range]; (clear h1 h6 hb hl hK hvs6 hvs5 hvs4 hvs3 hvs2 hvs1 hvs em hm ep hp eg hg nz np e hf hk hp2; lia), fun l hl' hs => ?_⟩
  have el := sorted_told hp hg e hf hk hl' hs
  refine ⟨trivial, h, p, g, m, rfl, h6, hp, hg, by (clear h1 h6 hb hl hK hvs6 hvs5 hvs4 hvs3 hvs2 hvs1 hvs em ep hp eg hg nz np e hf hk hp2 cb hl' hs el; lia), ?_⟩
  rw [el]
  simp only [q_nel]
  refine ⟨fun hc => by simp at hc, fun _ => ?_⟩
  unfold W_law_1_4
  (try dsimp only [xNil, xCons, xLift, xNext, xWhile, xFor, sTry, sIter, sRetOwn, q_xnxt, q_xret, appRead, wSubK, wIf, sSetSub, sCallM, setSubW, Int.toNat_natCast, bCons, bNil, sIte, sRet, sRetNone, sAssign, sAssignM, sAug, sUnpack, sSwap, sAppend, sReverse, sAugSub, sNever, sFrz, sWiden, sFor, sWhile, cCmp, cPlain, wName, wInt, wBool, wNone, wBin, wCmp, wUn, wNil, wCons, wCall, wBitLen, wTup, wLst, wSub, wSubM, wLenM, wCut, pNone, pSome, iSeq, iRange, iRev, frz, appW, augSubW, List.replicate_succ, List.replicate_zero, List.cons_append, List.nil_append, List.set_cons_succ, List.set_cons_zero, List.length_cons, List.length_nil, q_rv2, q_rv3, List.reverse_nil, q_add, q_sub, q_mul, q_fdiv, q_mod, q_shl, q_shr, q_and, q_or, q_xor, q_pow, q_cat, q_catv, q_rep, q_repv, q_eq, q_ne, q_lt, q_le, q_eql, q_nel, q_neg, q_inv, q_tri, q_unpt, q_unpi, q_set, q_set0, q_nxt, q_ret, q_rret, q_rnxt, q_getn, q_get0, q_pi, q_pl, q_pv, q_pt, q_pb, q_pn, q_itl, q_divmod, q_wn, q_wr, q_ln, q_lr, q_aadd, q_asub, q_ashl, q_ashr, q_aor, q_len, q_lenv, q_thaw, q_frz, q_frzv, q_subi, q_subv, q_subt, q_cuti, q_cutv, q_part, q_itv, q_itt, q_rev, q_rng1, q_rng3, q_lst0, wComp, wOne, wNst, wTst, sSwapM, augSubW, q_cutp, q_lst1, q_lst2, iZip, wLRange, wIndex, sAppNone, isM, itemsM, q_zip, q_lrange, q_sorted, q_lstl, q_lstb, q_index, q_isn, q_isi, q_eqt, q_net, q_nev, q_frzv, List.map]); (try simp only [V.isNone, true_and, and_true, Int.natCast_nonneg, decide_eq_true_eq, decide_eq_false_iff_not, List.append_nil, List.length_cons, List.length_nil, q_getn, q_get0, q_pi, q_pl, q_pv, q_pt, q_pb, q_pn, List.forall_mem_cons, List.map_cons, List.map_nil, forall_const, List.mem_nil_iff, false_implies, implies_true, List.not_mem_nil])
  have tl : (castL (toldN (2 * h) f q cnt)).length = cnt := by unfold toldN; rw [castL_len, List.length_map, List.length_range]
  refine ⟨by decide, fun hc => ?_, fun hc => ?_⟩
  rotate_left
  · have hnil : castL (toldN (2 * h) f q cnt) = [] := by simpa using hc
    rw [hnil] at tl
    refine hK run _ rfl hb (by (clear h1 h6 hb hl hK hvs6 hvs5 hvs4 hvs3 hvs2 hvs1 hvs em hm ep hp eg hg nz np e hf hk hp2 cb hl' hs el tl hc hnil; lia)) (by (clear h1 h6 hb hl hK hvs6 hvs5 hvs4 hvs3 hvs2 hvs1 hvs em hm ep hp eg hg nz np e hf hk hp2 cb hl' hs el tl hc hnil; lia)) fun h7 => ?_
    have : m = 6 := by
      rw [show (7 : Int) = ((7 : Nat) : Int) from rfl, em] at h7; (clear h1 h6 hb hl hK hvs6 hvs5 hvs4 hvs3 hvs2 hvs1 hvs em hm ep hp eg hg nz np e hf hk hp2 cb hl' hs el tl hc hnil; lia)
    subst this
    have := (hk 0).mpr (by rw [Nat.mul_zero]; (clear hb hl hK hvs6 hvs5 hvs4 hvs3 hvs2 hvs1 hvs ep hp eg hg nz np cb hl' hs tl hc hnil h7 em hm e hk hp2 el; lia))
    simp at tl; (clear h1 h6 hb hl hK hvs6 hvs5 hvs4 hvs3 hvs2 hvs1 hvs ep hp eg hg nz np hf cb hl' hs hc hnil h7 em hm e hk hp2 el; lia)
  have hne : castL (toldN (2 * h) f q cnt) ≠ [] := by simpa using hc
  have hcnt : 0 < cnt := by rw [← tl]; exact List.length_pos_iff.mpr hne
  obtain ⟨k, ek, hkc⟩ := modN choice hcnt
  unfold W_law_3_0
  (try dsimp only [xNil, xCons, xLift, xNext, xWhile, xFor, sTry, sIter, sRetOwn, q_xnxt, q_xret, appRead, wSubK, wIf, sSetSub, sCallM, setSubW, Int.toNat_natCast, bCons, bNil, sIte, sRet, sRetNone, sAssign, sAssignM, sAug, sUnpack, sSwap, sAppend, sReverse, sAugSub, sNever, sFrz, sWiden, sFor, sWhile, cCmp, cPlain, wName, wInt, wBool, wNone, wBin, wCmp, wUn, wNil, wCons, wCall, wBitLen, wTup, wLst, wSub, wSubM, wLenM, wCut, pNone, pSome, iSeq, iRange, iRev, frz, appW, augSubW, List.replicate_succ, List.replicate_zero, List.cons_append, List.nil_append, List.set_cons_succ, List.set_cons_zero, List.length_cons, List.length_nil, q_rv2, q_rv3, List.reverse_nil, q_add, q_sub, q_mul, q_fdiv, q_mod, q_shl, q_shr, q_and, q_or, q_xor, q_pow, q_cat, q_catv, q_rep, q_repv, q_eq, q_ne, q_lt, q_le, q_eql, q_nel, q_neg, q_inv, q_tri, q_unpt, q_unpi, q_set, q_set0, q_nxt, q_ret, q_rret, q_rnxt, q_getn, q_get0, q_pi, q_pl, q_pv, q_pt, q_pb, q_pn, q_itl, q_divmod, q_wn, q_wr, q_ln, q_lr, q_aadd, q_asub, q_ashl, q_ashr, q_aor, q_len, q_lenv, q_thaw, q_frz, q_frzv, q_subi, q_subv, q_subt, q_cuti, q_cutv, q_part, q_itv, q_itt, q_rev, q_rng1, q_rng3, q_lst0, wComp, wOne, wNst, wTst, sSwapM, augSubW, q_cutp, q_lst1, q_lst2, iZip, wLRange, wIndex, sAppNone, isM, itemsM, q_zip, q_lrange, q_sorted, q_lstl, q_lstb, q_index, q_isn, q_isi, q_eqt, q_net, q_nev, q_frzv, List.map]); (try simp only [V.isNone, true_and, and_true, Int.natCast_nonneg, decide_eq_true_eq, decide_eq_false_iff_not, List.append_nil, List.length_cons, List.length_nil, q_getn, q_get0, q_pi, q_pl, q_pv, q_pt, q_pb, q_pn, List.forall_mem_cons, List.map_cons, List.map_nil, forall_const, List.mem_nil_iff, false_implies, implies_true, List.not_mem_nil])
  rw [tl, ek]
  rw [Int.toNat_natCast]
  have er : ∃ r : Nat, (castL (toldN (2 * h) f q cnt)).getD k 0 = (r : Int) := ⟨(f + 2 * h * k) ^^^ (q + k), by
    unfold toldN castL; rw [List.getD_eq_getElem?_getD]; simp [hkc]⟩
  obtain ⟨r, er⟩ := er
  rw [er]
  refine ⟨by (clear h1 h6 hb hl hK hvs6 hvs5 hvs4 hvs3 hvs2 hvs1 hvs em hm ep hp eg hg nz np e hf hk hp2 hl' hs el hc hne ek hkc er; lia), by (clear h1 h6 hb hl hK hvs6 hvs5 hvs4 hvs3 hvs2 hvs1 hvs em hm ep hp eg hg nz np e hf hk hp2 hl' hs el hc hne ek hkc er; lia), by (clear h1 h6 hb hl hK hvs6 hvs5 hvs4 hvs3 hvs2 hvs1 hvs em hm ep hp eg hg nz np e hf hk hp2 cb hl' hs el tl hc hne hcnt ek hkc er; lia), hkc, by (clear h1 h6 hb hl hK hvs6 hvs5 hvs4 hvs3 hvs2 hvs1 hvs em hm ep hp eg hg nz np e hf hk hp2 hl' hs el hc hne ek er; lia), ?_⟩
  unfold W_law_3_1
  (try dsimp only [xNil, xCons, xLift, xNext, xWhile, xFor, sTry, sIter, sRetOwn, q_xnxt, q_xret, appRead, wSubK, wIf, sSetSub, sCallM, setSubW, Int.toNat_natCast, bCons, bNil, sIte, sRet, sRetNone, sAssign, sAssignM, sAug, sUnpack, sSwap, sAppend, sReverse, sAugSub, sNever, sFrz, sWiden, sFor, sWhile, cCmp, cPlain, wName, wInt, wBool, wNone, wBin, wCmp, wUn, wNil, wCons, wCall, wBitLen, wTup, wLst, wSub, wSubM, wLenM, wCut, pNone, pSome, iSeq, iRange, iRev, frz, appW, augSubW, List.replicate_succ, List.replicate_zero, List.cons_append, List.nil_append, List.set_cons_succ, List.set_cons_zero, List.length_cons, List.length_nil, q_rv2, q_rv3, List.reverse_nil, q_add, q_sub, q_mul, q_fdiv, q_mod, q_shl, q_shr, q_and, q_or, q_xor, q_pow, q_cat, q_catv, q_rep, q_repv, q_eq, q_ne, q_lt, q_le, q_eql, q_nel, q_neg, q_inv, q_tri, q_unpt, q_unpi, q_set, q_set0, q_nxt, q_ret, q_rret, q_rnxt, q_getn, q_get0, q_pi, q_pl, q_pv, q_pt, q_pb, q_pn, q_itl, q_divmod, q_wn, q_wr, q_ln, q_lr, q_aadd, q_asub, q_ashl, q_ashr, q_aor, q_len, q_lenv, q_thaw, q_frz, q_frzv, q_subi, q_subv, q_subt, q_cuti, q_cutv, q_part, q_itv, q_itt, q_rev, q_rng1, q_rng3, q_lst0, wComp, wOne, wNst, wTst, sSwapM, augSubW, q_cutp, q_lst1, q_lst2, iZip, wLRange, wIndex, sAppNone, isM, itemsM, q_zip, q_lrange, q_sorted, q_lstl, q_lstb, q_index, q_isn, q_isi, q_eqt, q_net, q_nev, q_frzv, List.map]); (try simp only [V.isNone, true_and, and_true, Int.natCast_nonneg, decide_eq_true_eq, decide_eq_false_iff_not, List.append_nil, List.length_cons, List.length_nil, q_getn, q_get0, q_pi, q_pl, q_pv, q_pt, q_pb, q_pn, List.forall_mem_cons, List.map_cons, List.map_nil, forall_const, List.mem_nil_iff, false_implies, implies_true, List.not_mem_nil])
  rw [rangeDown m (by (clear h1 h6 hb hl hK hvs6 hvs5 hvs4 hvs3 hvs2 hvs1 hvs em ep hp eg hg nz np e hf hk hp2 cb hl' hs el tl hc hne hcnt ek hkc er; lia))]
  obtain ⟨s1, s2⟩ := smallDown m (by omega)
  refine ⟨by decide, s2, s1, compL_int1 (g := fun i => V.int ((r / 2 ^ i.toNat % 2 : Nat) : Int)) (B := 2 ^ 20) (by rw [List.length_map, List.length_range]; (clear h1 h6 hb hl hK hvs6 hvs5 hvs4 hvs3 hvs2 hvs1 hvs em ep hp eg hg nz np e hf hk hp2 cb hl' hs el tl hc hne hcnt ek hkc er s1 s2; lia)) (fun k i K hi hb hK => ?_) ?_⟩
  · obtain ⟨j, hj, rfl⟩ := List.mem_map.mp hi
    simp only [q_shr, q_and, Int.toNat_natCast, fdiv_pow, band1]
    simp only [Int.toNat_natCast] at hK
    exact ⟨trivial, by (clear h1 h6 hl hvs6 hvs5 hvs4 hvs3 hvs2 hvs1 hvs em hm ep hp eg hg nz np e hf hk hp2 cb hl' hs el tl hc hne hcnt ek hkc er s1 s2 hb hj hi hK; lia), by (clear h1 h6 hl hvs6 hvs5 hvs4 hvs3 hvs2 hvs1 hvs em hm ep hp eg hg nz np e hf hk hp2 cb hl' hs el tl hc hne hcnt ek hkc er s1 s2 hj hi hK; lia), hK⟩
  · rw [listV_map, List.map_map]
    have eb : ((List.range m).map ((fun i : Int => ((r / 2 ^ i.toNat % 2 : Nat) : Int)) ∘ fun j => ((m - 1 - j : Nat) : Int))) = castL (bitsD m r) := by
      unfold castL bitsD; rw [List.map_map]; rfl
    rw [eb, q_cat, ← castL_append]
    have bl : (bitsD m r).length = m := by simp [bitsD]
    refine ⟨by rw [castL_len, castL_len]; (clear h1 h6 hb hK hvs6 hvs5 hvs4 hvs3 hvs2 hvs1 hvs em ep hp eg hg nz np e hf hk hp2 cb hl' hs el tl hc hne hcnt ek hkc er s1 s2 eb; lia), hK (run ++ bitsD m r) [.int left, .int (m : Int), .int (p : Int), .int (g : Int), .int choice, .ints (castL (toldN (2 * h) f q cnt)), .int (r : Int), v12, v13, v14, v15, v16, v17, v18] rfl (fun b hb' => ?_) (by rw [List.length_append]; (clear h1 h6 hb hl hK hvs6 hvs5 hvs4 hvs3 hvs2 hvs1 hvs em ep hp eg hg nz np e hf hk hp2 cb hl' hs el tl hc hne hcnt ek hkc er s1 s2 eb; lia)) (by rw [List.length_append]; (clear h1 h6 hb hl hK hvs6 hvs5 hvs4 hvs3 hvs2 hvs1 hvs em ep hp eg hg nz np e hf hk hp2 cb hl' hs el tl hc hne hcnt ek hkc er s1 s2 eb; lia)) fun h7 => ?_⟩
    · rcases List.mem_append.mp hb' with hb' | hb'
      · exact hb b hb'
      · obtain ⟨j, _, rfl⟩ := List.mem_map.mp hb'
        exact Nat.mod_lt _ (by decide)
    · rw [show (7 : Int) = ((7 : Nat) : Int) from rfl, em] at h7
      rw [List.length_append, bl]; (clear h1 h6 hb hl hK hvs6 hvs5 hvs4 hvs3 hvs2 hvs1 hvs em hm ep hp eg hg nz np e hf hk hp2 cb hl' hs el tl hc hne hcnt ek hkc er s1 s2 eb; lia)
end Mine
end
section
open PySem PySem.Calls PyProof.Rows PySem.W PySem.Spec PySem.SeqAt
set_option Elab.async false
set_option maxRecDepth 100000
set_option linter.unusedVariables false
set_option linter.unusedSimpArgs false
namespace Mine
theorem ne_tup {a b c d : Int} {P : V → Prop} (h : P (.bool (!decide (a = c ∧ b = d)))) : cmpV .NotEq (.tup [.int a, .int b]) (.tup [.int c, .int d]) P := by
  refine ⟨⟨rfl, rfl, rfl⟩, ?_⟩
  have e : Spec.same (V.py (.tup [.int a, .int b])) (V.py (.tup [.int c, .int d])) = decide (a = c ∧ b = d) := by
    simp only [V.py, V.pys, Spec.same, Spec.sameAll, Bool.and_true]
    rw [Bool.eq_iff_iff]; simp
  show P (.bool (!Spec.same _ _))
  rw [e]; exact h
noncomputable def wkV (n : Nat) (run : List Nat) (at_ : Nat) : V := .tup [.ints (castL (walkL n at_ (run.drop at_)).1), .int ((walkL n at_ (run.drop at_)).2 : Nat)]
theorem listV_tups {α : Type} {l : List α} {f : α → List V} (h : l ≠ []) : listV (l.map fun a => V.tup (f a)) = .list (l.map fun a => V.tup (f a)) := by
  cases l with
  | nil => exact (h rfl).elim
  | cons a l => rfl
noncomputable def wsV (n : Nat) (run : List Nat) : V := .list ((List.range n).map (wkV n run))
noncomputable def rsL (n : Nat) (run : List Nat) : List (List Nat) := (List.range n).flatMap fun i => [run.drop i, (walkL n i (run.drop i)).1]
theorem flat2_len {α β : Type} (F G : α → β) : ∀ l : List α, (l.flatMap fun i => [F i, G i]).length = 2 * l.length
  | [] => rfl
  | a :: l => by rw [List.flatMap_cons, List.length_append, flat2_len F G l]; simp; lia
theorem flat2_get {α β : Type} (F G : α → β) : ∀ (l : List α) (j : Nat) (a : α), l[j]? = some a → (l.flatMap fun i => [F i, G i])[2 * j]? = some (F a) ∧ (l.flatMap fun i => [F i, G i])[2 * j + 1]? = some (G a)
  | [], j, a, h => by simp at h
  | x :: l, 0, a, h => by simp at h; subst h; simp
  | x :: l, j + 1, a, h => by
    have ih := flat2_get F G l j a (by simpa using h)
    rw [List.flatMap_cons, show 2 * (j + 1) = 2 * j + 1 + 1 by omega]
    simpa using ih
noncomputable def isNF : V → List V
  | .int _ => [.bool false]
  | _ => [.bool true]
theorem isN_flat (vals : List Nat) : (vals.map (fun v => V.int ((v : Nat) : Int)) ++ [V.none, V.none]).flatMap isNF = List.replicate vals.length (V.bool false) ++ [V.bool true, V.bool true] := by
  rw [List.flatMap_append, List.flatMap_map]
  congr 1
  induction vals with
  | nil => rfl
  | cons a l ih => rw [List.flatMap_cons, ih]; rfl
theorem none_cmp (h : Fin 6) : okCmp (.list (List.replicate (2 * (2 * (h.val + 1))) (V.bool false) ++ [V.bool true, V.bool true])) (.list (List.replicate (2 * (2 * (h.val + 1))) (V.bool false) ++ [V.bool true, V.bool true])) ∧
    same (V.py (.list (List.replicate (2 * (2 * (h.val + 1))) (V.bool false) ++ [V.bool true, V.bool true]))) (V.py (.list (List.replicate (2 * (2 * (h.val + 1))) (V.bool false) ++ [V.bool true, V.bool true]))) = true := by
  revert h; unfold okCmp; decide +kernel
theorem listV_rows {rs : List (List Nat)} (h : rs ≠ []) : listV (rs.map fun r => V.ints (castL r)) = rowsV rs := by
  cases rs with
  | nil => exact (h rfl).elim
  | cons a l => rfl
theorem w_tail {h : Nat} (h1 : 1 ≤ h) (h6 : h ≤ 6) {sc : List Int} {run : List Nat} (hb : ∀ b ∈ run, b < 2) (hl : 12 ≤ run.length) (hl2 : run.length ≤ 24) {vs : List V} (hvs : vs.length = 15) {P : V → Prop} (hP : P (.bool true)) :
    WI W_law_0_4 ([.ints sc, .int ((2 * h : Nat) : Int), goesV (2 * h), .ints (castL run)] ++ vs) (retP P) := by
  obtain ⟨v4, v5, v6, v7, v8, vs, rfl, hvs1⟩ := len5 (k := 10) hvs
  obtain ⟨v9, v10, v11, v12, v13, vs, rfl, hvs2⟩ := len5 (k := 5) hvs1
  obtain ⟨v14, v15, v16, v17, v18, vs, rfl, hvs3⟩ := len5 (k := 0) hvs2
  obtain rfl := len_z hvs3
  have hd : ∀ (k : Nat), ∀ b ∈ run.drop k, b < 2 := fun k b hb' => hb b (List.mem_of_mem_drop hb')
  unfold WI W_law_0_4
  simp only [List.cons_append, List.nil_append]
  (try dsimp only [xNil, xCons, xLift, xNext, xWhile, xFor, sTry, sIter, sRetOwn, q_xnxt, q_xret, appRead, wSubK, wIf, sSetSub, sCallM, setSubW, Int.toNat_natCast, bCons, bNil, sIte, sRet, sRetNone, sAssign, sAssignM, sAug, sUnpack, sSwap, sAppend, sReverse, sAugSub, sNever, sFrz, sWiden, sFor, sWhile, cCmp, cPlain, wName, wInt, wBool, wNone, wBin, wCmp, wUn, wNil, wCons, wCall, wBitLen, wTup, wLst, wSub, wSubM, wLenM, wCut, pNone, pSome, iSeq, iRange, iRev, frz, appW, augSubW, List.replicate_succ, List.replicate_zero, List.cons_append, List.nil_append, List.set_cons_succ, List.set_cons_zero, List.length_cons, List.length_nil, q_rv2, q_rv3, List.reverse_nil, q_add, q_sub, q_mul, q_fdiv, q_mod, q_shl, q_shr, q_and, q_or, q_xor, q_pow, q_cat, q_catv, q_rep, q_repv, q_eq, q_ne, q_lt, q_le, q_eql, q_nel, q_neg, q_inv, q_tri, q_unpt, q_unpi, q_set, q_set0, q_nxt, q_ret, q_rret, q_rnxt, q_getn, q_get0, q_pi, q_pl, q_pv, q_pt, q_pb, q_pn, q_itl, q_divmod, q_wn, q_wr, q_ln, q_lr, q_aadd, q_asub, q_ashl, q_ashr, q_aor, q_len, q_lenv, q_thaw, q_frz, q_frzv, q_subi, q_subv, q_subt, q_cuti, q_cutv, q_part, q_itv, q_itt, q_rev, q_rng1, q_rng3, q_lst0, wComp, wOne, wNst, wTst, sSwapM, augSubW, q_cutp, q_lst1, q_lst2, iZip, wLRange, wIndex, sAppNone, isM, itemsM, q_zip, q_lrange, q_sorted, q_lstl, q_lstb, q_index, q_isn, q_isi, q_eqt, q_net, q_nev, q_frzv, List.map]); (try simp only [V.isNone, true_and, and_true, Int.natCast_nonneg, decide_eq_true_eq, decide_eq_false_iff_not, List.append_nil, List.length_cons, List.length_nil, q_getn, q_get0, q_pi, q_pl, q_pv, q_pt, q_pb, q_pn, List.forall_mem_cons, List.map_cons, List.map_nil, forall_const, List.mem_nil_iff, false_implies, implies_true, List.not_mem_nil])
  refine ⟨small_nat (by (clear hb hl hl2 hP hvs3 hvs2 hvs1 hvs hd; lia)), trivial, compL_int1 (g := fun i => wkV (2 * h) run i.toNat) (B := 2 ^ 20) (by rw [rangeL_len]; (clear hb hl hl2 hP hvs3 hvs2 hvs1 hvs hd; lia)) (fun k i K hi hk hK => ?_) ?_⟩
  · rw [rangeL_nat] at hi
    obtain ⟨j, hj, rfl⟩ := List.mem_map.mp hi
    have hj := List.mem_range.mp hj
    (try dsimp only [xNil, xCons, xLift, xNext, xWhile, xFor, sTry, sIter, sRetOwn, q_xnxt, q_xret, appRead, wSubK, wIf, sSetSub, sCallM, setSubW, Int.toNat_natCast, bCons, bNil, sIte, sRet, sRetNone, sAssign, sAssignM, sAug, sUnpack, sSwap, sAppend, sReverse, sAugSub, sNever, sFrz, sWiden, sFor, sWhile, cCmp, cPlain, wName, wInt, wBool, wNone, wBin, wCmp, wUn, wNil, wCons, wCall, wBitLen, wTup, wLst, wSub, wSubM, wLenM, wCut, pNone, pSome, iSeq, iRange, iRev, frz, appW, augSubW, List.replicate_succ, List.replicate_zero, List.cons_append, List.nil_append, List.set_cons_succ, List.set_cons_zero, List.length_cons, List.length_nil, q_rv2, q_rv3, List.reverse_nil, q_add, q_sub, q_mul, q_fdiv, q_mod, q_shl, q_shr, q_and, q_or, q_xor, q_pow, q_cat, q_catv, q_rep, q_repv, q_eq, q_ne, q_lt, q_le, q_eql, q_nel, q_neg, q_inv, q_tri, q_unpt, q_unpi, q_set, q_set0, q_nxt, q_ret, q_rret, q_rnxt, q_getn, q_get0, q_pi, q_pl, q_pv, q_pt, q_pb, q_pn, q_itl, q_divmod, q_wn, q_wr, q_ln, q_lr, q_aadd, q_asub, q_ashl, q_ashr, q_aor, q_len, q_lenv, q_thaw, q_frz, q_frzv, q_subi, q_subv, q_subt, q_cuti, q_cutv, q_part, q_itv, q_itt, q_rev, q_rng1, q_rng3, q_lst0, wComp, wOne, wNst, wTst, sSwapM, augSubW, q_cutp, q_lst1, q_lst2, iZip, wLRange, wIndex, sAppNone, isM, itemsM, q_zip, q_lrange, q_sorted, q_lstl, q_lstb, q_index, q_isn, q_isi, q_eqt, q_net, q_nev, q_frzv, List.map]); (try simp only [V.isNone, true_and, and_true, Int.natCast_nonneg, decide_eq_true_eq, decide_eq_false_iff_not, List.append_nil, List.length_cons, List.length_nil, q_getn, q_get0, q_pi, q_pl, q_pv, q_pt, q_pb, q_pn, List.forall_mem_cons, List.map_cons, List.map_nil, forall_const, List.mem_nil_iff, false_implies, implies_true, List.not_mem_nil])
    rw [cutL_from]
    simp only [Int.toNat_natCast] at hK
    have ed : (castL run).drop j = castL (run.drop j) := by unfold castL; rw [List.map_drop]
    rw [ed]
    exact ⟨trivial, by rw [castL_len]; (clear h1 h6 hb hP hvs3 hvs2 hvs1 hvs hd hk hi hK hj ed; lia), by decide, h, j, run.drop j, rfl, h6, hj, hd j, by rw [List.length_drop]; (clear hb hP hvs3 hvs2 hvs1 hvs hd hk hi hK ed; lia), by (clear h1 h6 hb hl hl2 hP hvs3 hvs2 hvs1 hvs hd hi hK hj ed; lia), hK⟩
  rw [rangeL_nat, List.map_map]
  have ew : listV ((List.range (2 * h)).map ((fun i : Int => wkV (2 * h) run i.toNat) ∘ fun j : Nat => (j : Int))) = wsV (2 * h) run :=
    listV_tups (f := fun i => [.ints (castL (walkL (2 * h) i (run.drop i)).1), .int ((walkL (2 * h) i (run.drop i)).2 : Nat)]) (by intro e; have := congrArg List.length e; simp at this; (clear hb hl hl2 hP hvs3 hvs2 hvs1 hvs hd e; lia))
  rw [ew]
  have er : (rangeL 0 ((2 * h : Nat) : Int) 1).flatMap (fun i => [V.ints (castL (run.drop i.toNat)), V.ints (castL (walkL (2 * h) i.toNat (run.drop i.toNat)).1)]) = (rsL (2 * h) run).map fun r => V.ints (castL r) := by
    rw [rangeL_nat, List.flatMap_map]; unfold rsL; rw [List.map_flatMap]; congr 1
  have rl : (rsL (2 * h) run).length = 2 * (2 * h) := by
    unfold rsL; rw [flat2_len, List.length_range]
  unfold W_law_0_5
  (try dsimp only [xNil, xCons, xLift, xNext, xWhile, xFor, sTry, sIter, sRetOwn, q_xnxt, q_xret, appRead, wSubK, wIf, sSetSub, sCallM, setSubW, Int.toNat_natCast, bCons, bNil, sIte, sRet, sRetNone, sAssign, sAssignM, sAug, sUnpack, sSwap, sAppend, sReverse, sAugSub, sNever, sFrz, sWiden, sFor, sWhile, cCmp, cPlain, wName, wInt, wBool, wNone, wBin, wCmp, wUn, wNil, wCons, wCall, wBitLen, wTup, wLst, wSub, wSubM, wLenM, wCut, pNone, pSome, iSeq, iRange, iRev, frz, appW, augSubW, List.replicate_succ, List.replicate_zero, List.cons_append, List.nil_append, List.set_cons_succ, List.set_cons_zero, List.length_cons, List.length_nil, q_rv2, q_rv3, List.reverse_nil, q_add, q_sub, q_mul, q_fdiv, q_mod, q_shl, q_shr, q_and, q_or, q_xor, q_pow, q_cat, q_catv, q_rep, q_repv, q_eq, q_ne, q_lt, q_le, q_eql, q_nel, q_neg, q_inv, q_tri, q_unpt, q_unpi, q_set, q_set0, q_nxt, q_ret, q_rret, q_rnxt, q_getn, q_get0, q_pi, q_pl, q_pv, q_pt, q_pb, q_pn, q_itl, q_divmod, q_wn, q_wr, q_ln, q_lr, q_aadd, q_asub, q_ashl, q_ashr, q_aor, q_len, q_lenv, q_thaw, q_frz, q_frzv, q_subi, q_subv, q_subt, q_cuti, q_cutv, q_part, q_itv, q_itt, q_rev, q_rng1, q_rng3, q_lst0, wComp, wOne, wNst, wTst, sSwapM, augSubW, q_cutp, q_lst1, q_lst2, iZip, wLRange, wIndex, sAppNone, isM, itemsM, q_zip, q_lrange, q_sorted, q_lstl, q_lstb, q_index, q_isn, q_isi, q_eqt, q_net, q_nev, q_frzv, List.map]); (try simp only [V.isNone, true_and, and_true, Int.natCast_nonneg, decide_eq_true_eq, decide_eq_false_iff_not, List.append_nil, List.length_cons, List.length_nil, q_getn, q_get0, q_pi, q_pl, q_pv, q_pt, q_pb, q_pn, List.forall_mem_cons, List.map_cons, List.map_nil, forall_const, List.mem_nil_iff, false_implies, implies_true, List.not_mem_nil])
  refine ⟨small_nat (by omega), trivial, compL_ints (f := fun i => [V.ints (castL (run.drop i.toNat)), V.ints (castL (walkL (2 * h) i.toNat (run.drop i.toNat)).1)]) (B := 2 ^ 20) (by rw [er, List.length_map]; (clear hb hl hl2 hP hvs3 hvs2 hvs1 hvs hd ew er; lia)) (fun k i K hi hk hK => ?_) ?_⟩
  · rw [rangeL_nat] at hi
    obtain ⟨j, hj, rfl⟩ := List.mem_map.mp hi
    have hj := List.mem_range.mp hj
    simp only [Int.toNat_natCast, List.length_cons, List.length_nil] at hK hk
    have ed : (castL run).drop j = castL (run.drop j) := by unfold castL; rw [List.map_drop]
    have hw : ((List.range (2 * h)).map (wkV (2 * h) run))[j]? = some (wkV (2 * h) run j) := by rw [List.getElem?_map, List.getElem?_range hj]; rfl
    simp only [q_cutp, wsV, q_subv, Int.toNat_natCast, cutL_from, ed]
    refine ⟨trivial, by rw [castL_len]; omega, by decide, trivial, trivial, by (clear h1 h6 hb hl hl2 hP hvs3 hvs2 hvs1 hvs hd ew er rl hi hk hK hj ed hw; lia), by (clear hb hl hl2 hP hvs3 hvs2 hvs1 hvs hd ew er rl hi hk hK ed hw; lia), _, hw, ?_⟩
    simp only [wkV, q_subt]
    refine ⟨by decide, by decide, _, rfl, by decide, ?_⟩
    simp only [compL]
    exact ⟨trivial, by (clear h1 h6 hb hl hl2 hP hvs3 hvs2 hvs1 hvs hd ew er rl hi hK hj ed hw; lia), trivial, by simp; (clear h1 h6 hb hl hl2 hP hvs3 hvs2 hvs1 hvs hd ew er rl hi hK hj ed hw; lia), hK⟩
  rw [er, listV_rows (by intro e; rw [e] at rl; simp at rl; (clear hb hl hl2 hP hvs3 hvs2 hvs1 hvs hd ew er e; lia))]
  unfold W_law_0_6
  (try dsimp only [xNil, xCons, xLift, xNext, xWhile, xFor, sTry, sIter, sRetOwn, q_xnxt, q_xret, appRead, wSubK, wIf, sSetSub, sCallM, setSubW, Int.toNat_natCast, bCons, bNil, sIte, sRet, sRetNone, sAssign, sAssignM, sAug, sUnpack, sSwap, sAppend, sReverse, sAugSub, sNever, sFrz, sWiden, sFor, sWhile, cCmp, cPlain, wName, wInt, wBool, wNone, wBin, wCmp, wUn, wNil, wCons, wCall, wBitLen, wTup, wLst, wSub, wSubM, wLenM, wCut, pNone, pSome, iSeq, iRange, iRev, frz, appW, augSubW, List.replicate_succ, List.replicate_zero, List.cons_append, List.nil_append, List.set_cons_succ, List.set_cons_zero, List.length_cons, List.length_nil, q_rv2, q_rv3, List.reverse_nil, q_add, q_sub, q_mul, q_fdiv, q_mod, q_shl, q_shr, q_and, q_or, q_xor, q_pow, q_cat, q_catv, q_rep, q_repv, q_eq, q_ne, q_lt, q_le, q_eql, q_nel, q_neg, q_inv, q_tri, q_unpt, q_unpi, q_set, q_set0, q_nxt, q_ret, q_rret, q_rnxt, q_getn, q_get0, q_pi, q_pl, q_pv, q_pt, q_pb, q_pn, q_itl, q_divmod, q_wn, q_wr, q_ln, q_lr, q_aadd, q_asub, q_ashl, q_ashr, q_aor, q_len, q_lenv, q_thaw, q_frz, q_frzv, q_subi, q_subv, q_subt, q_cuti, q_cutv, q_part, q_itv, q_itt, q_rev, q_rng1, q_rng3, q_lst0, wComp, wOne, wNst, wTst, sSwapM, augSubW, q_cutp, q_lst1, q_lst2, iZip, wLRange, wIndex, sAppNone, isM, itemsM, q_zip, q_lrange, q_sorted, q_lstl, q_lstb, q_index, q_isn, q_isi, q_eqt, q_net, q_nev, q_frzv, List.map]); (try simp only [V.isNone, true_and, and_true, Int.natCast_nonneg, decide_eq_true_eq, decide_eq_false_iff_not, List.append_nil, List.length_cons, List.length_nil, q_getn, q_get0, q_pi, q_pl, q_pv, q_pt, q_pb, q_pn, List.forall_mem_cons, List.map_cons, List.map_nil, forall_const, List.mem_nil_iff, false_implies, implies_true, List.not_mem_nil])
  have wv : ∀ j, j < 2 * h → _ := fun j hj => walk_val hj (hd j)
  have rm : ∀ r ∈ rsL (2 * h) run, r.length ≤ 2 ^ 8 ∧ ∀ b ∈ r, b < 2 := fun r hr => by
    obtain ⟨j, hj, hr⟩ := List.mem_flatMap.mp hr
    obtain ⟨w1, w2, w3, w4⟩ := wv j (List.mem_range.mp hj)
    rcases List.mem_cons.mp hr with rfl | hr
    · exact ⟨by rw [List.length_drop]; (clear h1 h6 hb hP hvs3 hvs2 hvs1 hvs hd ew er rl wv hj w1 w2 w3 w4 hr; lia), hd j⟩
    · rw [List.mem_singleton] at hr; subst hr
      exact ⟨by rw [w2, List.length_drop]; omega, w3⟩
  have vl : ((rsL (2 * h) run).map (valF 0)).length = 2 * (2 * h) := by rw [List.length_map, rl]
  refine ⟨trivial, _, rfl, by (clear hb hl hl2 hP hvs3 hvs2 hvs1 hvs hd ew er wv rm vl; lia), rm, fun os ho hrd => ⟨IntMulOk.of_left (by decide), os ++ [69], (rsL (2 * h) run).map (valF 0), ?_, by rw [List.length_append]; simp; (clear h1 h6 hb hl hl2 hP hvs3 hvs2 hvs1 hvs hd ew er rl wv rm vl hrd; lia), by (clear hb hl hl2 hP hvs3 hvs2 hvs1 hvs hd ew er rl wv rm ho hrd; lia), hrd _, ?_⟩⟩
  · rw [vl, show (2 * ((2 * h : Nat) : Int) + 2) = ((2 * (2 * h) + 2 : Nat) : Int) by (clear h1 h6 hb hl hl2 hP hvs3 hvs2 hvs1 hvs hd ew er rl wv rm vl ho hrd; lia)]
  generalize hvals : (rsL (2 * h) run).map (valF 0) = vals at *
  unfold W_law_0_7
  (try dsimp only [xNil, xCons, xLift, xNext, xWhile, xFor, sTry, sIter, sRetOwn, q_xnxt, q_xret, appRead, wSubK, wIf, sSetSub, sCallM, setSubW, Int.toNat_natCast, bCons, bNil, sIte, sRet, sRetNone, sAssign, sAssignM, sAug, sUnpack, sSwap, sAppend, sReverse, sAugSub, sNever, sFrz, sWiden, sFor, sWhile, cCmp, cPlain, wName, wInt, wBool, wNone, wBin, wCmp, wUn, wNil, wCons, wCall, wBitLen, wTup, wLst, wSub, wSubM, wLenM, wCut, pNone, pSome, iSeq, iRange, iRev, frz, appW, augSubW, List.replicate_succ, List.replicate_zero, List.cons_append, List.nil_append, List.set_cons_succ, List.set_cons_zero, List.length_cons, List.length_nil, q_rv2, q_rv3, List.reverse_nil, q_add, q_sub, q_mul, q_fdiv, q_mod, q_shl, q_shr, q_and, q_or, q_xor, q_pow, q_cat, q_catv, q_rep, q_repv, q_eq, q_ne, q_lt, q_le, q_eql, q_nel, q_neg, q_inv, q_tri, q_unpt, q_unpi, q_set, q_set0, q_nxt, q_ret, q_rret, q_rnxt, q_getn, q_get0, q_pi, q_pl, q_pv, q_pt, q_pb, q_pn, q_itl, q_divmod, q_wn, q_wr, q_ln, q_lr, q_aadd, q_asub, q_ashl, q_ashr, q_aor, q_len, q_lenv, q_thaw, q_frz, q_frzv, q_subi, q_subv, q_subt, q_cuti, q_cutv, q_part, q_itv, q_itt, q_rev, q_rng1, q_rng3, q_lst0, wComp, wOne, wNst, wTst, sSwapM, augSubW, q_cutp, q_lst1, q_lst2, iZip, wLRange, wIndex, sAppNone, isM, itemsM, q_zip, q_lrange, q_sorted, q_lstl, q_lstb, q_index, q_isn, q_isi, q_eqt, q_net, q_nev, q_frzv, List.map]); (try simp only [V.isNone, true_and, and_true, Int.natCast_nonneg, decide_eq_true_eq, decide_eq_false_iff_not, List.append_nil, List.length_cons, List.length_nil, q_getn, q_get0, q_pi, q_pl, q_pv, q_pt, q_pb, q_pn, List.forall_mem_cons, List.map_cons, List.map_nil, forall_const, List.mem_nil_iff, false_implies, implies_true, List.not_mem_nil])
  refine compL_flat (f := isNF) (B := 2 ^ 20) (by rw [isN_flat, List.length_append, List.length_replicate]; simp; (clear hb hl hl2 hP hvs3 hvs2 hvs1 hvs hd ew er rl wv rm ho hvals hrd; lia)) (fun k v K hv hk hK => ?_) ?_
  · have : (∃ i : Nat, v = .int (i : Int)) ∨ v = .none := by
      rcases List.mem_append.mp hv with hv | hv
      · obtain ⟨i, _, rfl⟩ := List.mem_map.mp hv; exact .inl ⟨i, rfl⟩
      · right; simpa using hv
    rcases this with ⟨i, rfl⟩ | rfl
    · have hk : k + 1 ≤ 2 ^ 20 := hk
      exact ⟨trivial, by (clear h1 h6 hb hl hl2 hP hvs3 hvs2 hvs1 hvs hd ew er rl wv rm ho hvals vl hrd hv hK; lia), hK⟩
    · have hk : k + 1 ≤ 2 ^ 20 := hk
      exact ⟨trivial, by (clear h1 h6 hb hl hl2 hP hvs3 hvs2 hvs1 hvs hd ew er rl wv rm ho hvals vl hrd hv hK; lia), hK⟩
  rw [isN_flat, vl, show (2 * ((2 * h : Nat) : Int)).toNat = 2 * (2 * h) by (clear hb hl hl2 hP hvs3 hvs2 hvs1 hvs hd ew er rl wv rm ho hvals vl hrd; lia), flat_one]
  have lv : listV (List.replicate (2 * (2 * h)) (V.bool false) ++ [V.bool true, V.bool true]) = .list (List.replicate (2 * (2 * h)) (V.bool false) ++ [V.bool true, V.bool true]) := by
    obtain ⟨k, hk⟩ : ∃ k, 2 * (2 * h) = k + 1 := ⟨2 * (2 * h) - 1, by (clear hb hl hl2 hP hvs3 hvs2 hvs1 hvs hd ew er rl wv rm ho hvals vl hrd; lia)⟩
    rw [hk, List.replicate_succ]; rfl
  rw [lv]
  obtain ⟨nc1, nc2⟩ := none_cmp ⟨h - 1, by (clear hb hl hl2 hP hvs3 hvs2 hvs1 hvs hd ew er rl wv rm ho hvals vl hrd lv; omega)⟩
  simp only [show h - 1 + 1 = h by (clear hb hl hl2 hP hvs3 hvs2 hvs1 hvs hd ew er rl wv rm ho hvals vl hrd lv nc1 nc2; lia)] at nc1 nc2
  refine ⟨by decide, IntMulOk.of_left (by decide), by (clear hb hl hl2 hP hvs3 hvs2 hvs1 hvs hd ew er rl wv rm ho hvals vl hrd lv nc1 nc2; lia), by (clear hb hl hl2 hP hvs3 hvs2 hvs1 hvs hd ew er rl wv rm ho hvals vl hrd lv nc1 nc2; lia), by (clear hb hl hl2 hP hvs3 hvs2 hvs1 hvs hd ew er rl wv rm ho hvals vl hrd lv nc1 nc2; lia), by decide, by rw [List.length_replicate]; (clear hb hl hl2 hP hvs3 hvs2 hvs1 hvs hd ew er rl wv rm ho hvals vl hrd lv nc1 nc2; lia), ?_⟩
  rw [q_nev, nc2]
  refine ⟨nc1, ?_⟩
  show (false = true → _) ∧ (false = false → _)
  refine ⟨fun hc => (Bool.false_ne_true hc).elim, fun _ => ?_⟩
  unfold W_law_0_8
  (try dsimp only [xNil, xCons, xLift, xNext, xWhile, xFor, sTry, sIter, sRetOwn, q_xnxt, q_xret, appRead, wSubK, wIf, sSetSub, sCallM, setSubW, Int.toNat_natCast, bCons, bNil, sIte, sRet, sRetNone, sAssign, sAssignM, sAug, sUnpack, sSwap, sAppend, sReverse, sAugSub, sNever, sFrz, sWiden, sFor, sWhile, cCmp, cPlain, wName, wInt, wBool, wNone, wBin, wCmp, wUn, wNil, wCons, wCall, wBitLen, wTup, wLst, wSub, wSubM, wLenM, wCut, pNone, pSome, iSeq, iRange, iRev, frz, appW, augSubW, List.replicate_succ, List.replicate_zero, List.cons_append, List.nil_append, List.set_cons_succ, List.set_cons_zero, List.length_cons, List.length_nil, q_rv2, q_rv3, List.reverse_nil, q_add, q_sub, q_mul, q_fdiv, q_mod, q_shl, q_shr, q_and, q_or, q_xor, q_pow, q_cat, q_catv, q_rep, q_repv, q_eq, q_ne, q_lt, q_le, q_eql, q_nel, q_neg, q_inv, q_tri, q_unpt, q_unpi, q_set, q_set0, q_nxt, q_ret, q_rret, q_rnxt, q_getn, q_get0, q_pi, q_pl, q_pv, q_pt, q_pb, q_pn, q_itl, q_divmod, q_wn, q_wr, q_ln, q_lr, q_aadd, q_asub, q_ashl, q_ashr, q_aor, q_len, q_lenv, q_thaw, q_frz, q_frzv, q_subi, q_subv, q_subt, q_cuti, q_cutv, q_part, q_itv, q_itt, q_rev, q_rng1, q_rng3, q_lst0, wComp, wOne, wNst, wTst, sSwapM, augSubW, q_cutp, q_lst1, q_lst2, iZip, wLRange, wIndex, sAppNone, isM, itemsM, q_zip, q_lrange, q_sorted, q_lstl, q_lstb, q_index, q_isn, q_isi, q_eqt, q_net, q_nev, q_frzv, List.map]); (try simp only [V.isNone, true_and, and_true, Int.natCast_nonneg, decide_eq_true_eq, decide_eq_false_iff_not, List.append_nil, List.length_cons, List.length_nil, q_getn, q_get0, q_pi, q_pl, q_pv, q_pt, q_pb, q_pn, List.forall_mem_cons, List.map_cons, List.map_nil, forall_const, List.mem_nil_iff, false_implies, implies_true, List.not_mem_nil])
  have vget : ∀ j, j < 2 * h → vals[2 * j]? = some (valF 0 (run.drop j)) ∧ vals[2 * j + 1]? = some (valF 0 (walkL (2 * h) j (run.drop j)).1) := fun j hj => by
    have := flat2_get (fun i => run.drop i) (fun i => (walkL (2 * h) i (run.drop i)).1) (List.range (2 * h)) j j (List.getElem?_range hj)
    rw [← hvals, List.getElem?_map, List.getElem?_map]
    unfold rsL
    rw [this.1, this.2]
    exact ⟨rfl, rfl⟩
  generalize hrv : rowsV (rsL (2 * h) run) = rv
  refine ⟨small_nat (by (clear hb hl hl2 hP hvs3 hvs2 hvs1 hvs hd ew er rl wv rm ho hvals vl hrd lv nc1 nc2 vget hrv; lia)), fun j st => ∃ a b c d : V, st = [.ints sc, .int ((2 * h : Nat) : Int), goesV (2 * h), .ints (castL run), v4, v5, v6, v7, v8, v9, v10, v11, wsV (2 * h) run, rv, .list (vals.map (fun v => V.int ((v : Nat) : Int)) ++ [.none, .none]), a, b, c, d], ⟨_, _, _, _, rfl⟩, ?_, ?_⟩
  · rintro j v st hv ⟨a, b, c, d, rfl⟩
    obtain ⟨hj, rfl⟩ := range_get hv
    obtain ⟨g1, g2⟩ := vget j hj
    obtain ⟨w1, w2, w3, w4⟩ := wv j hj
    have e1 : (vals.map (fun v => V.int ((v : Nat) : Int)) ++ [V.none, V.none])[2 * j]? = some (.int ((valF 0 (run.drop j) : Nat) : Int)) := by
      rw [List.getElem?_append_left (by rw [List.length_map]; (clear h1 h6 hb hl hl2 hP hvs3 hvs2 hvs1 hvs hd ew er rl wv rm ho hvals hrd lv nc1 nc2 vget hrv hv g1 g2 w1 w2 w3 w4; lia)), List.getElem?_map, g1]; rfl
    have e2 : (vals.map (fun v => V.int ((v : Nat) : Int)) ++ [V.none, V.none])[2 * j + 1]? = some (.int ((valF 0 (walkL (2 * h) j (run.drop j)).1 : Nat) : Int)) := by
      rw [List.getElem?_append_left (by rw [List.length_map]; (clear h1 h6 hb hl hl2 hP hvs3 hvs2 hvs1 hvs hd ew er rl wv rm ho hvals hrd lv nc1 nc2 vget hrv hv g1 g2 w1 w2 w3 w4 e1; lia)), List.getElem?_map, g2]; rfl
    have hw : ((List.range (2 * h)).map (wkV (2 * h) run))[j]? = some (wkV (2 * h) run j) := by rw [List.getElem?_map, List.getElem?_range hj]; rfl
    unfold W_law_5_0
    (try dsimp only [xNil, xCons, xLift, xNext, xWhile, xFor, sTry, sIter, sRetOwn, q_xnxt, q_xret, appRead, wSubK, wIf, sSetSub, sCallM, setSubW, Int.toNat_natCast, bCons, bNil, sIte, sRet, sRetNone, sAssign, sAssignM, sAug, sUnpack, sSwap, sAppend, sReverse, sAugSub, sNever, sFrz, sWiden, sFor, sWhile, cCmp, cPlain, wName, wInt, wBool, wNone, wBin, wCmp, wUn, wNil, wCons, wCall, wBitLen, wTup, wLst, wSub, wSubM, wLenM, wCut, pNone, pSome, iSeq, iRange, iRev, frz, appW, augSubW, List.replicate_succ, List.replicate_zero, List.cons_append, List.nil_append, List.set_cons_succ, List.set_cons_zero, List.length_cons, List.length_nil, q_rv2, q_rv3, List.reverse_nil, q_add, q_sub, q_mul, q_fdiv, q_mod, q_shl, q_shr, q_and, q_or, q_xor, q_pow, q_cat, q_catv, q_rep, q_repv, q_eq, q_ne, q_lt, q_le, q_eql, q_nel, q_neg, q_inv, q_tri, q_unpt, q_unpi, q_set, q_set0, q_nxt, q_ret, q_rret, q_rnxt, q_getn, q_get0, q_pi, q_pl, q_pv, q_pt, q_pb, q_pn, q_itl, q_divmod, q_wn, q_wr, q_ln, q_lr, q_aadd, q_asub, q_ashl, q_ashr, q_aor, q_len, q_lenv, q_thaw, q_frz, q_frzv, q_subi, q_subv, q_subt, q_cuti, q_cutv, q_part, q_itv, q_itt, q_rev, q_rng1, q_rng3, q_lst0, wComp, wOne, wNst, wTst, sSwapM, augSubW, q_cutp, q_lst1, q_lst2, iZip, wLRange, wIndex, sAppNone, isM, itemsM, q_zip, q_lrange, q_sorted, q_lstl, q_lstb, q_index, q_isn, q_isi, q_eqt, q_net, q_nev, q_frzv, List.map]); (try simp only [V.isNone, true_and, and_true, Int.natCast_nonneg, decide_eq_true_eq, decide_eq_false_iff_not, List.append_nil, List.length_cons, List.length_nil, q_getn, q_get0, q_pi, q_pl, q_pv, q_pt, q_pb, q_pn, List.forall_mem_cons, List.map_cons, List.map_nil, forall_const, List.mem_nil_iff, false_implies, implies_true, List.not_mem_nil])
    have t1 : (2 * (j : Int)).toNat = 2 * j := by (clear h1 h6 hb hl hl2 hP hvs3 hvs2 hvs1 hvs hd ew er rl wv rm ho hvals vl hrd lv nc1 nc2 vget hrv hj hv g1 g2 w1 w2 w3 w4 e1 e2 hw; lia)
    have t2 : (2 * (j : Int) + 1).toNat = 2 * j + 1 := by (clear h1 h6 hb hl hl2 hP hvs3 hvs2 hvs1 hvs hd ew er rl wv rm ho hvals vl hrd lv nc1 nc2 vget hrv hj hv g1 g2 w1 w2 w3 w4 e1 e2 hw t1; lia)
    rw [t1, t2]
    refine ⟨IntMulOk.of_left (by decide), by (clear h1 h6 hb hl hl2 hP hvs3 hvs2 hvs1 hvs hd ew er rl wv rm ho hvals vl hrd lv nc1 nc2 vget hrv hj hv g1 g2 w1 w2 w3 w4 e1 e2 hw t1 t2; lia), by (clear hb hl hl2 hP hvs3 hvs2 hvs1 hvs hd ew er rl wv rm ho hvals vl hrd lv nc1 nc2 vget hrv hv g1 g2 w1 w2 w3 w4 e1 e2 hw t1 t2; lia), _, e1, IntMulOk.of_left (by decide), by (clear h1 h6 hb hl hl2 hP hvs3 hvs2 hvs1 hvs hd ew er rl wv rm ho hvals vl hrd lv nc1 nc2 vget hrv hj hv g1 g2 w1 w2 w3 w4 e1 e2 hw t1 t2; lia), by (clear hb hl hl2 hP hvs3 hvs2 hvs1 hvs hd ew er rl wv rm ho hvals vl hrd lv nc1 nc2 vget hrv hv g1 g2 w1 w2 w3 w4 e1 e2 hw t1 t2; lia), _, e2, by decide, ?_⟩
    have ld : (run.drop j).length = run.length - j := List.length_drop
    rw [ld] at w1
    have hfin : ∃ fin, (walkL (2 * h) j (run.drop j)).2 = fin := ⟨_, rfl⟩
    obtain ⟨fin, hfin⟩ := hfin
    rw [hfin] at w1 w4
    have hHb : valF 0 (walkL (2 * h) j (run.drop j)).1 < 2 ^ 24 := by
      have q := valF_lt (r := 0) (k := 0) w3 (by decide)
      rw [w2, ld, Nat.zero_add] at q
      exact Nat.lt_of_lt_of_le q (Nat.pow_le_pow_right (by decide) (by (clear h1 h6 hb hP hvs3 hvs2 hvs1 hvs hd ew er rl wv rm ho hvals vl hrd lv nc1 nc2 vget hrv hj hv g1 g2 w2 w3 e1 e2 hw t1 t2 ld w4 w1 hfin q; lia)))
    generalize valF 0 (run.drop j) = r at *
    generalize hHe : valF 0 (walkL (2 * h) j (run.drop j)).1 = H at *
    have hpw : 2 ^ (run.length - j) ≤ 2 ^ 24 := Nat.pow_le_pow_right (by decide) (by (clear h1 h6 hb hP hvs3 hvs2 hvs1 hvs hd ew er rl wv rm ho hvals vl hrd lv nc1 nc2 vget hrv hj hv w2 w3 hw t1 t2 ld w4 hfin g1 e1 hHe g2 e2 hHb w1; lia))
    unfold W_law_5_1
    (try dsimp only [xNil, xCons, xLift, xNext, xWhile, xFor, sTry, sIter, sRetOwn, q_xnxt, q_xret, appRead, wSubK, wIf, sSetSub, sCallM, setSubW, Int.toNat_natCast, bCons, bNil, sIte, sRet, sRetNone, sAssign, sAssignM, sAug, sUnpack, sSwap, sAppend, sReverse, sAugSub, sNever, sFrz, sWiden, sFor, sWhile, cCmp, cPlain, wName, wInt, wBool, wNone, wBin, wCmp, wUn, wNil, wCons, wCall, wBitLen, wTup, wLst, wSub, wSubM, wLenM, wCut, pNone, pSome, iSeq, iRange, iRev, frz, appW, augSubW, List.replicate_succ, List.replicate_zero, List.cons_append, List.nil_append, List.set_cons_succ, List.set_cons_zero, List.length_cons, List.length_nil, q_rv2, q_rv3, List.reverse_nil, q_add, q_sub, q_mul, q_fdiv, q_mod, q_shl, q_shr, q_and, q_or, q_xor, q_pow, q_cat, q_catv, q_rep, q_repv, q_eq, q_ne, q_lt, q_le, q_eql, q_nel, q_neg, q_inv, q_tri, q_unpt, q_unpi, q_set, q_set0, q_nxt, q_ret, q_rret, q_rnxt, q_getn, q_get0, q_pi, q_pl, q_pv, q_pt, q_pb, q_pn, q_itl, q_divmod, q_wn, q_wr, q_ln, q_lr, q_aadd, q_asub, q_ashl, q_ashr, q_aor, q_len, q_lenv, q_thaw, q_frz, q_frzv, q_subi, q_subv, q_subt, q_cuti, q_cutv, q_part, q_itv, q_itt, q_rev, q_rng1, q_rng3, q_lst0, wComp, wOne, wNst, wTst, sSwapM, augSubW, q_cutp, q_lst1, q_lst2, iZip, wLRange, wIndex, sAppNone, isM, itemsM, q_zip, q_lrange, q_sorted, q_lstl, q_lstb, q_index, q_isn, q_isi, q_eqt, q_net, q_nev, q_frzv, List.map]); (try simp only [V.isNone, true_and, and_true, Int.natCast_nonneg, decide_eq_true_eq, decide_eq_false_iff_not, List.append_nil, List.length_cons, List.length_nil, q_getn, q_get0, q_pi, q_pl, q_pv, q_pt, q_pb, q_pn, List.forall_mem_cons, List.map_cons, List.map_nil, forall_const, List.mem_nil_iff, false_implies, implies_true, List.not_mem_nil])
    rw [castL_len, bxor_nat, show ((run.length : Int) - (j : Int)).toNat = run.length - j by (clear hb hP hvs3 hvs2 hvs1 hvs hd ew er rl wv rm ho hvals vl hrd lv nc1 nc2 vget hrv hv w3 hw t1 t2 w4 hfin g1 e1 hHe g2 e2 hHb w1 hpw; lia), ← cast_pow2 (run.length - j), ← Int.natCast_mul, ← Int.natCast_add, w1]
    refine ⟨by (clear h1 h6 hb hP hvs3 hvs2 hvs1 hvs hd ew er rl wv rm ho hvals vl hrd lv nc1 nc2 vget hrv hj hv w2 w3 hw t1 t2 ld w4 hfin g1 e1 hHe g2 e2 hHb w1 hpw; lia), by (clear hb hP hvs3 hvs2 hvs1 hvs hd ew er rl wv rm ho hvals vl hrd lv nc1 nc2 vget hrv hv w2 w3 hw t1 t2 ld w4 hfin g1 e1 hHe g2 e2 hHb w1 hpw; lia), by have : Builtin.Int.intBits (j : Int) ≤ 6 := bits_lt (by (clear h1 h6 hb hl hl2 hP hvs3 hvs2 hvs1 hvs hd ew er rl wv rm ho hvals vl hrd lv nc1 nc2 vget hrv hj hv w2 w3 hw t1 t2 ld w4 hfin g1 e1 hHe g2 e2 hHb w1 hpw; lia)) (by (clear hb hl hl2 hP hvs3 hvs2 hvs1 hvs hd ew er rl wv rm ho hvals vl hrd lv nc1 nc2 vget hrv hv w2 w3 hw t1 t2 ld w4 hfin g1 e1 hHe g2 e2 hHb w1 hpw; lia)); (clear h1 h6 hb hP hvs3 hvs2 hvs1 hvs hd ew er rl wv rm ho hvals vl hrd lv nc1 nc2 vget hrv hj hv w2 w3 hw t1 t2 ld w4 hfin g1 e1 hHe g2 e2 hHb w1 hpw; lia), ?_⟩
    unfold W_law_5_2
    (try dsimp only [xNil, xCons, xLift, xNext, xWhile, xFor, sTry, sIter, sRetOwn, q_xnxt, q_xret, appRead, wSubK, wIf, sSetSub, sCallM, setSubW, Int.toNat_natCast, bCons, bNil, sIte, sRet, sRetNone, sAssign, sAssignM, sAug, sUnpack, sSwap, sAppend, sReverse, sAugSub, sNever, sFrz, sWiden, sFor, sWhile, cCmp, cPlain, wName, wInt, wBool, wNone, wBin, wCmp, wUn, wNil, wCons, wCall, wBitLen, wTup, wLst, wSub, wSubM, wLenM, wCut, pNone, pSome, iSeq, iRange, iRev, frz, appW, augSubW, List.replicate_succ, List.replicate_zero, List.cons_append, List.nil_append, List.set_cons_succ, List.set_cons_zero, List.length_cons, List.length_nil, q_rv2, q_rv3, List.reverse_nil, q_add, q_sub, q_mul, q_fdiv, q_mod, q_shl, q_shr, q_and, q_or, q_xor, q_pow, q_cat, q_catv, q_rep, q_repv, q_eq, q_ne, q_lt, q_le, q_eql, q_nel, q_neg, q_inv, q_tri, q_unpt, q_unpi, q_set, q_set0, q_nxt, q_ret, q_rret, q_rnxt, q_getn, q_get0, q_pi, q_pl, q_pv, q_pt, q_pb, q_pn, q_itl, q_divmod, q_wn, q_wr, q_ln, q_lr, q_aadd, q_asub, q_ashl, q_ashr, q_aor, q_len, q_lenv, q_thaw, q_frz, q_frzv, q_subi, q_subv, q_subt, q_cuti, q_cutv, q_part, q_itv, q_itt, q_rev, q_rng1, q_rng3, q_lst0, wComp, wOne, wNst, wTst, sSwapM, augSubW, q_cutp, q_lst1, q_lst2, iZip, wLRange, wIndex, sAppNone, isM, itemsM, q_zip, q_lrange, q_sorted, q_lstl, q_lstb, q_index, q_isn, q_isi, q_eqt, q_net, q_nev, q_frzv, List.map]); (try simp only [V.isNone, true_and, and_true, Int.natCast_nonneg, decide_eq_true_eq, decide_eq_false_iff_not, List.append_nil, List.length_cons, List.length_nil, q_getn, q_get0, q_pi, q_pl, q_pv, q_pt, q_pb, q_pn, List.forall_mem_cons, List.map_cons, List.map_nil, forall_const, List.mem_nil_iff, false_implies, implies_true, List.not_mem_nil])
    have hbig : 2 * h * H ≤ 12 * 2 ^ 24 := Nat.mul_le_mul (by (clear hb hl hl2 hP hvs3 hvs2 hvs1 hvs hd ew er rl wv rm ho hvals vl hrd lv nc1 nc2 vget hrv hj hv w2 w3 hw t1 t2 ld w4 hfin g1 e1 hHe g2 e2 hHb w1 hpw; lia)) (by (clear h1 h6 hb hl hl2 hP hvs3 hvs2 hvs1 hvs hd ew er rl wv rm ho hvals vl hrd lv nc1 nc2 vget hrv hj hv w2 w3 hw t1 t2 ld w4 hfin g1 e1 g2 e2 w1 hpw; lia))
    obtain ⟨d1, d2⟩ := divmod_of (a := ((2 * h * H + fin : Nat) : Int)) (b := ((2 * h : Nat) : Int)) (q := (H : Int)) (r := (fin : Int)) (by rw [Int.natCast_add, Int.natCast_mul (2 * h) H, Int.mul_comm]) (by (clear h1 h6 hb hl hl2 hP hvs3 hvs2 hvs1 hvs hd ew er rl wv rm ho hvals vl hrd lv nc1 nc2 vget hrv hj hv w2 w3 hw t1 t2 ld w4 g1 e1 hHe g2 e2 hHb hpw hbig; lia)) (by (clear h1 h6 hb hl hl2 hP hvs3 hvs2 hvs1 hvs hd ew er rl wv rm ho hvals vl hrd lv nc1 nc2 vget hrv hj hv w2 w3 hw t1 t2 ld g1 e1 hHe g2 e2 hHb hpw hbig; lia))
    refine ⟨_, _, rfl, .inl ⟨by (clear hb hl hl2 hP hvs3 hvs2 hvs1 hvs hd ew er rl wv rm ho hvals vl hrd lv nc1 nc2 vget hrv hj hv w2 w3 hw t1 t2 ld w4 hfin g1 e1 hHe g2 e2 hHb w1 hpw hbig d1 d2; lia), fun _ => preD_sm (k := 40) (by omega) (by (clear hb hl hl2 hP hvs3 hvs2 hvs1 hvs hd ew er rl wv rm ho hvals vl hrd lv nc1 nc2 vget hrv hj hv w2 w3 hw t1 t2 ld g1 e1 hHe g2 e2 hHb hpw d1; lia)) (by decide) (by omega) (by (clear hb hl hl2 hP hvs3 hvs2 hvs1 hvs hd ew er rl wv rm ho hvals vl hrd lv nc1 nc2 vget hrv hj hv w2 w3 hw t1 t2 ld w4 hfin g1 e1 hHe g2 e2 hHb w1 hpw hbig d1 d2; lia)), fun hn => by (clear h1 h6 hb hl hl2 hP hvs3 hvs2 hvs1 hvs hd ew er rl wv rm ho hvals vl hrd lv nc1 nc2 vget hrv hj hv w2 w3 hw t1 t2 ld w4 g1 e1 hHe g2 e2 hHb hpw hbig d1; lia), ?_⟩⟩
    rw [d1, d2]
    simp only [wsV, q_subv, Int.toNat_natCast]
    refine ⟨trivial, by omega, by (clear hb hl hl2 hP hvs3 hvs2 hvs1 hvs hd ew er rl wv rm ho hvals vl hrd lv nc1 nc2 vget hrv hv w2 w3 hw t1 t2 ld w4 hfin g1 e1 hHe g2 e2 hHb w1 hpw hbig d1 d2; lia), _, hw, ?_⟩
    simp only [wkV, q_subt, hfin]
    refine ⟨by decide, by decide, _, rfl, by decide, ?_⟩
    refine ne_tup ?_
    refine ⟨fun hc => by simp at hc, fun _ => ⟨_, _, _, _, rfl⟩⟩
  · rintro st ⟨a, b, c, d, rfl⟩
    unfold W_law_0_9
    (try dsimp only [xNil, xCons, xLift, xNext, xWhile, xFor, sTry, sIter, sRetOwn, q_xnxt, q_xret, appRead, wSubK, wIf, sSetSub, sCallM, setSubW, Int.toNat_natCast, bCons, bNil, sIte, sRet, sRetNone, sAssign, sAssignM, sAug, sUnpack, sSwap, sAppend, sReverse, sAugSub, sNever, sFrz, sWiden, sFor, sWhile, cCmp, cPlain, wName, wInt, wBool, wNone, wBin, wCmp, wUn, wNil, wCons, wCall, wBitLen, wTup, wLst, wSub, wSubM, wLenM, wCut, pNone, pSome, iSeq, iRange, iRev, frz, appW, augSubW, List.replicate_succ, List.replicate_zero, List.cons_append, List.nil_append, List.set_cons_succ, List.set_cons_zero, List.length_cons, List.length_nil, q_rv2, q_rv3, List.reverse_nil, q_add, q_sub, q_mul, q_fdiv, q_mod, q_shl, q_shr, q_and, q_or, q_xor, q_pow, q_cat, q_catv, q_rep, q_repv, q_eq, q_ne, q_lt, q_le, q_eql, q_nel, q_neg, q_inv, q_tri, q_unpt, q_unpi, q_set, q_set0, q_nxt, q_ret, q_rret, q_rnxt, q_getn, q_get0, q_pi, q_pl, q_pv, q_pt, q_pb, q_pn, q_itl, q_divmod, q_wn, q_wr, q_ln, q_lr, q_aadd, q_asub, q_ashl, q_ashr, q_aor, q_len, q_lenv, q_thaw, q_frz, q_frzv, q_subi, q_subv, q_subt, q_cuti, q_cutv, q_part, q_itv, q_itt, q_rev, q_rng1, q_rng3, q_lst0, wComp, wOne, wNst, wTst, sSwapM, augSubW, q_cutp, q_lst1, q_lst2, iZip, wLRange, wIndex, sAppNone, isM, itemsM, q_zip, q_lrange, q_sorted, q_lstl, q_lstb, q_index, q_isn, q_isi, q_eqt, q_net, q_nev, q_frzv, List.map]); (try simp only [V.isNone, true_and, and_true, Int.natCast_nonneg, decide_eq_true_eq, decide_eq_false_iff_not, List.append_nil, List.length_cons, List.length_nil, q_getn, q_get0, q_pi, q_pl, q_pv, q_pt, q_pb, q_pn, List.forall_mem_cons, List.map_cons, List.map_nil, forall_const, List.mem_nil_iff, false_implies, implies_true, List.not_mem_nil])
    exact hP
end Mine
end
section
open PySem PySem.Calls PyProof.Rows PySem.W PySem.Spec PySem.SeqAt
set_option Elab.async false
set_option maxRecDepth 100000
set_option linter.unusedVariables false
set_option linter.unusedSimpArgs false
namespace Mine
theorem w_law2 {sc : List Int} (hl : sc.length ≤ 2 ^ 20) {P : V → Prop} (hP : P (.bool true)) : WI W_law ([.ints sc] ++ List.replicate 18 .unb) (retP P) := by
  unfold WI W_law
  (try dsimp only [xNil, xCons, xLift, xNext, xWhile, xFor, sTry, sIter, sRetOwn, q_xnxt, q_xret, appRead, wSubK, wIf, sSetSub, sCallM, setSubW, Int.toNat_natCast, bCons, bNil, sIte, sRet, sRetNone, sAssign, sAssignM, sAug, sUnpack, sSwap, sAppend, sReverse, sAugSub, sNever, sFrz, sWiden, sFor, sWhile, cCmp, cPlain, wName, wInt, wBool, wNone, wBin, wCmp, wUn, wNil, wCons, wCall, wBitLen, wTup, wLst, wSub, wSubM, wLenM, wCut, pNone, pSome, iSeq, iRange, iRev, frz, appW, augSubW, List.replicate_succ, List.replicate_zero, List.cons_append, List.nil_append, List.set_cons_succ, List.set_cons_zero, List.length_cons, List.length_nil, q_rv2, q_rv3, List.reverse_nil, q_add, q_sub, q_mul, q_fdiv, q_mod, q_shl, q_shr, q_and, q_or, q_xor, q_pow, q_cat, q_catv, q_rep, q_repv, q_eq, q_ne, q_lt, q_le, q_eql, q_nel, q_neg, q_inv, q_tri, q_unpt, q_unpi, q_set, q_set0, q_nxt, q_ret, q_rret, q_rnxt, q_getn, q_get0, q_pi, q_pl, q_pv, q_pt, q_pb, q_pn, q_itl, q_divmod, q_wn, q_wr, q_ln, q_lr, q_aadd, q_asub, q_ashl, q_ashr, q_aor, q_len, q_lenv, q_thaw, q_frz, q_frzv, q_subi, q_subv, q_subt, q_cuti, q_cutv, q_part, q_itv, q_itt, q_rev, q_rng1, q_rng3, q_lst0, wComp, wOne, wNst, wTst, sSwapM, augSubW, q_cutp, q_lst1, q_lst2, iZip, wLRange, wIndex, sAppNone, isM, itemsM, q_zip, q_lrange, q_sorted, q_lstl, q_lstb, q_index, q_isn, q_isi, q_eqt, q_net, q_nev, q_frzv, List.map]); (try simp only [V.isNone, true_and, and_true, Int.natCast_nonneg, decide_eq_true_eq, decide_eq_false_iff_not, List.append_nil, List.length_cons, List.length_nil, q_getn, q_get0, q_pi, q_pl, q_pv, q_pt, q_pb, q_pn, List.forall_mem_cons, List.map_cons, List.map_nil, forall_const, List.mem_nil_iff, false_implies, implies_true, List.not_mem_nil])
  obtain ⟨k, ek, hk⟩ := modN ((sc ++ [4]).getD (0 : Int).toNat 0) (n := 6) (by decide)
  rw [show (6 : Int) = ((6 : Nat) : Int) from rfl, ek, show (2 : Int) + 2 * (k : Int) = ((2 * (k + 1) : Nat) : Int) by (clear hl hP ek hk; lia)]
  refine ⟨by decide, by (clear hP ek hk; lia), by decide, by rw [List.length_append]; simp, by decide, by decide, IntMulOk.of_left (by decide), ?_⟩
  generalize hh : k + 1 = h
  have h1 : 1 ≤ h := by (clear hl hP ek; lia)
  have h6 : h ≤ 6 := by (clear hl hP ek h1; lia)
  unfold W_law_0_1
  (try dsimp only [xNil, xCons, xLift, xNext, xWhile, xFor, sTry, sIter, sRetOwn, q_xnxt, q_xret, appRead, wSubK, wIf, sSetSub, sCallM, setSubW, Int.toNat_natCast, bCons, bNil, sIte, sRet, sRetNone, sAssign, sAssignM, sAug, sUnpack, sSwap, sAppend, sReverse, sAugSub, sNever, sFrz, sWiden, sFor, sWhile, cCmp, cPlain, wName, wInt, wBool, wNone, wBin, wCmp, wUn, wNil, wCons, wCall, wBitLen, wTup, wLst, wSub, wSubM, wLenM, wCut, pNone, pSome, iSeq, iRange, iRev, frz, appW, augSubW, List.replicate_succ, List.replicate_zero, List.cons_append, List.nil_append, List.set_cons_succ, List.set_cons_zero, List.length_cons, List.length_nil, q_rv2, q_rv3, List.reverse_nil, q_add, q_sub, q_mul, q_fdiv, q_mod, q_shl, q_shr, q_and, q_or, q_xor, q_pow, q_cat, q_catv, q_rep, q_repv, q_eq, q_ne, q_lt, q_le, q_eql, q_nel, q_neg, q_inv, q_tri, q_unpt, q_unpi, q_set, q_set0, q_nxt, q_ret, q_rret, q_rnxt, q_getn, q_get0, q_pi, q_pl, q_pv, q_pt, q_pb, q_pn, q_itl, q_divmod, q_wn, q_wr, q_ln, q_lr, q_aadd, q_asub, q_ashl, q_ashr, q_aor, q_len, q_lenv, q_thaw, q_frz, q_frzv, q_subi, q_subv, q_subt, q_cuti, q_cutv, q_part, q_itv, q_itt, q_rev, q_rng1, q_rng3, q_lst0, wComp, wOne, wNst, wTst, sSwapM, augSubW, q_cutp, q_lst1, q_lst2, iZip, wLRange, wIndex, sAppNone, isM, itemsM, q_zip, q_lrange, q_sorted, q_lstl, q_lstb, q_index, q_isn, q_isi, q_eqt, q_net, q_nev, q_frzv, List.map]); (try simp only [V.isNone, true_and, and_true, Int.natCast_nonneg, decide_eq_true_eq, decide_eq_false_iff_not, List.append_nil, List.length_cons, List.length_nil, q_getn, q_get0, q_pi, q_pl, q_pv, q_pt, q_pb, q_pn, List.forall_mem_cons, List.map_cons, List.map_nil, forall_const, List.mem_nil_iff, false_implies, implies_true, List.not_mem_nil])
  refine ⟨h, rfl, h1, h6, ?_⟩
  unfold W_law_0_2
  (try dsimp only [xNil, xCons, xLift, xNext, xWhile, xFor, sTry, sIter, sRetOwn, q_xnxt, q_xret, appRead, wSubK, wIf, sSetSub, sCallM, setSubW, Int.toNat_natCast, bCons, bNil, sIte, sRet, sRetNone, sAssign, sAssignM, sAug, sUnpack, sSwap, sAppend, sReverse, sAugSub, sNever, sFrz, sWiden, sFor, sWhile, cCmp, cPlain, wName, wInt, wBool, wNone, wBin, wCmp, wUn, wNil, wCons, wCall, wBitLen, wTup, wLst, wSub, wSubM, wLenM, wCut, pNone, pSome, iSeq, iRange, iRev, frz, appW, augSubW, List.replicate_succ, List.replicate_zero, List.cons_append, List.nil_append, List.set_cons_succ, List.set_cons_zero, List.length_cons, List.length_nil, q_rv2, q_rv3, List.reverse_nil, q_add, q_sub, q_mul, q_fdiv, q_mod, q_shl, q_shr, q_and, q_or, q_xor, q_pow, q_cat, q_catv, q_rep, q_repv, q_eq, q_ne, q_lt, q_le, q_eql, q_nel, q_neg, q_inv, q_tri, q_unpt, q_unpi, q_set, q_set0, q_nxt, q_ret, q_rret, q_rnxt, q_getn, q_get0, q_pi, q_pl, q_pv, q_pt, q_pb, q_pn, q_itl, q_divmod, q_wn, q_wr, q_ln, q_lr, q_aadd, q_asub, q_ashl, q_ashr, q_aor, q_len, q_lenv, q_thaw, q_frz, q_frzv, q_subi, q_subv, q_subt, q_cuti, q_cutv, q_part, q_itv, q_itt, q_rev, q_rng1, q_rng3, q_lst0, wComp, wOne, wNst, wTst, sSwapM, augSubW, q_cutp, q_lst1, q_lst2, iZip, wLRange, wIndex, sAppNone, isM, itemsM, q_zip, q_lrange, q_sorted, q_lstl, q_lstb, q_index, q_isn, q_isi, q_eqt, q_net, q_nev, q_frzv, List.map]); (try simp only [V.isNone, true_and, and_true, Int.natCast_nonneg, decide_eq_true_eq, decide_eq_false_iff_not, List.append_nil, List.length_cons, List.length_nil, q_getn, q_get0, q_pi, q_pl, q_pv, q_pt, q_pb, q_pn, List.forall_mem_cons, List.map_cons, List.map_nil, forall_const, List.mem_nil_iff, false_implies, implies_true, List.not_mem_nil])
  unfold W_law_0_3
  (try dsimp only [xNil, xCons, xLift, xNext, xWhile, xFor, sTry, sIter, sRetOwn, q_xnxt, q_xret, appRead, wSubK, wIf, sSetSub, sCallM, setSubW, Int.toNat_natCast, bCons, bNil, sIte, sRet, sRetNone, sAssign, sAssignM, sAug, sUnpack, sSwap, sAppend, sReverse, sAugSub, sNever, sFrz, sWiden, sFor, sWhile, cCmp, cPlain, wName, wInt, wBool, wNone, wBin, wCmp, wUn, wNil, wCons, wCall, wBitLen, wTup, wLst, wSub, wSubM, wLenM, wCut, pNone, pSome, iSeq, iRange, iRev, frz, appW, augSubW, List.replicate_succ, List.replicate_zero, List.cons_append, List.nil_append, List.set_cons_succ, List.set_cons_zero, List.length_cons, List.length_nil, q_rv2, q_rv3, List.reverse_nil, q_add, q_sub, q_mul, q_fdiv, q_mod, q_shl, q_shr, q_and, q_or, q_xor, q_pow, q_cat, q_catv, q_rep, q_repv, q_eq, q_ne, q_lt, q_le, q_eql, q_nel, q_neg, q_inv, q_tri, q_unpt, q_unpi, q_set, q_set0, q_nxt, q_ret, q_rret, q_rnxt, q_getn, q_get0, q_pi, q_pl, q_pv, q_pt, q_pb, q_pn, q_itl, q_divmod, q_wn, q_wr, q_ln, q_lr, q_aadd, q_asub, q_ashl, q_ashr, q_aor, q_len, q_lenv, q_thaw, q_frz, q_frzv, q_subi, q_subv, q_subt, q_cuti, q_cutv, q_part, q_itv, q_itt, q_rev, q_rng1, q_rng3, q_lst0, wComp, wOne, wNst, wTst, sSwapM, augSubW, q_cutp, q_lst1, q_lst2, iZip, wLRange, wIndex, sAppNone, isM, itemsM, q_zip, q_lrange, q_sorted, q_lstl, q_lstb, q_index, q_isn, q_isi, q_eqt, q_net, q_nev, q_frzv, List.map]); (try simp only [V.isNone, true_and, and_true, Int.natCast_nonneg, decide_eq_true_eq, decide_eq_false_iff_not, List.append_nil, List.length_cons, List.length_nil, q_getn, q_get0, q_pi, q_pl, q_pv, q_pt, q_pb, q_pn, List.forall_mem_cons, List.map_cons, List.map_nil, forall_const, List.mem_nil_iff, false_implies, implies_true, List.not_mem_nil])
  generalize hws : cutL sc (some 1) (some 3) none = ws
  have hw2 : ws.length ≤ 2 := by
    rw [← hws, cutL_one, List.length_take]
    refine Nat.le_trans (Nat.min_le_left ..) ?_
    simp only [kms_lo, kms_hi]
    rw [if_neg (by decide), if_neg (by decide)]
    have a1 : (1 : Int).toNat = 1 := rfl
    have a3 : (3 : Int).toNat = 3 := rfl
    (clear hP ek hk hh h1 h6 hws; lia)
  refine ⟨by decide, by (clear hP ek hk hh h1 h6 hws hw2; lia), by decide, by decide, by (clear hl hP ek hk hh h1 h6 hws; lia), fun j st => ∃ (run : List Nat) (vs : List V), st = [.ints sc, .int ((2 * h : Nat) : Int), goesV (2 * h), .ints (castL run)] ++ vs ∧ vs.length = 15 ∧ (∀ b ∈ run, b < 2) ∧ run.length ≤ 6 * j ∧ 6 * (j - ws.length) ≤ run.length,
    ⟨[], _, rfl, rfl, (fun b hb => by cases hb), by simp, by simp⟩, ?_, ?_⟩
  · rintro j v st hv ⟨run, vs, rfl, hvs, hb, hr1, hr2⟩
    rw [List.getElem?_map] at hv
    obtain ⟨w, hx, rfl⟩ := Option.map_eq_some_iff.mp hv
    have hj : j < ws.length + 2 := by
      have := (List.getElem?_eq_some_iff.mp hx).1
      rw [List.length_append] at this; exact this
    have h7 : ws.length ≤ j → w.fmod 7 = 6 := fun hle => by
      rw [List.getElem?_append_right hle] at hx
      have : j - ws.length = 0 ∨ j - ws.length = 1 := by (clear hl hP ek hk hh h1 h6 hws hw2 hvs hb hr1 hr2 hx hv; lia)
      rcases this with e | e
      · rw [e] at hx; injection hx with hx; subst hx; decide
      · rw [e] at hx; injection hx with hx; subst hx; decide
    obtain ⟨v4, vs', rfl⟩ : ∃ v4 vs', vs = v4 :: vs' := by
      cases vs with
      | nil => cases hvs
      | cons a l => exact ⟨a, l, rfl⟩
    refine w_wish (w := w) (vs := vs') h1 h6 hb (by (clear hl hP ek hk hh h1 h6 hws hb hr2 hx hv h7 hvs; lia)) (by simpa using hvs) fun run' vs'' k1 k2 k3 k4 k5 => ?_
    refine ⟨run', .int w :: vs'', rfl, by simp [k1], k2, by (clear hl hP ek hk hh h1 h6 hws hw2 hb hr2 hx hv hj h7 hvs k1 k2 k5; lia), ?_⟩
    by_cases hle : ws.length ≤ j
    · have := k5 (h7 hle); (clear hl hP ek hk hh h1 h6 hws hw2 hb hr1 hx hv hvs k1 k2 k3 k4; lia)
    · (clear hl hP ek hk hh h1 h6 hws hb hr2 hx hv hj h7 hvs k1 k2 k5; lia)
  · rintro st ⟨run, vs, rfl, hvs, hb, hr1, hr2⟩
    rw [List.length_map, List.length_append] at hr1 hr2
    have e2 : [(1259 : Int), 671].length = 2 := rfl
    rw [e2] at hr1 hr2
    exact w_tail h1 h6 hb (by (clear hl hP ek hk hh h1 h6 hws hw2 hvs hb hr1 e2; lia)) (by (clear hl hP ek hk hh h1 h6 hws hvs hb hr2 e2; lia)) hvs hP
noncomputable def T_law2 (vs : List V) (P : V → Prop) : Prop := ∃ sc : List Int, vs = [.ints sc] ∧ sc.length ≤ 2 ^ 20 ∧ P (.bool true)
theorem pca_law2 (C : Cx) (hK : C.K = KK C.w.params) {tabs : List Tab} (hC : TC C tabs) (ht1 : tab1 ∈ tabs) (ht2 : tab2 ∈ tabs) : PCA (fun A => A.frames = some []) C 30 (.ref 104) T_law2 := by
  refine PCA.mono (PCA.fn (n := 29) (W := WI W_law) (fnok_law C hK) fun A L h₀ hz ok => ?_) ?_
  · exact ex_law C hK (pc_goes C hK) (by decide) (pc_rows C hK) (by decide) (pc_told C hK hC ht1 ht2) (by decide) (pc_walk C hK) (by decide) (pc_oct C hK) (by decide) (pc_idm C hK hC ht1 ht2) (by decide) (m__law_read := 2) (by decide) A L h₀
      (un_first ok rfl (Around.frames_deeper hz) (pcx_rd2 C hK)) ok
  · rintro vs P ⟨sc, rfl, hl, hP⟩
    exact ⟨rfl, w_law2 hl hP⟩
end Mine
end
section
open PySem PySem.Calls PyProof.Rows PySem.W PySem.Spec
set_option Elab.async false
set_option maxRecDepth 100000
set_option linter.unusedVariables false
namespace Mine
theorem all2 {a b : Addr} {P : Addr → Prop} (h1 : P a) (h2 : P b) : ∀ g ∈ [a, b], P g := fun g hg => by
  rcases List.mem_cons.mp hg with rfl | hg
  · exact h1
  · rw [List.mem_singleton] at hg; subst hg; exact h2
noncomputable def cx (w : World) : Cx where
  prog := pw
  w := w
  K := KK w.params
  G := [30, 37]
  Tb := tabsOk [tab1, tab2]
  stays := fun h h' t s => t.stays s
  but := fun h h' S t hS k => t.but hS k
  alive := fun h t => t.alive
  kG := all2 (by kernel_rfl) (by kernel_rfl)
  gG := by decide
  bG := by decide
  cG := by decide
theorem cx_tc (w : World) : TC (cx w) [tab1, tab2] := ⟨rfl, rfl, by show [30, 37].Nodup; decide⟩
theorem cx_tb {w : World} {h : Heap} (inK : (KK w.params).In h) (ht : ∀ P ∈ [37, 30], h.get? P = some (tabObj #[])) : (cx w).Tb h := by
  intro t hm
  rcases List.mem_cons.mp hm with rfl | hm
  · exact ⟨codeHd_of_K inK (by kernel_rfl), #[], ht 30 (by simp), trivial, .inl rfl⟩
  · rw [List.mem_singleton] at hm; subst hm
    exact ⟨codeHd_of_K inK (by kernel_rfl), #[], ht 37 (by simp), trivial, .inl rfl⟩
theorem cx_wd {w : World} {p : Program} {loose : List Str} {mean : ExcName → Option Value} {mg mb : Str → Option Value} {h : Heap} (T : Top p loose mean mg mb h) (inK : (KK w.params).In h) (ht : ∀ P ∈ [37, 30], h.get? P = some (tabObj #[])) : Wd (cx w) h where
  inK := inK
  g := ⟨mg, T.g⟩
  b := ⟨mb, T.b, T.builtins⟩
  nl := T.nolimit
  bm := by
    obtain ⟨bm, ob, h1, h2, h3, h4, h5, h6⟩ := T.bmain
    have al : ∀ P ∈ [37, 30], bm ≠ P := fun P hP e => by rw [e, ht P hP] at h3; injection h3 with h3; rw [← h3] at h4; cases h4
    refine ⟨mg, bm, ob, T.g, h1, h2, fun e => ?_, fun q => ?_, h3, h4, h5, h6⟩
    · obtain ⟨o, es, ep, e1, e2, _⟩ := T.g
      rw [e, e1] at h3; injection h3 with h3; rw [← h3, e2] at h6; cases h6
    · rcases List.mem_cons.mp q with q | q
      · exact al 30 (by simp) q
      · exact al 37 (by simp) (List.mem_singleton.mp q)
theorem oldK_of {w : World} {h h' : Heap} (inK : (KK w.params).In h) (ht : ∀ P ∈ [37, 30], h.get? P = some (tabObj #[])) (g : Gr (cx w) h h') : OldK h h' := by
  have tb := g.tb (cx_tb inK ht)
  have code : ∀ t ∈ [tab1, tab2], isCodeTable h t.P ∧ ∃ ps, h'.get? t.P = some (tabObj ps) := fun t hm => by
    obtain ⟨⟨o, vs, _, _, _, _, _, _, _, e1, e2, e3, e4, _⟩, _⟩ := cx_tb inK ht t hm
    obtain ⟨_, ps, e5, _⟩ := tb t hm
    exact ⟨⟨_, o, vs, e1, e2, e3, e4⟩, ps, e5⟩
  have key : ∀ b ∈ [30, 37], isCodeTable h b ∧ ∃ ps, h'.get? b = some (tabObj ps) := all2 (code tab1 (by simp)) (code tab2 (by simp))
  refine ⟨fun b o e => ?_, fun b o e => ?_⟩
  · by_cases hb : b ∈ [30, 37]
    · obtain ⟨k1, ps, k2⟩ := key b hb
      have e' := ht b (by simp only [List.mem_cons, List.not_mem_nil, or_false] at hb ⊢; exact hb.symm)
      rw [e'] at e; injection e with e; subst e
      exact .inr (.inl ⟨k1, rfl, #[], ps, rfl, by rw [k2]; simp [tabObj]⟩)
    · exact .inl (g.keep b o hb e)
  · by_cases hb : b ∈ [30, 37]
    · obtain ⟨_, ps, k2⟩ := key b hb
      exact ⟨_, k2⟩
    · exact ⟨o, g.keep b o hb e⟩
end Mine
namespace Mine
theorem plain_of {P : Params} {h : Heap} {v : Value} {d : WData} (x : Well P h v d) : ∀ a xs, v = .ref a → d = .list xs → ∃ vs : List Value, h.get? a = some { cls := .type "list", data := .seq vs.toArray } := by
  intro a xs e1 e2
  cases x <;> first | (cases e2; done) | (cases e1; done) | skip
  rename_i h1 h2
  cases e1
  exact ⟨_, h1⟩
end Mine
set_option maxHeartbeats 8000000 in
theorem PySem.Challenge.cw_ph0083_02_holds : PySem.Challenge.rw_ph0083_02.Holds := by
  w_on
  o_law
  o_head (kmHook Mine.KK [3, 21, 28, 35, 42, 49, 56, 63, 68, 73, 78, 85, 92, 99, 104, 20, 27, 34, 41, 48, 55, 62, 67, 72, 77, 84, 91, 98, 103] Mine.kk_as [37, 30])
  case hw => w_witness2
  intro w s₀ s₁ mg mb G Y fa o pm cd doc dV kV ho hdd hcd hD hmg hg args vals as hpre hlay hrd hwl hlo
  refine Ground.open G ?_
  intro T B D TE TW
  have inK : (Mine.KK w.params).In s₁.heap := Y.1
  have ht : ∀ P ∈ [37, 30], s₁.heap.get? P = some (tabObj #[]) := Y.2
  have hfa : mg (Str.ofString "law") = some (.ref 104) := mg_of inK T.g (by kernel_rfl)
  have e104 : fa = 104 := by
    have : mg (Str.ofString "law") = some (.ref fa) := hmg
    rw [hfa] at this; injection this with this; injection this with this; exact this.symm
  subst e104
  clear hmg hD hcd hdd ho B D TE TW
  wrow_args hpre hlay hrd hwl hlo
  rename_i ns hs hlay0 hLay hr1 hl2 as1 as2 l vs as3 hL ra w1 r0 hI hr hc1 hc2
  obtain ⟨vs', e1⟩ := Mine.plain_of w1 l _ rfl rfl
  have hp : s₁.heap.PlainList l vs.toArray := by
    obtain ⟨o, e2, _, n, e3⟩ := hL
    rw [e1] at e2; injection e2 with e2; subst e2
    simp only [Data.seq.injEq] at e3
    exact ⟨_, by rw [e1, e3.1]⟩
  have hl : l ∉ [30, 37] := fun q => by
    have : ∀ P ∈ [30, 37], s₁.heap.get? P = some (tabObj #[]) := Mine.all2 (ht 30 (by simp)) (ht 37 (by simp))
    rw [this l q] at e1; injection e1 with e1; cases e1
  refine Mine.pca_law2 (Mine.cx w) rfl (Mine.cx_tc w) List.mem_cons_self (List.mem_cons_of_mem _ List.mem_cons_self) callerA [30, 37] s₁ [.ints ns] [.ref l] (fun v => v = .bool true) _ _ rfl ⟨rfl, by decide, by decide⟩ (Mine.cx_wd T inK ht) (Mine.cx_tb inK ht)
    (Mine.all2 (by rw [ht 30 (by simp)]; simp) (by rw [ht 37 (by simp)]; simp)) (fun g hg => hg) ?_ ⟨ns, rfl, by (clear G Y hg T inK ht hfa hs hlay0 hLay hr1 hl2 hL ra w1 r0 hI hr hc2 e1 hp hl; lia), rfl⟩ fun w' v h' tk hv g hr => ?_
  · simp only [Mine.VRs, Mine.VR]
    exact ⟨_, [], rfl, ⟨l, vs, rfl, hl, hp, hI⟩, rfl⟩
  · subst hv
    simp only [Mine.VR] at hr
    subst hr
    exact ⟨.inl ⟨.bool true, .bool true, [], rfl, raisesW_false (by wrow_none_raised), ReadsW.bool true, by wrow_post, fun _ => ⟨List.nodup_nil, fun a ha => by cases ha⟩⟩, Mine.oldK_of inK ht g, rfl, AllBare.of_eq hg⟩
end
