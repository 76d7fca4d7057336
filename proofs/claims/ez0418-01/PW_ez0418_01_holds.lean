import PyProof.Rows.All
import Wide.All
import OpenK.AllK
import Wide.FinOn
import PySem.Challenge.RW_ez0418_01
set_option Elab.async false
section
open PySem PySem.Spec PySem.Calls PyProof.Rows PySem.W
namespace Mine

/-- abstract values -/
inductive AV where
  | none | bool (b : Bool) | int (i : Int) | str (l : List Nat) | bytes (l : List UInt8) | ref (i : Nat) | con (v : Value)
  | tup (xs : List AV) | mt (text : List Nat) (spans : List Int)
/-- abstract mutable objects -/
inductive AO where
  | list (xs : List AV) | dict (es : List (List Nat × AV)) (ep : Nat)
abbrev Lo := List (Option AV)
abbrev AH := List AO

def S (l : List Nat) : Str := ⟨l.toArray⟩
theorem S_append (a b : List Nat) : S a ++ S b = S (a ++ b) := by
  show Str.append (S a) (S b) = _
  simp [S, Str.append]
theorem S_length (a : List Nat) : (S a).length = a.length := by simp [S, Str.length]
theorem S_inj {a b : List Nat} (h : S a = S b) : a = b := by
  simpa [S] using h
theorem S_toList (x : Str) : S x.cps.toList = x := by cases x; simp [S]

def getL : Lo → Nat → Option AV
  | [], _ => none
  | x :: _, 0 => x
  | _ :: r, n + 1 => getL r n
def setL : Lo → Nat → AV → Lo
  | [], _, _ => []
  | _ :: r, 0, v => some v :: r
  | x :: r, n + 1, v => x :: setL r n v
def getO : AH → Nat → Option AO
  | [], _ => none
  | x :: _, 0 => some x
  | _ :: r, n + 1 => getO r n
def setO : AH → Nat → AO → AH
  | [], _, _ => []
  | _ :: r, 0, v => v :: r
  | x :: r, n + 1, v => x :: setO r n v
theorem getO_eq : ∀ (ah : AH) (i : Nat), getO ah i = ah[i]?
  | [], _ => rfl
  | _ :: _, 0 => rfl
  | _ :: r, n + 1 => by rw [List.getElem?_cons_succ]; exact getO_eq r n
theorem setO_eq : ∀ (ah : AH) (i : Nat) (o : AO), setO ah i o = ah.set i o
  | [], _, _ => rfl
  | _ :: _, 0, _ => rfl
  | x :: r, n + 1, o => by show x :: setO r n o = x :: r.set n o; rw [setO_eq]
theorem getL_setL_self : ∀ (lo : Lo) (i : Nat) (v : AV) (_ : i < lo.length), getL (setL lo i v) i = some v
  | [], _, _, h => absurd h (Nat.not_lt_zero _)
  | _ :: _, 0, _, _ => rfl
  | _ :: r, n + 1, v, h => getL_setL_self r n v (Nat.lt_of_succ_lt_succ h)
theorem getL_setL_ne : ∀ (lo : Lo) (i j : Nat) (v : AV) (_ : i ≠ j), getL (setL lo i v) j = getL lo j
  | [], _, _, _, _ => rfl
  | _ :: _, 0, 0, _, h => absurd rfl h
  | _ :: _, 0, _ + 1, _, _ => rfl
  | _ :: _, _ + 1, 0, _, _ => rfl
  | _ :: r, i + 1, j + 1, v, h => getL_setL_ne r i j v (fun e => h (by rw [e]))
theorem setL_length : ∀ (lo : Lo) (i : Nat) (v : AV), (setL lo i v).length = lo.length
  | [], _, _ => rfl
  | _ :: _, 0, _ => rfl
  | _ :: r, n + 1, v => by show (setL r n v).length + 1 = _; rw [setL_length]; rfl
theorem getL_lt : ∀ (lo : Lo) (i : Nat) (v : AV), getL lo i = some v → i < lo.length
  | [], _, _, h => by cases h
  | _ :: _, 0, _, _ => Nat.succ_pos _
  | _ :: r, n + 1, v, h => Nat.succ_lt_succ (getL_lt r n v h)

def frozen (o : Obj) : Bool := match o.data with
  | .dict .. => false
  | .cell .. => false
  | _ => o.cls == .type "tuple" || o.cls == .type "re.Match" || o.cls == .type "code"
theorem frozen_dict {o : Obj} {es : Array DictEntry} {n : Nat} (h : o.data = .dict es n) : frozen o = false := by unfold frozen; rw [h]
def Frz (h h' : Heap) : Prop := ∀ a o, h.get? a = some o → frozen o = true → h'.get? a = some o
theorem Frz.refl (h : Heap) : Frz h h := fun _ _ e _ => e
theorem Frz.trans {h₁ h₂ h₃ : Heap} (x : Frz h₁ h₂) (y : Frz h₂ h₃) : Frz h₁ h₃ := fun a o e f => y a o (x a o e f) f
theorem Frz.of_keep {h h' : Heap} (k : ∀ b o, h.get? b = some o → h'.get? b = some o) : Frz h h' := fun a o e _ => k a o e
theorem Frz.of_same {h h' : Heap} {a : Addr} {o : Obj} (hs : Heap.ExtBut a h h') (ho : h.get? a = some o) (hf : frozen o = false) : Frz h h' := fun b o' e f => by
  by_cases hb : b = a
  · subst hb; rw [ho] at e; cases e; rw [hf] at f; cases f
  · exact hs b o' hb e

/-- a tuple at hand -/
def IsTup (h : Heap) (p : Addr) (vs : List Value) : Prop := ∃ n, h.get? p = some { cls := .type "tuple", data := .seq vs.toArray n }
theorem IsTup.frz {h h' : Heap} {p : Addr} {vs : List Value} (x : IsTup h p vs) (f : Frz h h') : IsTup h' p vs :=
  let ⟨n, e⟩ := x; ⟨n, f _ _ e rfl⟩
/-- a match object at hand: its text, its pattern, its spans -/
def IsMt (h : Heap) (p : Addr) (text : List Nat) (spans : List Int) : Prop :=
  ∃ t pat pos lim li q, h.get? p = some { cls := .type "re.Match", data := .fields #[.str (S text) t, pat, rawInt pos, rawInt lim, rawInt li, .ref q] } ∧ IsTup h q (spans.map rawInt)
theorem IsMt.frz {h h' : Heap} {p : Addr} {text : List Nat} {spans : List Int} (x : IsMt h p text spans) (f : Frz h h') : IsMt h' p text spans :=
  let ⟨t, pat, pos, lim, li, q, e, e'⟩ := x; ⟨t, pat, pos, lim, li, q, f _ _ e rfl, e'.frz f⟩

mutual
def VR (σ : List Addr) (h : Heap) : AV → Value → Prop
  | .none, v => v = .none
  | .bool b, v => v = .bool b
  | .int i, v => ∃ t, v = .int i t
  | .str l, v => ∃ t, v = .str (S l) t
  | .bytes l, v => ∃ t, v = .bytes l.toArray t
  | .ref i, v => ∃ a, σ[i]? = some a ∧ v = .ref a
  | .con c, v => v = c
  | .tup xs, v => ∃ p vs, v = .ref p ∧ IsTup h p vs ∧ VRs σ h xs vs
  | .mt text spans, v => ∃ p, v = .ref p ∧ IsMt h p text spans
def VRs (σ : List Addr) (h : Heap) : List AV → List Value → Prop
  | [], [] => True
  | a :: as, v :: vs => VR σ h a v ∧ VRs σ h as vs
  | [], _ :: _ => False
  | _ :: _, [] => False
end

theorem prefix_get {σ σ' : List Addr} (hp : σ <+: σ') {i : Nat} {a : Addr} (e : σ[i]? = some a) : σ'[i]? = some a := by
  obtain ⟨r, rfl⟩ := hp
  rw [List.getElem?_append_left (List.getElem?_eq_some_iff.mp e).1]; exact e

mutual
theorem VR.mono {σ σ' : List Addr} {h h' : Heap} (hp : σ <+: σ') (f : Frz h h') : ∀ {av : AV} {v : Value}, VR σ h av v → VR σ' h' av v
  | .none, _, x => by simpa only [VR] using x
  | .bool _, _, x => by simpa only [VR] using x
  | .int _, _, x => by simpa only [VR] using x
  | .str _, _, x => by simpa only [VR] using x
  | .bytes _, _, x => by simpa only [VR] using x
  | .ref _, _, x => by
    simp only [VR] at x ⊢
    obtain ⟨a, e, r⟩ := x; exact ⟨a, prefix_get hp e, r⟩
  | .con _, _, x => by simpa only [VR] using x
  | .tup xs, _, x => by
    simp only [VR] at x ⊢
    obtain ⟨p, vs, e, t, r⟩ := x; exact ⟨p, vs, e, t.frz f, VRs.mono hp f r⟩
  | .mt _ _, _, x => by
    simp only [VR] at x ⊢
    obtain ⟨p, e, m⟩ := x; exact ⟨p, e, m.frz f⟩
theorem VRs.mono {σ σ' : List Addr} {h h' : Heap} (hp : σ <+: σ') (f : Frz h h') : ∀ {as : List AV} {vs : List Value}, VRs σ h as vs → VRs σ' h' as vs
  | [], [], _ => by simp only [VRs]
  | _ :: _, _ :: _, x => by
    simp only [VRs] at x ⊢
    exact ⟨VR.mono hp f x.1, VRs.mono hp f x.2⟩
  | [], _ :: _, x => by simp only [VRs] at x
  | _ :: _, [], x => by simp only [VRs] at x
end
theorem VRs.nil {σ : List Addr} {h : Heap} : VRs σ h [] [] := by simp only [VRs]
theorem VRs.cons {σ : List Addr} {h : Heap} {a : AV} {as : List AV} {v : Value} {vs : List Value} (x : VR σ h a v) (r : VRs σ h as vs) : VRs σ h (a :: as) (v :: vs) := by simp only [VRs]; exact ⟨x, r⟩
theorem VRs.nil_inv {σ : List Addr} {h : Heap} {vs : List Value} (x : VRs σ h [] vs) : vs = [] := by
  cases vs with
  | nil => rfl
  | cons => simp only [VRs] at x
theorem VRs.cons_inv {σ : List Addr} {h : Heap} {a : AV} {as : List AV} {vs : List Value} (x : VRs σ h (a :: as) vs) : ∃ v r, vs = v :: r ∧ VR σ h a v ∧ VRs σ h as r := by
  cases vs with
  | nil => simp only [VRs] at x
  | cons v r => simp only [VRs] at x; exact ⟨v, r, rfl, x⟩
theorem VRs.length {σ : List Addr} {h : Heap} : ∀ {as : List AV} {vs : List Value}, VRs σ h as vs → vs.length = as.length
  | [], _, x => by rw [x.nil_inv]; rfl
  | a :: as, vs, x => by obtain ⟨v, r, rfl, _, y⟩ := x.cons_inv; rw [List.length_cons, List.length_cons, y.length]
theorem VRs.append {σ : List Addr} {h : Heap} : ∀ {as : List AV} {vs : List Value} {bs : List AV} {ws : List Value}, VRs σ h as vs → VRs σ h bs ws → VRs σ h (as ++ bs) (vs ++ ws)
  | [], _, _, _, x, y => by rw [x.nil_inv]; exact y
  | _ :: _, _, _, _, x, y => by obtain ⟨v, r, rfl, x, z⟩ := x.cons_inv; exact .cons x (z.append y)
theorem VRs.get {σ : List Addr} {h : Heap} : ∀ {as : List AV} {vs : List Value}, VRs σ h as vs → ∀ {i : Nat} {a : AV}, as[i]? = some a → ∃ v, vs[i]? = some v ∧ VR σ h a v
  | [], _, _, _, _, e => by cases e
  | _ :: _, _, x, 0, _, e => by obtain ⟨v, r, rfl, x, _⟩ := x.cons_inv; cases e; exact ⟨v, rfl, x⟩
  | _ :: _, _, x, i + 1, _, e => by
    obtain ⟨v, r, rfl, _, x⟩ := x.cons_inv
    obtain ⟨v, e', x⟩ := x.get (by simpa using e)
    exact ⟨v, by simpa using e', x⟩
theorem VRs.drop {σ : List Addr} {h : Heap} : ∀ {as : List AV} {vs : List Value}, VRs σ h as vs → ∀ n, VRs σ h (as.drop n) (vs.drop n)
  | [], _, x, n => by rw [x.nil_inv, List.drop_nil, List.drop_nil]; exact .nil
  | _ :: _, _, x, 0 => x
  | _ :: _, _, x, n + 1 => by obtain ⟨v, r, rfl, _, x⟩ := x.cons_inv; exact x.drop n
theorem VRs.take {σ : List Addr} {h : Heap} : ∀ {as : List AV} {vs : List Value}, VRs σ h as vs → ∀ n, VRs σ h (as.take n) (vs.take n)
  | [], _, x, n => by rw [x.nil_inv, List.take_nil, List.take_nil]; exact .nil
  | _ :: _, _, _, 0 => .nil
  | _ :: _, _, x, n + 1 => by obtain ⟨v, r, rfl, x, y⟩ := x.cons_inv; exact .cons x (y.take n)
theorem VRs.set {σ : List Addr} {h : Heap} : ∀ {as : List AV} {vs : List Value}, VRs σ h as vs → ∀ (n : Nat) {a : AV} {v : Value}, VR σ h a v → VRs σ h (as.set n a) (vs.set n v)
  | [], _, x, _, _, _, _ => by rw [x.nil_inv]; exact .nil
  | _ :: _, _, x, 0, _, _, y => by obtain ⟨v, r, rfl, x, z⟩ := x.cons_inv; exact .cons y z
  | _ :: _, _, x, n + 1, _, _, y => by obtain ⟨v, r, rfl, x, z⟩ := x.cons_inv; exact .cons x (z.set n y)

def KRs (σ : List Addr) (h : Heap) : List (List Nat × AV) → List (Str × Value) → Prop
  | [], [] => True
  | (k, a) :: as, (x, v) :: vs => x = S k ∧ VR σ h a v ∧ KRs σ h as vs
  | _, _ => False
theorem KRs.mono {σ σ' : List Addr} {h h' : Heap} (hp : σ <+: σ') (f : Frz h h') : ∀ {as : List (List Nat × AV)} {vs : List (Str × Value)}, KRs σ h as vs → KRs σ' h' as vs
  | [], [], _ => trivial
  | (_, _) :: _, (_, _) :: _, ⟨e, x, r⟩ => ⟨e, x.mono hp f, r.mono hp f⟩

variable {prog : Program} {w : World}

def OR (prog : Program) (w : World) (σ : List Addr) (h : Heap) (a : Addr) : AO → Prop
  | .list xs => ∃ vs : List Value, (∃ n, h.get? a = some { cls := .type "list", data := .seq vs.toArray n }) ∧ VRs σ h xs vs
  | .dict es ep => ∃ kvs : List (Str × Value), h.DictAt (strKind prog w) a kvs ep ∧ KRs σ h es kvs

/-- the object at `a` is there and is not frozen -/
theorem OR.obj {σ : List Addr} {h : Heap} {a : Addr} {ao : AO} (x : OR prog w σ h a ao) : ∃ o, h.get? a = some o ∧ frozen o = false := by
  cases ao with
  | list xs => obtain ⟨vs, ⟨n, e⟩, _⟩ := x; exact ⟨_, e, rfl⟩
  | dict es ep =>
    obtain ⟨kvs, ⟨o, es', ho, hx, r⟩, _⟩ := x
    exact ⟨o, ho, frozen_dict r.1⟩
theorem OR.mono {σ σ' : List Addr} {h h' : Heap} {a : Addr} {ao : AO} (x : OR prog w σ h a ao) (hp : σ <+: σ') (f : Frz h h') (e : ∀ o, h.get? a = some o → h'.get? a = some o) : OR prog w σ' h' a ao := by
  cases ao with
  | list xs => obtain ⟨vs, ⟨n, e1⟩, r⟩ := x; exact ⟨vs, ⟨n, e _ e1⟩, r.mono hp f⟩
  | dict es ep =>
    obtain ⟨kvs, ⟨o, es', ho, hx⟩, r⟩ := x
    exact ⟨kvs, ⟨o, es', e _ ho, hx⟩, r.mono hp f⟩

theorem frozen_cell {h : Heap} {c : Addr} {v : Option Value} (x : h.IsCell c v) : ∃ o, h.get? c = some o ∧ frozen o = false := by
  obtain ⟨o, ho, hd⟩ := x
  exact ⟨o, ho, by unfold frozen; rw [hd]⟩

/-- a frame's static context -/
structure FC where
  A : Around
  env : Env
  slots : List (Str × Option Addr)
  pr : Addr → Obj → Prop
  os : OsState
  lv : Nat

def FC.cellsOf (F : FC) : List Addr := F.slots.filterMap (·.2)
/-- the addresses that may change -/
def FC.mut (F : FC) (σ : List Addr) : List Addr := 48 :: 60 :: F.env.locals :: (F.cellsOf ++ σ)

def LoR (F : FC) (σ : List Addr) (h : Heap) (lo : Lo) : Prop :=
  ∃ m, h.Ns F.env.locals m ∧ ∀ i name oc av, F.slots[i]? = some (name, oc) → getL lo i = some av →
    match oc with
    | none => ∃ v, m name = some v ∧ VR σ h av v
    | some c => ∃ v, h.IsCell c (some v) ∧ VR σ h av v

/-- what a code table may hold: nothing yet, or the one code object that the first call made -/
def TabAt (h : Heap) (P : Addr) (line col : Nat) (q : Str) : Prop :=
  h.get? P = some (tabObj #[]) ∨ ∃ c' oc vs t, h.get? P = some (tabObj #[rawInt line, rawInt col, .ref c']) ∧ h.get? c' = some oc ∧ oc.cls = .type "code" ∧ oc.data = .fields vs ∧ vs[1]? = some (.str q t)
theorem TabAt.mono {h h' : Heap} {P : Addr} {line col : Nat} {q : Str} (x : TabAt h P line col q) (f : Frz h h') (e : ∀ o, h.get? P = some o → h'.get? P = some o) : TabAt h' P line col q := by
  rcases x with x | ⟨c', oc, vs, t, h1, h2, h3, h4⟩
  · exact .inl (e _ x)
  · exact .inr ⟨c', oc, vs, t, e _ h1, f _ _ h2 (by unfold frozen; rw [h4.1, h3]; rfl), h3, h4⟩
def qGen : Str := "quote_header_value.<locals>.<genexpr>"
def qLam : Str := "unquote_header_value.<locals>.<lambda>"
def Tabs (h : Heap) : Prop := TabAt h 48 32 15 qGen ∧ TabAt h 60 39 31 qLam

structure Inv (prog : Program) (w : World) (F : FC) (σ : List Addr) (lo : Lo) (ah : AH) (s : Shared) : Prop where
  loc : LoR F σ s.heap lo
  llen : lo.length = F.slots.length
  len : σ.length = ah.length
  nd : (F.mut σ).Nodup
  there : ∀ b ∈ F.mut σ, ∃ o, s.heap.get? b = some o ∧ frozen o = false
  ob : ∀ (i : Nat) (ao : AO), ah[i]? = some ao → ∃ a, σ[i]? = some a ∧ OR prog w σ s.heap a ao
  pr : ∀ b o, F.pr b o → s.heap.get? b = some o ∧ b ∉ F.mut σ
  tabs : Tabs s.heap
  gens : AllBare s.gens
  os : s.os = F.os
  tk : 1 ≤ s.toks
  cl : ∀ c ∈ F.cellsOf, ∃ v, s.heap.IsCell c v

theorem LoR.mono {F : FC} {σ σ' : List Addr} {h h' : Heap} {lo : Lo} (x : LoR F σ h lo) (hp : σ <+: σ') (f : Frz h h') (e : ∀ b ∈ F.env.locals :: F.cellsOf, ∀ o, h.get? b = some o → h'.get? b = some o) : LoR F σ' h' lo := by
  obtain ⟨m, ⟨o, es, ep, ho, r⟩, q⟩ := x
  refine ⟨m, ⟨o, es, ep, e _ (.head _) _ ho, r⟩, fun i name oc av h1 h2 => ?_⟩
  have z := q i name oc av h1 h2
  cases oc with
  | none => obtain ⟨v, hv, hr⟩ := z; exact ⟨v, hv, hr.mono hp f⟩
  | some c =>
    obtain ⟨v, ⟨oc, hv, hd⟩, hr⟩ := z
    refine ⟨v, ⟨oc, e c (.tail _ ?_) _ hv, hd⟩, hr.mono hp f⟩
    exact List.mem_filterMap.mpr ⟨(name, some c), List.mem_of_getElem? h1, rfl⟩

variable {F : FC} {σ : List Addr} {lo : Lo} {ah : AH} {s : Shared}

theorem FC.mut_sub (F : FC) {σ σ' : List Addr} (hp : σ <+: σ') {b : Addr} (h : b ∈ F.mut σ) : b ∈ F.mut σ' := by
  unfold FC.mut at h ⊢
  simp only [List.mem_cons, List.mem_append] at h ⊢
  rcases h with h | h | h | h | h
  · exact .inl h
  · exact .inr (.inl h)
  · exact .inr (.inr (.inl h))
  · exact .inr (.inr (.inr (.inl h)))
  · exact .inr (.inr (.inr (.inr (hp.subset h))))

/-- every object stands as it stood (new ones may have come) -/
theorem Inv.keep (I : Inv prog w F σ lo ah s) {h' : Heap} {tk : Nat} (k : ∀ b o, s.heap.get? b = some o → h'.get? b = some o) (ht : 1 ≤ tk) : Inv prog w F σ lo ah { s with heap := h', toks := tk } where
  loc := I.loc.mono (List.prefix_refl _) (.of_keep k) fun b _ o => k b o
  llen := I.llen
  len := I.len
  nd := I.nd
  there := fun b hb => let ⟨o, e, f⟩ := I.there b hb; ⟨o, k _ _ e, f⟩
  ob := fun i ao e => let ⟨a, e', r⟩ := I.ob i ao e; ⟨a, e', r.mono (List.prefix_refl _) (.of_keep k) fun o => k a o⟩
  pr := fun b o x => ⟨k _ _ (I.pr b o x).1, (I.pr b o x).2⟩
  tabs := ⟨I.tabs.1.mono (.of_keep k) fun o => k _ o, I.tabs.2.mono (.of_keep k) fun o => k _ o⟩
  gens := I.gens
  os := I.os
  tk := ht
  cl := fun c hc => let ⟨v, o, e, d⟩ := I.cl c hc; ⟨v, o, k _ _ e, d⟩
theorem Inv.tok (I : Inv prog w F σ lo ah s) {tk : Nat} (ht : 1 ≤ tk) : Inv prog w F σ lo ah { s with toks := tk } := I.keep (h' := s.heap) (fun _ _ e => e) ht
theorem Inv.tok1 (I : Inv prog w F σ lo ah s) : Inv prog w F σ lo ah { s with toks := s.toks + 1 } := I.tok (Nat.le_add_left 1 _)
theorem Inv.push (I : Inv prog w F σ lo ah s) (o : Obj) {tk : Nat} (ht : 1 ≤ tk) : Inv prog w F σ lo ah { s with heap := s.heap.push o, toks := tk } := I.keep (fun _ _ e => Heap.get?_push_of_some o e) ht

/-- one address of the own ones has changed -/
theorem Inv.change (I : Inv prog w F σ lo ah s) {a : Addr} {h' : Heap} {tk : Nat} {lo' : Lo} {ah' : AH} (ha : a ∈ F.mut σ) (hs : Heap.ExtBut a s.heap h') (hn : ∃ o, h'.get? a = some o ∧ frozen o = false)
    (loc : LoR F σ h' lo') (llen : lo'.length = lo.length) (len : ah'.length = ah.length)
    (ob : ∀ (i : Nat) (ao : AO), ah'[i]? = some ao → ∃ b, σ[i]? = some b ∧ OR prog w σ h' b ao) (tabs : Tabs h') (ht : 1 ≤ tk) (cl : ∀ c ∈ F.cellsOf, ∃ v, h'.IsCell c v) :
    Inv prog w F σ lo' ah' { s with heap := h', toks := tk } where
  loc := loc
  llen := llen.trans I.llen
  len := I.len.trans len.symm
  nd := I.nd
  there := fun b hb => by
    by_cases e : b = a
    · subst e; exact hn
    · obtain ⟨o, e', f⟩ := I.there b hb; exact ⟨o, hs _ _ e e', f⟩
  ob := ob
  pr := fun b o x => ⟨hs _ _ (fun e => (I.pr b o x).2 (e ▸ ha)) (I.pr b o x).1, (I.pr b o x).2⟩
  tabs := tabs
  gens := I.gens
  os := I.os
  tk := ht
  cl := cl

theorem Inv.cl_but (I : Inv prog w F σ lo ah s) {a : Addr} {h' : Heap} (hs : Heap.ExtBut a s.heap h') (ha : a ∉ F.cellsOf) : ∀ c ∈ F.cellsOf, ∃ v, h'.IsCell c v := fun c hc =>
  let ⟨v, o, e, d⟩ := I.cl c hc; ⟨v, o, hs _ _ (fun q => ha (q ▸ hc)) e, d⟩
theorem Inv.frz (I : Inv prog w F σ lo ah s) {a : Addr} {h' : Heap} (ha : a ∈ F.mut σ) (hs : Heap.ExtBut a s.heap h') : Frz s.heap h' := by
  obtain ⟨o, e, f⟩ := I.there a ha
  exact Frz.of_same hs e f

theorem mem_locals : F.env.locals ∈ F.mut σ := by unfold FC.mut; simp
theorem mem_48 : 48 ∈ F.mut σ := by unfold FC.mut; simp
theorem mem_60 : 60 ∈ F.mut σ := by unfold FC.mut; simp
theorem mem_cell {c : Addr} {i : Nat} {name : Str} (h : F.slots[i]? = some (name, some c)) : c ∈ F.cellsOf := List.mem_filterMap.mpr ⟨(name, some c), List.mem_of_getElem? h, rfl⟩
theorem mem_cells {c : Addr} (h : c ∈ F.cellsOf) : c ∈ F.mut σ := by unfold FC.mut; simp [h]
theorem mem_obj {a : Addr} {i : Nat} (h : σ[i]? = some a) : a ∈ F.mut σ := by unfold FC.mut; simp [List.mem_of_getElem? h]

/-- the own addresses are apart -/
theorem Inv.parts (I : Inv prog w F σ lo ah s) : (48 ≠ 60 ∧ 48 ≠ F.env.locals ∧ 60 ≠ F.env.locals ∧ 48 ∉ F.cellsOf ∧ 60 ∉ F.cellsOf ∧ 48 ∉ σ ∧ 60 ∉ σ) ∧ F.env.locals ∉ F.cellsOf ∧ F.env.locals ∉ σ ∧ F.cellsOf.Nodup ∧ σ.Nodup ∧ (∀ c ∈ F.cellsOf, c ∉ σ) := by
  have n := I.nd
  unfold FC.mut at n
  simp only [List.nodup_cons, List.mem_cons, List.mem_append, not_or, List.nodup_append] at n
  obtain ⟨⟨a1, a2, a3, a4⟩, ⟨b1, b2, b3⟩, ⟨c1, c2⟩, d1, d2, d3⟩ := n
  exact ⟨⟨a1, a2, b1, a3, b2, a4, b3⟩, c1, c2, d1, d2, fun c h1 h2 => d3 c h1 c h2 rfl⟩

theorem slot_unique (hn : (F.slots.map (·.1)).Nodup) {i j : Nat} {name : Str} {o o' : Option Addr} (h1 : F.slots[i]? = some (name, o)) (h2 : F.slots[j]? = some (name, o')) : i = j := by
  have e1 : (F.slots.map (·.1))[i]? = some name := by rw [List.getElem?_map, h1]; rfl
  have e2 : (F.slots.map (·.1))[j]? = some name := by rw [List.getElem?_map, h2]; rfl
  exact (List.getElem?_inj (List.getElem?_eq_some_iff.mp e1).1 hn).mp (e1.trans e2.symm)

/-- a local is stored -/
theorem Inv.setLocal (I : Inv prog w F σ lo ah s) (hn : (F.slots.map (·.1)).Nodup) {i : Nat} {name : Str} {av : AV} {v : Value} {h' : Heap} {tk : Nat} (hi : F.slots[i]? = some (name, none))
    (hm : ∀ m, s.heap.Ns F.env.locals m → h'.Ns F.env.locals (fun x => if x = name then some v else m x)) (hs : Heap.SameBut F.env.locals s.heap h') (hv : VR σ s.heap av v) (ht : 1 ≤ tk) :
    Inv prog w F σ (setL lo i av) ah { s with heap := h', toks := tk } := by
  obtain ⟨⟨_, p1, p2, _⟩, p3, p4, _⟩ := I.parts
  have f := I.frz mem_locals hs.extBut
  have hr := List.prefix_refl σ
  obtain ⟨m, hns, hl⟩ := I.loc
  have hns' := hm m hns
  refine I.change mem_locals hs.extBut ?_ ⟨_, hns', fun j nm oc x h1 h2 => ?_⟩ (setL_length ..) rfl (fun j ao e => ?_) ⟨I.tabs.1.mono f fun o => hs.extBut _ o p1, I.tabs.2.mono f fun o => hs.extBut _ o p2⟩ ht (I.cl_but hs.extBut p3)
  · obtain ⟨o, es, ep, ho, hd, r⟩ := hns'
    exact ⟨o, ho, frozen_dict hd⟩
  · by_cases e : i = j
    · subst e
      rw [hi] at h1; cases h1
      rw [getL_setL_self _ _ _ (by rw [← setL_length lo i av]; exact getL_lt _ _ _ h2)] at h2
      cases h2
      exact ⟨v, if_pos rfl, hv.mono hr f⟩
    · rw [getL_setL_ne _ _ _ _ e] at h2
      have z := hl j nm oc x h1 h2
      cases oc with
      | none =>
        obtain ⟨v', hv', r⟩ := z
        refine ⟨v', ?_, r.mono hr f⟩
        show (if nm = name then some v else m nm) = some v'
        rw [if_neg (fun q => e (slot_unique hn hi (q ▸ h1)))]; exact hv'
      | some c =>
        obtain ⟨v', ⟨oc, hv', hd⟩, r⟩ := z
        exact ⟨v', ⟨oc, hs.extBut _ _ (fun q => p3 (q ▸ mem_cell h1)) hv', hd⟩, r.mono hr f⟩
  · obtain ⟨a, e', r⟩ := I.ob j ao e
    exact ⟨a, e', r.mono hr f fun o => hs.extBut a o (fun q => p4 (q ▸ List.mem_of_getElem? e'))⟩

/-- a cell is stored -/
theorem Inv.setCell (I : Inv prog w F σ lo ah s) {i : Nat} {name : Str} {c : Addr} {av : AV} {v : Value} {h' : Heap} {tk : Nat} (hi : F.slots[i]? = some (name, some c))
    (hu : ∀ j nm, F.slots[j]? = some (nm, some c) → j = i) (hc : h'.IsCell c (some v)) (hs : Heap.ExtBut c s.heap h') (hv : VR σ s.heap av v) (ht : 1 ≤ tk) :
    Inv prog w F σ (setL lo i av) ah { s with heap := h', toks := tk } := by
  obtain ⟨⟨_, _, _, p1, p2, _⟩, p3, _, _, _, p4⟩ := I.parts
  have hcm := mem_cell hi
  have f := I.frz (mem_cells hcm) hs
  have hr := List.prefix_refl σ
  obtain ⟨m, ⟨o, es, ep, ho, r0⟩, hl⟩ := I.loc
  refine I.change (mem_cells hcm) hs (frozen_cell hc) ⟨m, ⟨o, es, ep, hs _ _ (fun e => p3 (e ▸ hcm)) ho, r0⟩, fun j nm oc x h1 h2 => ?_⟩ (setL_length ..) rfl (fun j ao e => ?_)
    ⟨I.tabs.1.mono f fun o => hs _ o fun e => p1 (e ▸ hcm), I.tabs.2.mono f fun o => hs _ o fun e => p2 (e ▸ hcm)⟩ ht (fun c' h' => ?_)
  · by_cases e : i = j
    · subst e
      rw [hi] at h1; cases h1
      rw [getL_setL_self _ _ _ (by rw [← setL_length lo i av]; exact getL_lt _ _ _ h2)] at h2
      cases h2
      exact ⟨v, hc, hv.mono hr f⟩
    · rw [getL_setL_ne _ _ _ _ e] at h2
      have z := hl j nm oc x h1 h2
      cases oc with
      | none => obtain ⟨v', hv', r⟩ := z; exact ⟨v', hv', r.mono hr f⟩
      | some c' =>
        obtain ⟨v', ⟨oc, hv', hd⟩, r⟩ := z
        exact ⟨v', ⟨oc, hs _ _ (fun q => e (hu j nm (q ▸ h1)).symm) hv', hd⟩, r.mono hr f⟩
  · obtain ⟨a, e', r⟩ := I.ob j ao e
    exact ⟨a, e', r.mono hr f fun o => hs a o fun q => p4 c hcm (q ▸ List.mem_of_getElem? e')⟩

  · by_cases q : c' = c
    · exact q ▸ ⟨_, hc⟩
    · obtain ⟨v', o', e', d'⟩ := I.cl c' h'
      exact ⟨v', o', hs _ _ q e', d'⟩

/-- an own object has changed -/
theorem Inv.setObj (I : Inv prog w F σ lo ah s) {i : Nat} {a : Addr} {ao : AO} {h' : Heap} {tk : Nat} (hi : σ[i]? = some a) (hs : Heap.ExtBut a s.heap h') (hn : OR prog w σ h' a ao) (ht : 1 ≤ tk) :
    Inv prog w F σ lo (setO ah i ao) { s with heap := h', toks := tk } := by
  obtain ⟨⟨_, _, _, _, _, p1, p2⟩, _, p3, _, p4, p5⟩ := I.parts
  have ham := List.mem_of_getElem? hi
  have f := I.frz (mem_obj hi) hs
  have hr := List.prefix_refl σ
  refine I.change (mem_obj hi) hs hn.obj (I.loc.mono hr f fun b hb o => hs b o fun e => ?_) rfl (by rw [setO_eq, List.length_set]) (fun j x e => ?_)
    ⟨I.tabs.1.mono f fun o => hs _ o fun e => p1 (e ▸ ham), I.tabs.2.mono f fun o => hs _ o fun e => p2 (e ▸ ham)⟩ ht (I.cl_but hs fun q => p5 a q ham)
  · rcases List.mem_cons.mp hb with q | q
    · exact p3 (q ▸ e ▸ ham)
    · exact p5 b q (e ▸ ham)
  · rw [setO_eq] at e
    by_cases q : i = j
    · subst q
      have hl := (List.getElem?_eq_some_iff.mp e).1
      rw [List.length_set] at hl
      rw [List.getElem?_set_self hl] at e
      cases e
      exact ⟨a, hi, hn⟩
    · rw [List.getElem?_set_ne q] at e
      obtain ⟨b, e', r⟩ := I.ob j x e
      refine ⟨b, e', r.mono hr f fun o => hs b o fun z => ?_⟩
      subst z
      exact q ((List.getElem?_inj (List.getElem?_eq_some_iff.mp hi).1 p4).mp (hi.trans e'.symm))

/-- a new object is taken up -/
theorem Inv.newObj (I : Inv prog w F σ lo ah s) {a : Addr} {ao : AO} {h' : Heap} {tk : Nat} (k : ∀ b o, s.heap.get? b = some o → h'.get? b = some o) (ha : s.heap.get? a = none) (hn : OR prog w (σ ++ [a]) h' a ao) (ht : 1 ≤ tk) :
    Inv prog w F (σ ++ [a]) lo (ah ++ [ao]) { s with heap := h', toks := tk } := by
  have hp : σ <+: σ ++ [a] := List.prefix_append ..
  have hr := List.prefix_refl σ
  have f := Frz.of_keep k
  have e : F.mut (σ ++ [a]) = F.mut σ ++ [a] := by unfold FC.mut; simp
  have hna : a ∉ F.mut σ := fun q => by obtain ⟨o, e, _⟩ := I.there a q; rw [ha] at e; cases e
  have I' := I.keep (tk := tk) k ht
  refine ⟨I.loc.mono hp f fun b _ o => k b o, I.llen, by rw [List.length_append, List.length_append, I.len]; rfl, ?_, fun b hb => ?_, fun j x q => ?_, fun b o x => ⟨k _ _ (I.pr b o x).1, ?_⟩, I'.tabs, I.gens, I.os, ht, I'.cl⟩
  · rw [e, List.nodup_append]
    exact ⟨I.nd, by simp, fun x hx y hy q => hna (by rw [List.mem_singleton] at hy; rw [← hy, ← q]; exact hx)⟩
  · rw [e, List.mem_append, List.mem_singleton] at hb
    rcases hb with hb | rfl
    · exact I'.there b hb
    · exact hn.obj
  · by_cases hj : j < ah.length
    · rw [List.getElem?_append_left hj] at q
      obtain ⟨b, e', r⟩ := I.ob j x q
      exact ⟨b, prefix_get hp e', r.mono hp f fun o => k b o⟩
    · have hl := (List.getElem?_eq_some_iff.mp q).1
      rw [List.length_append, List.length_singleton] at hl
      have : j = ah.length := by omega
      subst this
      rw [List.getElem?_append_right (Nat.le_refl _), Nat.sub_self] at q
      cases q
      exact ⟨a, by rw [← I.len, List.getElem?_append_right (Nat.le_refl _), Nat.sub_self]; rfl, hn⟩
  · rw [e, List.mem_append, List.mem_singleton, not_or]
    exact ⟨(I.pr b o x).2, fun q => by subst q; rw [(I.pr b o x).1] at ha; cases ha⟩

theorem size_none (h : Heap) : h.get? h.objs.size = none := by
  cases q : h.get? h.objs.size with
  | none => rfl
  | some o => exact absurd (Heap.lt_size q) (Nat.lt_irrefl _)

/-- a code table has grown -/
theorem Inv.setTab (I : Inv prog w F σ lo ah s) {P : Addr} {h' : Heap} {tk : Nat} (hP : P = 48 ∨ P = 60) (hs : Heap.ExtBut P s.heap h') (hn : ∃ o, h'.get? P = some o ∧ frozen o = false) (htb : Tabs h') (ht : 1 ≤ tk) :
    Inv prog w F σ lo ah { s with heap := h', toks := tk } := by
  obtain ⟨⟨p0, p1, p2, p3, p4, p5, p6⟩, _⟩ := I.parts
  have hm : P ∈ F.mut σ := hP.elim (fun e => e ▸ mem_48) fun e => e ▸ mem_60
  have f := I.frz hm hs
  have hr := List.prefix_refl σ
  refine I.change hm hs hn (I.loc.mono hr f fun b hb o => hs b o fun e => ?_) rfl rfl (fun j x e => ?_) htb ht (I.cl_but hs (by rcases hP with rfl | rfl <;> assumption))
  · subst e
    rcases hP with rfl | rfl <;> rcases List.mem_cons.mp hb with q | q
    · exact p1 q
    · exact p3 q
    · exact p2 q
    · exact p4 q
  · obtain ⟨b, e', r⟩ := I.ob j x e
    refine ⟨b, e', r.mono hr f fun o => hs b o fun z => ?_⟩
    subst z
    have hb := List.mem_of_getElem? e'
    rcases hP with rfl | rfl
    · exact p5 hb
    · exact p6 hb

theorem Inv.gensTo (I : Inv prog w F σ lo ah s) {g : Array GenState} (hg : AllBare g) : Inv prog w F σ lo ah { s with gens := g } := ⟨I.loc, I.llen, I.len, I.nd, I.there, I.ob, I.pr, I.tabs, hg, I.os, I.tk, I.cl⟩

/-! ## the judgement -/
def PostR {α β : Type} (prog : Program) (w : World) (R : List Addr → Heap → β → α → Prop) (F : FC) (σ : List Addr) (h : Heap) (Q : β → Lo → AH → Prop) : α → Shared → Prop := fun a s' =>
  ∃ σ' lo' ah' b, Inv prog w F σ' lo' ah' s' ∧ σ <+: σ' ∧ Frz h s'.heap ∧ R σ' s'.heap b a ∧ Q b lo' ah'
def Nev : Value → Shared → Prop := fun _ _ => False
def W {α β : Type} (prog : Program) (w : World) (R : List Addr → Heap → β → α → Prop) (F : FC) (t : Sem α) (lo : Lo) (ah : AH) (Q : β → Lo → AH → Prop) : Prop :=
  ∀ σ s, Inv prog w F σ lo ah s → wpAny (model prog w) F.A t (PostR prog w R F σ s.heap Q) Nev s
def RB : List Addr → Heap → Bool → Bool → Prop := fun _ _ b a => b = a
def RU : List Addr → Heap → Unit → Unit → Prop := fun _ _ _ _ => True
inductive AF | next | brk | cont | ret (v : AV)
def RF (σ : List Addr) (h : Heap) : AF → Flow → Prop
  | .next, f => f = .next
  | .brk, f => f = .brk
  | .cont, f => f = .cont
  | .ret a, f => ∃ v, f = .ret v ∧ VR σ h a v
abbrev WE (prog : Program) (w : World) := W (α := Value) prog w VR
abbrev WB (prog : Program) (w : World) := W (α := Bool) prog w RB
abbrev WF (prog : Program) (w : World) := W (α := Flow) prog w RF
abbrev WL (prog : Program) (w : World) := W (α := List Value) prog w VRs

section
variable {α β α' β' : Type} {R : List Addr → Heap → β → α → Prop} {R' : List Addr → Heap → β' → α' → Prop}

theorem PostR.back {Q : β → Lo → AH → Prop} {σ σ₁ : List Addr} {h h₁ : Heap} {a : α} {s' : Shared} (hp : σ <+: σ₁) (f : Frz h h₁) (x : PostR prog w R F σ₁ h₁ Q a s') : PostR prog w R F σ h Q a s' :=
  let ⟨σ', lo', ah', b, I, p, f', r, q⟩ := x; ⟨σ', lo', ah', b, I, hp.trans p, f.trans f', r, q⟩
theorem PostR.intro {Q : β → Lo → AH → Prop} {σ : List Addr} {h : Heap} {a : α} {s' : Shared} {lo : Lo} {ah : AH} {b : β} (I : Inv prog w F σ lo ah s') (f : Frz h s'.heap) (r : R σ s'.heap b a) (q : Q b lo ah) : PostR prog w R F σ h Q a s' :=
  ⟨σ, lo, ah, b, I, List.prefix_refl _, f, r, q⟩
/-- the tokens rise: no rule need say so -/
theorem W.intro {t : Sem α} {Q : β → Lo → AH → Prop} (x : ∀ σ s, Inv prog w F σ lo ah s → wpAny (model prog w) F.A t (fun a s' => 1 ≤ s'.toks → PostR prog w R F σ s.heap Q a s') Nev s) : W prog w R F t lo ah Q :=
  fun σ s I => wpAny_mono (wpAny_with_toks (Q := PostR prog w R F σ s.heap Q) (E := Nev) I.tk (wpAny_mono (x σ s I) (fun _ _ y => y) fun _ _ y => y.elim)) (fun _ _ y => y) fun _ _ y => y
/-- use a judgement and go on -/
theorem W.then {t : Sem α} {Q : β → Lo → AH → Prop} {P : α → Shared → Prop} {E : Value → Shared → Prop} (x : W prog w R F t lo ah Q) (I : Inv prog w F σ lo ah s)
    (k : ∀ σ' s' lo' ah' b a, Inv prog w F σ' lo' ah' s' → σ <+: σ' → Frz s.heap s'.heap → R σ' s'.heap b a → Q b lo' ah' → P a s') : wpAny (model prog w) F.A t P E s :=
  wpAny_mono (x σ s I) (fun a s' ⟨σ', lo', ah', b, I', p, f, r, q⟩ => k σ' s' lo' ah' b a I' p f r q) fun _ _ e => e.elim
theorem W.mono {t : Sem α} {Q Q' : β → Lo → AH → Prop} (x : W prog w R F t lo ah Q) (k : ∀ b lo ah, Q b lo ah → Q' b lo ah) : W prog w R F t lo ah Q' := fun _ _ I =>
  x.then I fun σ' _ lo' ah' b _ I' p f r q => ⟨σ', lo', ah', b, I', p, f, r, k b lo' ah' q⟩
end

end Mine
end
section
open PySem PySem.Spec PySem.Calls PyProof.Rows PySem.W
namespace Mine

inductive M | lower | upper | strip | replace | startswith | endswith | join | partition | append | get | match_ | search | group | end_ | start | groups | decode | update | pop
def M.s : M → Str
  | .lower => "lower" | .upper => "upper" | .strip => "strip" | .replace => "replace" | .startswith => "startswith" | .endswith => "endswith" | .join => "join"
  | .partition => "partition" | .append => "append" | .get => "get" | .match_ => "match" | .search => "search" | .group => "group" | .end_ => "end" | .start => "start"
  | .groups => "groups" | .decode => "decode" | .update => "update" | .pop => "pop"
inductive BF | len | ord | bytes | int | str | sorted | all
def BF.s : BF → Str
  | .len => "len" | .ord => "ord" | .bytes => "bytes" | .int => "int" | .str => "str" | .sorted => "sorted" | .all => "all"
inductive UF | text | unquote | qhv | uqhv | dump | parse | tongues | spaces | coded | quoted | pieces | written
def UF.s : UF → Str
  | .text => "_text" | .unquote => "unquote" | .qhv => "quote_header_value" | .uqhv => "unquote_header_value" | .dump => "dump_options_header" | .parse => "parse_options_header"
  | .tongues => "_law_tongues" | .spaces => "_law_spaces" | .coded => "_law_coded" | .quoted => "_law_quoted" | .pieces => "_law_pieces" | .written => "_law_written"
inductive GN | digits | tokens | keyRe | markRe | tokRe | charsetRe | delimRe | unslashRe | signs | names | charsets
def GN.s : GN → Str
  | .digits => "_DIGITS" | .tokens => "_token_chars" | .keyRe => "_parameter_key_re" | .markRe => "_parameter_mark_re" | .tokRe => "_parameter_token_value_re" | .charsetRe => "_charset_value_re"
  | .delimRe => "_parameter_delimiter_re" | .unslashRe => "_unslash_re" | .signs => "_law_signs" | .names => "_law_names" | .charsets => "_law_charsets"
def UF.a : UF → Addr
  | .text => 38 | .unquote => 45 | .qhv => 53 | .uqhv => 65 | .dump => 72 | .parse => 102 | .tongues => 115 | .spaces => 122 | .coded => 129 | .quoted => 136 | .pieces => 143 | .written => 148
/-- how deep its calls go -/
def UF.lev : UF → Nat
  | .unquote => 2 | .dump => 2 | .parse => 3 | .written => 2 | _ => 1
def BF.v : BF → Value
  | .len => .builtin "len" | .ord => .builtin "ord" | .bytes => .type "bytes" | .int => .type "int" | .str => .type "str" | .sorted => .builtin "sorted" | .all => .builtin "all"
/-- what the global names stand for -/
def GN.v : GN → AV
  | .digits => .str [48, 49, 50, 51, 52, 53, 54, 55, 56, 57, 65, 66, 67, 68, 69, 70, 97, 98, 99, 100, 101, 102]
  | .tokens => .str [33, 35, 36, 37, 38, 39, 42, 43, 45, 46, 48, 49, 50, 51, 52, 53, 54, 55, 56, 57, 65, 66, 67, 68, 69, 70, 71, 72, 73, 74, 75, 76, 77, 78, 79, 80, 81, 82, 83, 84, 85, 86, 87, 88, 89, 90, 94, 95, 96, 97, 98, 99, 100, 101, 102, 103, 104, 105, 106, 107, 108, 109, 110, 111, 112, 113, 114, 115, 116, 117, 118, 119, 120, 121, 122, 124, 126]
  | .unslashRe => .con (.ref 58) | .keyRe => .con (.ref 77) | .markRe => .con (.ref 82) | .tokRe => .con (.ref 87) | .charsetRe => .con (.ref 92) | .delimRe => .con (.ref 97)
  | .signs => .con (.ref 103) | .names => .con (.ref 104) | .charsets => .con (.ref 108)
/-- the text's own tables -/
def gtab : Addr → Option (List AV)
  | 103 => some [.str [97], .str [90], .str [55], .str [45], .str [32], .str [59], .str [44], .str [61], .str [34], .str [92], .str [39], .str [42], .str [233], .str [8364]]
  | 104 => some [.str [110, 97, 109, 101], .str [98], .str [102, 105, 108, 101, 45, 49]]
  | 105 => some [.str [85, 84, 70, 45, 56], .str [117, 116, 102, 45, 56]]
  | 106 => some [.str [73, 83, 79, 45, 56, 56, 53, 57, 45, 49], .str [105, 115, 111, 45, 56, 56, 53, 57, 45, 49]]
  | 107 => some [.str [117, 115, 45, 97, 115, 99, 105, 105], .str [65, 83, 67, 73, 73]]
  | 108 => some [.con (.ref 105), .con (.ref 106), .con (.ref 107)]
  | _ => none

mutual
inductive CE where
  | loc (i : Nat) (p : Pos)
  | glob (g : GN) (p : Pos)
  | cnone (k : Nat) (p : Pos) | cbool (b : Bool) (k : Nat) (p : Pos) | cint (i : Int) (k : Nat) (p : Pos) | cstr (l : List Nat) (k : Nat) (p : Pos) | cbytes (l : List UInt8) (k : Nat) (p : Pos)
  | bin (a : CE) (op : Operator) (b : CE) (p : Pos)
  | cmp (a : CE) (op : CmpOp) (b : CE) (p : Pos)
  | not (a : CE) (p : Pos)
  | bop (op : BoolOp) (xs : CEL) (p : Pos)
  | ife (t a b : CE) (p : Pos)
  | idx (a i : CE) (p : Pos)
  | slAB (a lo hi : CE) (ps p : Pos)
  | slA (a lo : CE) (ps p : Pos)
  | slB (a hi : CE) (ps p : Pos)
  | call (f : BF) (xs : CEL) (pf p : Pos)
  | ucall (f : UF) (xs : CEL) (pf p : Pos)
  | ucallK (f : UF) (x : CE) (kw : Str) (y : CE) (pf pk p : Pos)
  | meth (o : CE) (m : M) (xs : CEL) (pa p : Pos)
  | wal (i : Nat) (e : CE) (pi p : Pos)
  | tup (xs : CEL) (k : Nat) (p : Pos)
  | list (xs : CEL) (p : Pos)
  | repl (o : CE) (a b : List Nat) (ka kb : Nat) (qa qb pa p : Pos)
  | bytes1 (e : CE) (pl pf p : Pos)
  | sorted2 (a b : CE) (pl pf p : Pos)
  | neNil (a : CE) (pl p : Pos)
  | dict0 (p : Pos)
  | fmt (e : CE) (p : Pos)
  | fstr (xs : CEL) (p : Pos)
  | sp (n : Nat)
inductive CEL where
  | nil
  | cons (e : CE) (r : CEL)
end
/-- statements, the rest within -/
inductive CS where
  | nil
  | asg (i : Nat) (e : CE) (pi p : Pos) (r : CS)
  | asg2 (i j : Nat) (e : CE) (pi pj p : Pos) (r : CS)
  | tupS (ids : List (Nat × Pos)) (es : CEL) (k1 k2 : Nat) (pt pv p : Pos) (r : CS)
  | tupK (ids : List (Nat × Pos)) (es : CEL) (k1 k2 : Nat) (pt pv p : Pos) (r : CS)
  | unp (ids : List (Nat × Pos)) (e : CE) (k1 : Nat) (pt p : Pos) (r : CS)
  | setI (o i v : CE) (ps p : Pos) (r : CS)
  | aug (i : Nat) (op : Operator) (e : CE) (pi p : Pos) (r : CS)
  | ex (e : CE) (p : Pos) (r : CS)
  | ife (t : CE) (a b : CS) (p : Pos) (r : CS)
  | whl (t : CE) (a b : CS) (p : Pos) (r : CS)
  | forS (i : Nat) (e : CE) (a : CS) (pi p : Pos) (r : CS)
  | forR (i : Nat) (e : CE) (a : CS) (pi pf pc p : Pos) (r : CS)
  | forT (ids : List (Nat × Pos)) (e : CE) (a : CS) (k1 : Nat) (pt p : Pos) (r : CS)
  | forD (ids : List (Nat × Pos)) (e : CE) (a : CS) (k1 : Nat) (pt pa pc p : Pos) (r : CS)
  | ret (e : CE) (p : Pos)
  | brk (p : Pos)
  | cnt (p : Pos)
  | sp (n : Nat) (r : CS)
  | raw (s : PySem.Stmt) (r : CS)

section
variable (nm : Nat → Str) (sx : Nat → PySem.Expr)
mutual
def toE : CE → PySem.Expr
  | .loc i p => .Name (nm i) p
  | .glob g p => .Name g.s p
  | .cnone k p => .Constant .none k p
  | .cbool b k p => .Constant (.bool b) k p
  | .cint i k p => .Constant (.int i) k p
  | .cstr l k p => .Constant (.str (S l)) k p
  | .cbytes l k p => .Constant (.bytes l) k p
  | .bin a op b p => .BinOp (toE a) op (toE b) p
  | .cmp a op b p => .Compare (toE a) [op] [toE b] p
  | .not a p => .UnaryOp .Not (toE a) p
  | .bop op xs p => .BoolOp op (toEL xs) p
  | .ife t a b p => .IfExp (toE t) (toE a) (toE b) p
  | .idx a i p => .Subscript (toE a) (toE i) p
  | .slAB a lo hi ps p => .Subscript (toE a) (.Slice (some (toE lo)) (some (toE hi)) none ps) p
  | .slA a lo ps p => .Subscript (toE a) (.Slice (some (toE lo)) none none ps) p
  | .slB a hi ps p => .Subscript (toE a) (.Slice none (some (toE hi)) none ps) p
  | .call f xs pf p => .Call (.Name f.s pf) (toEL xs) [] p
  | .ucall f xs pf p => .Call (.Name f.s pf) (toEL xs) [] p
  | .ucallK f x kw y pf pk p => .Call (.Name f.s pf) [toE x] [⟨some kw, toE y, pk⟩] p
  | .meth o m xs pa p => .Call (.Attribute (toE o) m.s pa) (toEL xs) [] p
  | .wal i e pi p => .NamedExpr (.Name (nm i) pi) (toE e) p
  | .tup xs k p => .Tuple (toEL xs) k p
  | .list xs p => .List (toEL xs) p
  | .repl o a b ka kb qa qb pa p => .Call (.Attribute (toE o) "replace" pa) [.Constant (.str (S a)) ka qa, .Constant (.str (S b)) kb qb] [] p
  | .bytes1 e pl pf p => .Call (.Name "bytes" pf) [.List [toE e] pl] [] p
  | .sorted2 a b pl pf p => .Call (.Name "sorted" pf) [.List [toE a, toE b] pl] [] p
  | .neNil a pl p => .Compare (toE a) [.NotEq] [.List [] pl] p
  | .dict0 p => .Dict [] [] p
  | .fmt e p => .FormattedValue (toE e) (-1) none p
  | .fstr xs p => .JoinedStr (toEL xs) p
  | .sp n => sx n
def toEL : CEL → List PySem.Expr
  | .nil => []
  | .cons e r => toE e :: toEL r
end
def nms (ids : List (Nat × Pos)) : List PySem.Expr := ids.map fun x => .Name (nm x.1) x.2
variable (sy : Nat → PySem.Stmt)
def toS : CS → List PySem.Stmt
  | .nil => []
  | .asg i e pi p r => .Assign [.Name (nm i) pi] (toE nm sx e) p :: toS r
  | .asg2 i j e pi pj p r => .Assign [.Name (nm i) pi, .Name (nm j) pj] (toE nm sx e) p :: toS r
  | .tupS ids es k1 k2 pt pv p r => .Assign [.Tuple (nms nm ids) k1 pt] (.Tuple (toEL nm sx es) k2 pv) p :: toS r
  | .tupK ids es k1 k2 pt pv p r => .Assign [.Tuple (nms nm ids) k1 pt] (.Tuple (toEL nm sx es) k2 pv) p :: toS r
  | .unp ids e k1 pt p r => .Assign [.Tuple (nms nm ids) k1 pt] (toE nm sx e) p :: toS r
  | .setI o i v ps p r => .Assign [.Subscript (toE nm sx o) (toE nm sx i) ps] (toE nm sx v) p :: toS r
  | .aug i op e pi p r => .AugAssign (.Name (nm i) pi) op (toE nm sx e) p :: toS r
  | .ex e p r => .Expr (toE nm sx e) p :: toS r
  | .ife t a b p r => .If (toE nm sx t) (toS a) (toS b) p :: toS r
  | .whl t a b p r => .While (toE nm sx t) (toS a) (toS b) p :: toS r
  | .forS i e a pi p r => .For (.Name (nm i) pi) (toE nm sx e) (toS a) [] p :: toS r
  | .forR i e a pi pf pc p r => .For (.Name (nm i) pi) (.Call (.Name "range" pf) [toE nm sx e] [] pc) (toS a) [] p :: toS r
  | .forT ids e a k1 pt p r => .For (.Tuple (nms nm ids) k1 pt) (toE nm sx e) (toS a) [] p :: toS r
  | .forD ids e a k1 pt pa pc p r => .For (.Tuple (nms nm ids) k1 pt) (.Call (.Attribute (toE nm sx e) "items" pa) [] [] pc) (toS a) [] p :: toS r
  | .ret e p => [.Return (some (toE nm sx e)) p]
  | .brk p => [.Break p]
  | .cnt p => [.Continue p]
  | .sp n r => sy n :: toS r
  | .raw s r => s :: toS r
end
end Mine
end
section
open PySem PySem.Spec PySem.Calls PyProof.Rows PySem.W
namespace Mine
/-! ## the plain functions: texts are lists of numbers -/
abbrev T := List Nat
def repl1 (c : Nat) (z : T) (l : T) : T := l.flatMap fun x => if x = c then z else [x]
/-- what stands between quotes -/
def esc (l : T) : T := repl1 34 [92, 34] (repl1 92 [92, 92] l)
def unesc : T → T
  | [] => []
  | [c] => [c]
  | c :: d :: r => if c = 92 ∧ d ≠ 10 then d :: unesc r else c :: unesc (d :: r)
def isW (c : Nat) : Bool := (48 ≤ c && c ≤ 57) || (65 ≤ c && c ≤ 90) || (97 ≤ c && c ≤ 122) || c == 95
/-- a sign of a token (with the single quote) -/
def tokC (c : Nat) : Bool := isW c || [33, 35, 36, 37, 38, 39, 42, 43, 45, 46, 94, 96, 124, 126].contains c
/-- a sign of a charset's or a tongue's name -/
def chsC (c : Nat) : Bool := isW c || [33, 35, 36, 37, 38, 42, 43, 45, 46, 94, 96, 124, 126].contains c
def qhvF (l : T) : T := if l = [] then [34, 34] else if l.all tokC then l else [34] ++ esc l ++ [34]
def lowC (c : Nat) : Nat := if 65 ≤ c ∧ c ≤ 90 then c + 32 else c
def upC (c : Nat) : Nat := if 97 ≤ c ∧ c ≤ 122 then c - 32 else c
def spt (c : Nat) : Bool := c == 32 || c == 9
/-- strip(' \t') -/
def stripF (l : T) : T := ((l.dropWhile spt).reverse.dropWhile spt).reverse
def uqF (l : T) : T := if 2 ≤ l.length ∧ l.head? = some 34 ∧ l.getLast? = some 34 then unesc ((l.drop 1).dropLast) else l
section
variable {α : Type}
def dget : List (T × α) → T → Option α
  | [], _ => none
  | (k, v) :: r, x => if k = x then some v else dget r x
def dput : List (T × α) → T → α → List (T × α)
  | [], x, y => [(x, y)]
  | (k, v) :: r, x, y => if k = x then (k, y) :: r else (k, v) :: dput r x y
end
/-- the closing of a quoted text, behind its first quote: what is taken (with the closing quote), what is left -/
def qscan : T → Option (T × T)
  | [] => none
  | [c] => if c = 34 then some ([34], []) else none
  | c :: d :: r => if c = 92 ∧ (d = 92 ∨ d = 34) then (qscan r).map fun x => (c :: d :: x.1, x.2)
    else if c = 34 then some ([34], d :: r) else (qscan (d :: r)).map fun x => (c :: x.1, x.2)
/-- behind the next semicolon and the blanks behind it -/
def delim : T → Option T
  | [] => none
  | c :: r => if c = 59 then some (r.dropWhile spt) else delim r
/-- where the next semicolon stands, and where the blanks behind it end -/
def delimSp (d : T) : Option (Nat × Nat) :=
  let n := (d.takeWhile (· != 59)).length
  if n < d.length then some (n, n + 1 + ((d.drop (n + 1)).takeWhile spt).length) else none
/-- the first loop of parse_options_header over what is left; the fuel is its length -/
def scan : Nat → T → List (T × T)
  | 0, _ => []
  | n + 1, d => if d = [] then [] else
    let m := d.takeWhile tokC
    let (ps, d1, go) : List (T × T) × T × Bool := if m ≠ [] ∧ (d.drop m.length).head? = some 61 then
        let d1 := d.drop (m.length + 1)
        let m1 := d1.takeWhile tokC
        if m1 ≠ [] then ([(m.map lowC, m1)], d1, true)
        else if d1.head? = some 34 then match qscan (d1.drop 1) with
          | some (q, r) => ([(m.map lowC, 34 :: q)], r, true)
          | none => ([], d1, false)
        else ([], d1, true)
      else ([], d, true)
    ps ++ (if go then match delim d1 with
      | some d2 => scan n d2
      | none => [] else [])
/-- bytes and texts -/
def hexV (c : Nat) : Option Nat := if 48 ≤ c ∧ c ≤ 57 then some (c - 48) else if 65 ≤ c ∧ c ≤ 70 then some (c - 55) else if 97 ≤ c ∧ c ≤ 102 then some (c - 87) else none
def hexU (n : Nat) : Nat := if n < 10 then 48 + n else 55 + n
def hexL (n : Nat) : Nat := if n < 10 then 48 + n else 87 + n
/-- the pairs of digits that can come -/
def pairs : List (Nat × Nat × Nat) := [(54, 49, 97), (53, 97, 90), (51, 55, 55), (50, 100, 45), (50, 48, 32), (51, 98, 59), (50, 99, 44), (51, 100, 61), (50, 50, 34), (53, 99, 92), (50, 55, 39), (50, 97, 42), (69, 57, 233), (69, 50, 226), (56, 50, 130), (97, 99, 172), (99, 51, 195), (65, 57, 169)]
def hex2 (a b : Nat) : Option Nat := (pairs.find? fun p => p.1 == a && p.2.1 == b).map (·.2.2)
def octs : T → Option (List UInt8)
  | [] => some []
  | c :: r => match c, r with
    | 37, a :: b :: r' => if (hexV a).isSome && (hexV b).isSome then (match hex2 a b with
      | some n => (octs r').map (UInt8.ofNat n :: ·)
      | none => none) else (octs (a :: b :: r')).map (UInt8.ofNat 37 :: ·)
    | c, r => (octs r).map (UInt8.ofNat c :: ·)
def u8 (c : Nat) : List UInt8 := if c = 233 then [195, 169] else if c = 8364 then [226, 130, 172] else [UInt8.ofNat c]
def sUtf8 : T := [117, 116, 102, 45, 56]
def sIso : T := [105, 115, 111, 45, 56, 56, 53, 57, 45, 49]
def sUs : T := [117, 115, 45, 97, 115, 99, 105, 105]
def sAscii : T := [97, 115, 99, 105, 105]
def decU : List UInt8 → Option T
  | [] => some []
  | a :: r => if a < 128 then (decU r).map (a.toNat :: ·) else match a, r with
    | 195, b :: r' => if b = 169 then (decU r').map (233 :: ·) else none
    | 226, b :: c :: r' => if b = 130 ∧ c = 172 then (decU r').map (8364 :: ·) else none
    | _, _ => none
/-- _text, where nothing has to be replaced -/
def decF (e : T) (b : List UInt8) : Option T :=
  if e = sUtf8 then decU b else if e = sIso then some (b.map (·.toNat)) else if b.all (· < 128) then some (b.map (·.toNat)) else none
/-- unquote, of texts of ASCII alone -/
def unqF (s e : T) : Option T := if s.all (· < 128) then (octs s).bind (decF e) else none
/-- _law_coded -/
def code1 (kind : Int) (bare : Bool) (c : Nat) : T :=
  if bare = true ∧ c ∈ [97, 90, 55, 45] then [c] else if c = 8364 then [37, 69, 50, 37, 56, 50, 37, 97, 99] else if c = 233 ∧ kind = 0 then [37, 99, 51, 37, 65, 57] else [37, hexU (c / 16), hexL (c % 16)]
def codedF (l : T) (kind : Int) (bare : Bool) : T := l.flatMap (code1 kind bare)
def quotedF (l : T) : T := [34] ++ esc l ++ [34]
def cutsF (l : T) (draw : Int) : Nat × Nat :=
  let a := (draw % (l.length + 1)).toNat
  let b := (draw / 7 % (l.length + 1)).toNat
  (min a b, max a b)
def piecesF (l : T) (draw bits : Int) : List T :=
  let c := cutsF l draw
  if bits % 3 = 0 then [l] else if bits % 3 = 1 then [l.take c.1, l.drop c.1] else [l.take c.1, (l.take c.2).drop c.1, l.drop c.2]
def tongues : List T := [[], [101, 110], [100, 101, 45, 65, 84]]
def spaces : List T := [[59, 32], [59], [32, 59, 9], [59, 32, 102, 108, 97, 103, 59, 32], [59, 32, 61, 120, 59]]
def charsets : List (List T) := [[[85, 84, 70, 45, 56], [117, 116, 102, 45, 56]], [[73, 83, 79, 45, 56, 56, 53, 57, 45, 49], [105, 115, 111, 45, 56, 56, 53, 57, 45, 49]], [[117, 115, 45, 97, 115, 99, 105, 105], [65, 83, 67, 73, 73]]]
def kindF (l : T) (draw : Int) : Int := if 8364 ∈ l then 0 else if 233 ∈ l then draw % 2 else draw % 3
def plainC (c : Nat) : Bool := [97, 90, 55, 45, 39, 42].contains c
/-- one piece written: whether a charset has been told, the part -/
def write1 (name l : T) (draw bits : Int) (np : Nat) (told : Bool) (n : Nat) (piece : T) : T × Bool :=
  let way := bits / 3 / 4 ^ n % 4
  let mark := if np = 1 then name else name ++ [42] ++ [48 + n]
  if way > 1 ∧ piece ≠ [] then
    let front := if told = true ∧ way = 3 then [] else
      ((charsets.getD (kindF l draw).toNat []).getD (draw / 5 % 2).toNat []) ++ [39] ++ tongues.getD (draw / 11 % 3).toNat [] ++ [39]
    (mark ++ [42, 61] ++ front ++ codedF piece (kindF l draw) (decide (draw / 3 % 2 = 0)), true)
  else if way = 1 ∧ piece ≠ [] ∧ piece.all plainC = true then (mark ++ [61] ++ piece, told)
  else (mark ++ [61] ++ quotedF piece, told)
def writeL (name l : T) (draw bits : Int) (np : Nat) : Nat → Bool → List T → List T
  | _, _, [] => []
  | n, told, p :: r => (write1 name l draw bits np told n p).1 :: writeL name l draw bits np (n + 1) (write1 name l draw bits np told n p).2 r
def writtenF (name l : T) (draw bits : Int) : List T := writeL name l draw bits (piecesF l draw bits).length 0 false (piecesF l draw bits)
def joinF (s : T) : List T → T
  | [] => []
  | [x] => x
  | x :: y :: r => x ++ s ++ joinF s (y :: r)
def dumpF (h : T) (es : List (T × T)) : T := joinF [59, 32] (h :: es.map fun e => e.1 ++ [61] ++ qhvF e.2)
/-- a key cut at its mark: the name, whether it is one of several, whether it is coded -/
def markF (pk : T) : Option (T × Bool × Bool) :=
  let nm := pk.takeWhile (· != 42)
  match pk.drop nm.length with
  | [] => some (nm, false, false)
  | _ :: mk =>
    let ds := mk.takeWhile fun c => 48 ≤ c && c ≤ 57
    match mk.drop ds.length with
    | [] => some (nm, !ds.isEmpty, ds.isEmpty)
    | [42] => if ds.isEmpty then none else some (nm, true, true)
    | _ => none
/-- the spans that the search for the mark finds -/
def markSp (pk : T) : Option (List Int) :=
  let n : Int := (pk.takeWhile (· != 42)).length
  let e : Int := pk.length
  (markF pk).map fun x => [n, e] ++ (if x.2.1 then [n + 1, if x.2.2 then e - 1 else e] else [-1, -1]) ++ (if x.2.2 then [e - 1, e] else [-1, -1])
/-- charset'tongue'text -/
def chsF (pv : T) : Option (T × T) :=
  let cs := pv.takeWhile chsC
  match pv.drop cs.length with
  | 39 :: r =>
    let tg := r.takeWhile chsC
    match r.drop tg.length with
    | 39 :: v => if v ≠ [] ∧ v.all tokC = true then some (cs, v) else none
    | _ => none
  | _ => none
def signs : T := [97, 90, 55, 45, 32, 59, 44, 61, 34, 92, 39, 42, 233, 8364]
def names : List T := [[110, 97, 109, 101], [98], [102, 105, 108, 101, 45, 49]]
/-- the text that a number draws -/
def textF (d : Int) : T := (List.range (d / 3 % 7).toNat).map fun n => signs.getD (d / 14 ^ n % 14).toNat 0
/-- the keys that can come -/
def keyL : List T := names.flatMap fun n => [[], [42], [42, 48], [42, 49], [42, 50], [42, 48, 42], [42, 49, 42], [42, 50, 42]].map (n ++ ·)
structure St where
  opt : List (T × T)
  con : List (T × List T)
  enc : List (T × T)
/-- one part is taken up -/
def stepF (st : St) (p : T × T) : Option St :=
  match (if p.1 ∈ keyL then markF p.1 else none) with
  | none => none
  | some (nm, hc, hs) =>
    if hs = true ∧ p.2.all chsC = false ∧ chsF p.2 = none then none else
    let (e0, v0) : Option T × T := if hs then match chsF p.2 with
      | some (cs, v) => (some (cs.map lowC), v)
      | none => (none, p.2) else (none, p.2)
    let e : Option T := if hs = true ∧ hc = true ∧ (e0 = none ∨ e0 = some []) then dget st.enc nm else e0
    let v? : Option T := if hs then match e with
      | some x => if x = sAscii ∨ x = sUs ∨ x = sUtf8 ∨ x = sIso then unqF v0 x else some v0
      | none => none
      else if 37 ∈ uqF v0 then none else some (uqF v0)
    match v? with
    | none => none
    | some v => if hc then
        if (dget st.opt nm).isSome then none else
        some ⟨st.opt, dput st.con nm ((dget st.con nm).getD [] ++ [v]), match e with | some (c :: r) => dput st.enc nm (c :: r) | _ => st.enc⟩
      else if (dget st.con nm).isSome then none else some ⟨dput st.opt nm v, st.con, st.enc⟩
def stepsF : St → List (T × T) → Option St
  | st, [] => some st
  | st, p :: r => (stepF st p).bind fun st' => stepsF st' r
def finF (st : St) : List (T × T) := st.con.foldl (fun o c => dput o c.1 c.2.flatten) st.opt
/-- parse_options_header -/
def parseF (l : T) : Option (T × List (T × T)) :=
  let v := stripF (l.takeWhile (· != 59))
  let r := stripF (l.drop ((l.takeWhile (· != 59)).length + 1))
  let ps := scan r.length r
  if v = [] ∨ r = [] ∨ ps.length > 20 ∨ ps.all (fun p => decide (p.2.length ≤ 600)) = false then none else (stepsF ⟨[], [], []⟩ ps).map fun st => (v, finF st)
end Mine
end
section
open PySem PySem.Spec PySem.Calls PyProof.Rows PySem.W
namespace Mine
/-! ## what the core language means -/
abbrev KA := AV → AH → Prop
def strsOf : List AV → Option (List T)
  | [] => some []
  | .str l :: r => (strsOf r).map (l :: ·)
  | _ => none
def valsOf : List (T × AV) → Option (List (T × T))
  | [] => some []
  | (k, .str l) :: r => (valsOf r).map ((k, l) :: ·)
  | _ => none
/-- two dicts of texts hold the same -/
def dEq (a b : List (T × T)) : Bool := a.length == b.length && a.all fun e => dget b e.1 == some e.2
def aBin : Operator → AV → AV → AH → KA → Prop
  | .Add, .int a, .int b, ah, k => k (.int (a + b)) ah
  | .Add, .str a, .str b, ah, k => a.length + b.length ≤ 1000000 ∧ k (.str (a ++ b)) ah
  | .Add, .bytes a, .bytes b, ah, k => a.length + b.length ≤ 1000000 ∧ k (.bytes (a ++ b)) ah
  | .Add, .ref i, .ref j, ah, k => ∃ xs ys, getO ah i = some (.list xs) ∧ getO ah j = some (.list ys) ∧ xs.length + ys.length ≤ 1000 ∧ k (.ref ah.length) (ah ++ [.list (xs ++ ys)])
  | .Sub, .int a, .int b, ah, k => k (.int (a - b)) ah
  | .Mult, .int a, .int b, ah, k => 0 ≤ a ∧ a ≤ 1000000 ∧ 0 ≤ b ∧ b ≤ 1000000 ∧ k (.int (a * b)) ah
  | .Mod, .int a, .int b, ah, k => 0 < b ∧ k (.int (a % b)) ah
  | .FloorDiv, .int a, .int b, ah, k => 0 < b ∧ b < 1000000000 ∧ k (.int (a / b)) ah
  | .Pow, .int a, .int b, ah, k => 0 ≤ a ∧ a ≤ 1000 ∧ 0 ≤ b ∧ b ≤ 100 ∧ k (.int (a ^ b.toNat)) ah
  | _, _, _, _, _ => False
def aAug : Operator → AV → AV → (AV → Prop) → Prop
  | .Add, .int a, .int b, k => k (.int (a + b))
  | .Add, .str a, .str b, k => a.length + b.length ≤ 1000000 ∧ k (.str (a ++ b))
  | .Add, .bytes a, .bytes b, k => a.length + b.length ≤ 1000000 ∧ k (.bytes (a ++ b))
  | _, _, _, _ => False
def isNoneA : AV → Option Bool
  | .none => some true
  | .con _ => none
  | _ => some false
def aCmp : CmpOp → AV → AV → AH → (Bool → Prop) → Prop
  | .Eq, .int a, .int b, _, k => k (decide (a = b))
  | .Eq, .str a, .str b, _, k => k (decide (a = b))
  | .Eq, .tup [.str a, .ref i], .tup [.str b, .ref j], ah, k => ∃ es fs ep eq xs ys, getO ah i = some (.dict es ep) ∧ getO ah j = some (.dict fs eq) ∧ valsOf es = some xs ∧ valsOf fs = some ys ∧ es.length ≤ 1000 ∧ fs.length ≤ 1000 ∧ a = b ∧ dEq xs ys = true ∧ k true
  | .NotEq, .str a, .str b, _, k => k (decide (a ≠ b))
  | .NotEq, .ref i, .ref j, ah, k => ∃ xs, getO ah i = some (.list xs) ∧ getO ah j = some (.list []) ∧ xs.length ≤ 1000 ∧ k (!xs.isEmpty)
  | .Lt, .int a, .int b, _, k => k (decide (a < b))
  | .Gt, .int a, .int b, _, k => k (decide (a > b))
  | .GtE, .int a, .int b, _, k => k (decide (a ≥ b))
  | .In, .str [c], .str l, _, k => k (decide (c ∈ l))
  | .In, .str x, .ref i, ah, k => ∃ es ep, getO ah i = some (.dict es ep) ∧ k ((dget es x).isSome)
  | .Is, v, .none, _, k => ∃ b, isNoneA v = some b ∧ k b
  | .IsNot, v, .none, _, k => ∃ b, isNoneA v = some b ∧ k (!b)
  | _, _, _, _, _ => False
def aIdx : AV → AV → AH → (AV → Prop) → Prop
  | .str l, .int i, _, k => 0 ≤ i ∧ i ≤ 1000000 ∧ ∃ c, l[i.toNat]? = some c ∧ k (.str [c])
  | .ref o, .int i, ah, k => 0 ≤ i ∧ ∃ xs v, getO ah o = some (.list xs) ∧ xs.length ≤ 1000 ∧ xs[i.toNat]? = some v ∧ k v
  | .ref o, .str x, ah, k => ∃ es ep v, getO ah o = some (.dict es ep) ∧ dget es x = some v ∧ k v
  | .tup xs, .int i, _, k => 0 ≤ i ∧ ∃ v, xs.length ≤ 1000 ∧ xs[i.toNat]? = some v ∧ k v
  | .con (.ref a), .int i, _, k => 0 ≤ i ∧ i ≤ 1000 ∧ ∃ xs v, gtab a = some xs ∧ xs[i.toNat]? = some v ∧ k v
  | _, _, _, _ => False
/-- a slice, both bounds no less than nought -/
def aSl : AV → Option AV → Option AV → AH → KA → Prop
  | .str l, some (.int i), some (.int j), ah, k => 0 ≤ i ∧ 0 ≤ j ∧ i ≤ 1000000 ∧ j ≤ 1000000 ∧ l.length ≤ 1000000 ∧ k (.str ((l.take j.toNat).drop i.toNat)) ah
  | .str l, some (.int i), none, ah, k => 0 ≤ i ∧ i ≤ 1000000 ∧ l.length ≤ 1000000 ∧ k (.str (l.drop i.toNat)) ah
  | .str l, none, some (.int j), ah, k => 0 ≤ j ∧ j ≤ 1000000 ∧ l.length ≤ 1000000 ∧ k (.str (l.take j.toNat)) ah
  | .ref o, some (.int i), none, ah, k => 0 ≤ i ∧ i ≤ 1000 ∧ ∃ xs, getO ah o = some (.list xs) ∧ xs.length ≤ 1000 ∧ k (.ref ah.length) (ah ++ [.list (xs.drop i.toNat)])
  | _, _, _, _, _ => False
def aCall : BF → List AV → AH → KA → Prop
  | .len, [.str l], ah, k => l.length ≤ 1000000 ∧ k (.int l.length) ah
  | .len, [.ref o], ah, k => ∃ xs, getO ah o = some (.list xs) ∧ xs.length ≤ 1000 ∧ k (.int xs.length) ah
  | .ord, [.str [c]], ah, k => k (.int c) ah
  | .int, [.str [a, b], .int 16], ah, k => ∃ n, hex2 a b = some n ∧ k (.int (n : Nat)) ah
  | .str, [.str l], ah, k => k (.str l) ah
  | .str, [.int i], ah, k => 0 ≤ i ∧ i < 10 ∧ k (.str [48 + i.toNat]) ah
  | _, _, _, _ => False
/-- a regular expression at work: which, by match or by search, where from; the spans -/
def reM : Addr → M → T → Nat → (Option (List Int) → Prop) → Prop
  | 77, .match_, l, p, k =>
    let m := (l.drop p).takeWhile tokC
    if m ≠ [] ∧ ((l.drop p).drop m.length).head? = some 61 then k (some [(p : Int), p + m.length + 1, p, p + m.length]) else k none
  | 87, .match_, l, p, k =>
    let m := (l.drop p).takeWhile tokC
    if m ≠ [] then k (some [(p : Int), p + m.length]) else k none
  | 97, .search, l, p, k => k ((delimSp (l.drop p)).map fun x => [((p + x.1 : Nat) : Int), ((p + x.2 : Nat) : Int)])
  | 82, .search, l, 0, k => l ∈ keyL ∧ ∃ sp, markSp l = some sp ∧ k (some sp)
  | 92, .match_, l, 0, k => (l.all chsC = true ∨ (chsF l).isSome = true) ∧ k ((chsF l).map fun x => [0, (l.length : Int), 0, (x.1.length : Int), ((l.length - x.2.length : Nat) : Int), (l.length : Int)])
  | _, _, _, _, _ => False
def aMeth : AV → M → List AV → AH → KA → Prop
  | .str l, .lower, [], ah, k => l.length ≤ 1000000 ∧ (∀ c ∈ l, c < 128) ∧ k (.str (l.map lowC)) ah
  | .str l, .upper, [], ah, k => l.length ≤ 1000000 ∧ (∀ c ∈ l, c < 128) ∧ k (.str (l.map upC)) ah
  | .str l, .strip, [.str [32, 9]], ah, k => l.length ≤ 1000000 ∧ k (.str (stripF l)) ah
  | .str l, .startswith, [.str [c]], ah, k => k (.bool (l.head? == some c)) ah
  | .str l, .startswith, [.str [c], .int p], ah, k => 0 ≤ p ∧ p ≤ 1000000 ∧ l.length ≤ 1000000 ∧ k (.bool (l[p.toNat]? == some c)) ah
  | .str l, .startswith, [.tup [.str [a, b], .str [c, d]], .int p], ah, k => 0 ≤ p ∧ p ≤ 1000000 ∧ l.length ≤ 1000000 ∧ k (.bool (((l.drop p.toNat).take 2 == [a, b]) || ((l.drop p.toNat).take 2 == [c, d]))) ah
  | .str l, .endswith, [.str [c]], ah, k => k (.bool (l.getLast? == some c)) ah
  | .str l, .join, [.ref o], ah, k => ∃ xs ts, getO ah o = some (.list xs) ∧ strsOf xs = some ts ∧ (ts.map List.length).sum + ts.length * l.length ≤ 1000000 ∧ k (.str (joinF l ts)) ah
  | .str l, .partition, [.str [c]], ah, k => l.length ≤ 1000000 ∧ c ∈ l ∧ k (.tup [.str (l.takeWhile (· != c)), .str [c], .str (l.drop ((l.takeWhile (· != c)).length + 1))]) ah
  | .bytes b, .decode, [.str e, .str [114, 101, 112, 108, 97, 99, 101]], ah, k => (e = sUtf8 ∨ e = sAscii) ∧ b.length ≤ 1000000 ∧ ∃ l, decF e b = some l ∧ k (.str l) ah
  | .bytes b, .decode, [.str e], ah, k => e = sIso ∧ b.length ≤ 1000000 ∧ k (.str (b.map (·.toNat))) ah
  | .ref o, .append, [v], ah, k => ∃ xs, getO ah o = some (.list xs) ∧ xs.length ≤ 1000 ∧ k .none (setO ah o (.list (xs ++ [v])))
  | .ref o, .get, [.str x], ah, k => ∃ es ep, getO ah o = some (.dict es ep) ∧ k ((dget es x).getD .none) ah
  | .con (.ref a), m, [.str l], ah, k => l.length ≤ 1000000 ∧ reM a m l 0 fun r => k (match r with | some sp => .mt l sp | none => .none) ah
  | .con (.ref a), m, [.str l, .int p], ah, k => l.length ≤ 1000000 ∧ 0 ≤ p ∧ p ≤ l.length ∧ reM a m l p.toNat fun r => k (match r with | some sp => .mt l sp | none => .none) ah
  | .mt l sp, .group, [], ah, k => ∃ a b, sp[0]? = some a ∧ sp[1]? = some b ∧ 0 ≤ a ∧ 0 ≤ b ∧ l.length ≤ 1000000 ∧ k (.str ((l.take b.toNat).drop a.toNat)) ah
  | .mt l sp, .group, [.int g], ah, k => 0 ≤ g ∧ g ≤ 10 ∧ ∃ a b, sp[2 * g.toNat]? = some a ∧ sp[2 * g.toNat + 1]? = some b ∧ l.length ≤ 1000000 ∧ k (if a < 0 ∨ b < 0 then .none else .str ((l.take b.toNat).drop a.toNat)) ah
  | .mt _ sp, .end_, [], ah, k => ∃ b, sp[1]? = some b ∧ k (.int b) ah
  | .mt _ sp, .start, [], ah, k => ∃ b, sp[0]? = some b ∧ k (.int b) ah
  | .mt l [_, _, a, b, c, d], .groups, [], ah, k => 0 ≤ a ∧ 0 ≤ b ∧ 0 ≤ c ∧ 0 ≤ d ∧ l.length ≤ 1000000 ∧ k (.tup [.str ((l.take b.toNat).drop a.toNat), .str ((l.take d.toNat).drop c.toNat)]) ah
  | _, _, _, _, _ => False
/-- the patterns -/
def isPat (a : Addr) : Bool := [58, 77, 82, 87, 92, 97].contains a
/-- where a method is found -/
def rcv : AV → M → AH → Option (String × String)
  | .str _, .lower, _ => some ("str", "str.lower") | .str _, .upper, _ => some ("str", "str.upper") | .str _, .strip, _ => some ("str", "str.strip")
  | .str _, .startswith, _ => some ("str", "str.startswith") | .str _, .endswith, _ => some ("str", "str.endswith") | .str _, .join, _ => some ("str", "str.join")
  | .str _, .partition, _ => some ("str", "str.partition") | .bytes _, .decode, _ => some ("bytes", "bytes.decode")
  | .ref o, .append, ah => match getO ah o with
    | some (.list _) => some ("list", "list.append")
    | _ => none
  | .ref o, .get, ah => match getO ah o with
    | some (.dict _ _) => some ("dict", "dict.get")
    | _ => none
  | .con (.ref a), .match_, _ => if isPat a then some ("re.Pattern", "re.Pattern.match") else none
  | .con (.ref a), .search, _ => if isPat a then some ("re.Pattern", "re.Pattern.search") else none
  | .mt _ _, .group, _ => some ("re.Match", "re.Match.group") | .mt _ _, .end_, _ => some ("re.Match", "re.Match.end") | .mt _ _, .start, _ => some ("re.Match", "re.Match.start")
  | .mt _ _, .groups, _ => some ("re.Match", "re.Match.groups")
  | _, _, _ => none
/-- the text's own functions: contracts -/
def aU : UF → List AV → AH → KA → Prop
  | .text, [.bytes b, .str e], ah, k => b.length ≤ 1000000 ∧ (e = sUtf8 ∨ e = sIso ∨ e = sAscii ∨ e = sUs) ∧ ∃ l, decF e b = some l ∧ k (.str l) ah
  | .unquote, [.str s, .str e], ah, k => s.length ≤ 100000 ∧ (e = sUtf8 ∨ e = sIso ∨ e = sAscii ∨ e = sUs) ∧ ∃ l, unqF s e = some l ∧ k (.str l) ah
  | .qhv, [.str l], ah, k => l.length ≤ 1000 ∧ k (.str (qhvF l)) ah
  | .uqhv, [.str l], ah, k => l.length ≤ 100000 ∧ k (.str (uqF l)) ah
  | .dump, [.str h, .ref o], ah, k => ∃ es ep xs, getO ah o = some (.dict es ep) ∧ valsOf es = some xs ∧ xs.length ≤ 100 ∧ h.length ≤ 1000 ∧ (∀ e ∈ xs, e.1.length ≤ 1000 ∧ e.2.length ≤ 1000 ∧ e.1.getLast? ≠ some 42) ∧ k (.str (dumpF h xs)) ah
  | .parse, [.str l], ah, k => l.length ≤ 600 ∧ ∃ v es, parseF l = some (v, es) ∧ ∀ ep, k (.tup [.str v, .ref ah.length]) (ah ++ [.dict (es.map fun e => (e.1, .str e.2)) ep])
  | .tongues, [], ah, k => k (.ref ah.length) (ah ++ [.list (tongues.map .str)])
  | .spaces, [], ah, k => k (.ref ah.length) (ah ++ [.list (spaces.map .str)])
  | .coded, [.str l, .int kd, .bool b], ah, k => l.length ≤ 100 ∧ (∀ c ∈ l, c < 256 ∨ c = 8364) ∧ k (.str (codedF l kd b)) ah
  | .quoted, [.str l], ah, k => l.length ≤ 100 ∧ k (.str (quotedF l)) ah
  | .pieces, [.str l, .int d, .int b], ah, k => l.length ≤ 100 ∧ 0 ≤ d ∧ 0 ≤ b ∧ k (.ref ah.length) (ah ++ [.list ((piecesF l d b).map .str)])
  | .written, [.str n, .str l, .int d, .int b], ah, k => n.length ≤ 100 ∧ l.length ≤ 100 ∧ (∀ c ∈ l, c < 256 ∨ c = 8364) ∧ 0 ≤ d ∧ 0 ≤ b ∧ k (.ref ah.length) (ah ++ [.list ((writtenF n l d b).map .str)])
  | _, _, _, _ => False
def tru : AV → (Bool → Prop) → Prop
  | .none, k => k false
  | .bool b, k => k b
  | .str l, k => l.length ≤ 1000000 ∧ k (!l.isEmpty)
  | .mt _ _, k => k true
  | _, _ => False
def refsOfA : List AV → Option (List Nat)
  | [] => some []
  | .ref i :: r => (refsOfA r).map (i :: ·)
  | _ => none
/-- lists of texts under keys -/
def consOf (ah : AH) : List (T × AV) → Option (List (T × List T))
  | [] => some []
  | (k, .ref i) :: r => match getO ah i with
    | some (.list xs) => (strsOf xs).bind fun ts => (consOf ah r).map ((k, ts) :: ·)
    | _ => none
  | _ => none
end Mine
end
section
open PySem PySem.Spec PySem.Calls PyProof.Rows PySem.W
namespace Mine
/-- the special expressions -/
def aSp (lo : Lo) (ah : AH) (k : KA) : Nat → Prop
  | 0 => match getL lo 15 with
    | some (.str x) => k (.bool (decide (x = sAscii ∨ x = sUs ∨ x = sUtf8 ∨ x = sIso))) ah
    | _ => False
  | 1 => match getL lo 2, getL lo 3 with
    | some (.str l), some (.str t) => l.length ≤ 100000 ∧ k (.bool (l.all fun c => decide (c ∈ t))) ah
    | _, _ => False
  | 2 => match getL lo 0 with
    | some (.str l) => 2 ≤ l.length ∧ l.length ≤ 100000 ∧ k (.str (unesc ((l.drop 1).dropLast))) ah
    | _ => False
  | 3 => match getL lo 9 with
    | some (.str l) => l.length ≤ 100 ∧ k (.bool (l.all plainC)) ah
    | _ => False
  | 4 => match getL lo 5 with
    | some (.int d) => 0 ≤ d ∧ d < 1000000000 ∧ k (.str (textF d)) ah
    | _ => False
  | 5 => match getL lo 11, getL lo 12 with
    | some (.ref o), some (.ref c) => ∃ es ep cs eq xs, getO ah o = some (.dict es ep) ∧ getO ah c = some (.dict cs eq) ∧ consOf ah cs = some xs ∧ es.length + cs.length ≤ 1000 ∧ (∀ x ∈ xs, x.2.flatten.length ≤ 400000) ∧
      ∀ ep', k .none (setO ah o (.dict (xs.foldl (fun o c => dput o c.1 (.str c.2.flatten)) es) ep'))
    | _, _ => False
  | _ => False
def twoOf : CEL → Bool
  | .cons _ (.cons _ _) => true
  | _ => false
mutual
def aE : CE → Lo → AH → (AV → Lo → AH → Prop) → Prop
  | .loc i _, lo, ah, k => match getL lo i with
    | some v => k v lo ah
    | none => False
  | .glob g _, lo, ah, k => k g.v lo ah
  | .cnone _ _, lo, ah, k => k .none lo ah
  | .cbool b _ _, lo, ah, k => k (.bool b) lo ah
  | .cint i _ _, lo, ah, k => k (.int i) lo ah
  | .cstr l _ _, lo, ah, k => k (.str l) lo ah
  | .cbytes l _ _, lo, ah, k => k (.bytes l) lo ah
  | .bin a op b _, lo, ah, k => aE a lo ah fun x lo ah => aE b lo ah fun y lo ah => aBin op x y ah fun z ah => k z lo ah
  | .cmp a op b _, lo, ah, k => aE a lo ah fun x lo ah => aE b lo ah fun y lo ah => aCmp op x y ah fun z => k (.bool z) lo ah
  | .not a _, lo, ah, k => aE a lo ah fun x lo ah => tru x fun b => k (.bool !b) lo ah
  | .bop op xs _, lo, ah, k => aBop op xs lo ah k
  | .ife t a b _, lo, ah, k => aT t lo ah fun z lo ah => (z = true → aE a lo ah k) ∧ (z = false → aE b lo ah k)
  | .idx a i _, lo, ah, k => aE a lo ah fun x lo ah => aE i lo ah fun y lo ah => aIdx x y ah fun z => k z lo ah
  | .slAB a l h _ _, lo, ah, k => aE a lo ah fun x lo ah => aE l lo ah fun y lo ah => aE h lo ah fun z lo ah => aSl x (some y) (some z) ah fun r ah => k r lo ah
  | .slA a l _ _, lo, ah, k => aE a lo ah fun x lo ah => aE l lo ah fun y lo ah => aSl x (some y) none ah fun r ah => k r lo ah
  | .slB a h _ _, lo, ah, k => aE a lo ah fun x lo ah => aE h lo ah fun y lo ah => aSl x none (some y) ah fun r ah => k r lo ah
  | .call f xs _ _, lo, ah, k => aEL xs lo ah fun vs lo ah => aCall f vs ah fun r ah => k r lo ah
  | .ucall f xs _ _, lo, ah, k => aEL xs lo ah fun vs lo ah => aU f vs ah fun r ah => k r lo ah
  | .ucallK f x _ y _ _ _, lo, ah, k => aE x lo ah fun v lo ah => aE y lo ah fun u lo ah => aU f [v, u] ah fun r ah => k r lo ah
  | .meth o m xs _ _, lo, ah, k => aE o lo ah fun v lo ah => ∃ ti, rcv v m ah = some ti ∧ aEL xs lo ah fun vs lo ah => ∃ ti', rcv v m ah = some ti' ∧ ti' = ti ∧ aMeth v m vs ah fun r ah => k r lo ah
  | .repl o a b _ _ _ _ _ _, lo, ah, k => aE o lo ah fun v lo ah => match v, a with
    | .str l, [c] => l.length ≤ 100000 ∧ b.length ≤ 10 ∧ [c] ≠ b ∧ k (.str (repl1 c b l)) lo ah
    | .str l, c :: _ => l.length ≤ 100000 ∧ c ∉ l ∧ a ≠ b ∧ b.length ≤ 10 ∧ k (.str l) lo ah
    | _, _ => False
  | .wal i e _ _, lo, ah, k => aE e lo ah fun v lo ah => k v (setL lo i v) ah
  | .tup xs _ _, lo, ah, k => aEL xs lo ah fun vs lo ah => vs.length ≤ 10 ∧ k (.tup vs) lo ah
  | .list xs _, lo, ah, k => aEL xs lo ah fun vs lo ah => vs.length ≤ 20 ∧ k (.ref ah.length) lo (ah ++ [.list vs])
  | .bytes1 e _ _ _, lo, ah, k => aE e lo ah fun v lo ah => match v with
    | .int i => 0 ≤ i ∧ i < 256 ∧ k (.bytes [UInt8.ofNat i.toNat]) lo ah
    | _ => False
  | .sorted2 a b _ _ _, lo, ah, k => aE a lo ah fun x lo ah => aE b lo ah fun y lo ah => match x, y with
    | .int i, .int j => k (.ref ah.length) lo (ah ++ [.list [.int (min i j), .int (max i j)]])
    | _, _ => False
  | .neNil a _ _, lo, ah, k => aE a lo ah fun v lo ah => match v with
    | .ref o => ∃ xs, getO ah o = some (.list xs) ∧ xs.length ≤ 1000 ∧ k (.bool !xs.isEmpty) lo ah
    | _ => False
  | .dict0 _, lo, ah, k => k (.ref ah.length) lo (ah ++ [.dict [] 0])
  | .fmt e _, lo, ah, k => aE e lo ah fun v lo ah => match v with
    | .str l => l.length ≤ 1000000 ∧ k (.str l) lo ah
    | _ => False
  | .fstr xs _, lo, ah, k => twoOf xs = true ∧ aJ xs [] lo ah k
  | .sp n, lo, ah, k => aSp lo ah (fun v ah => k v lo ah) n
def aEL : CEL → Lo → AH → (List AV → Lo → AH → Prop) → Prop
  | .nil, lo, ah, k => k [] lo ah
  | .cons e r, lo, ah, k => aE e lo ah fun v lo ah => aEL r lo ah fun vs lo ah => k (v :: vs) lo ah
def aJ : CEL → T → Lo → AH → (AV → Lo → AH → Prop) → Prop
  | .nil, acc, lo, ah, k => k (.str acc) lo ah
  | .cons e r, acc, lo, ah, k => aE e lo ah fun v lo ah => match v with
    | .str l => acc.length + l.length ≤ 1000000 ∧ aJ r (acc ++ l) lo ah k
    | _ => False
def aBop : BoolOp → CEL → Lo → AH → (AV → Lo → AH → Prop) → Prop
  | _, .nil, _, _, _ => False
  | _, .cons x .nil, lo, ah, k => aE x lo ah k
  | op, .cons x r, lo, ah, k => aE x lo ah fun v lo ah => tru v fun b => match op with
    | .And => (b = true → aBop op r lo ah k) ∧ (b = false → k v lo ah)
    | .Or => (b = false → aBop op r lo ah k) ∧ (b = true → k v lo ah)
def aT : CE → Lo → AH → (Bool → Lo → AH → Prop) → Prop
  | .not a _, lo, ah, k => aT a lo ah fun b lo ah => k (!b) lo ah
  | .bop op xs _, lo, ah, k => aTL op xs lo ah k
  | .ife t a b _, lo, ah, k => aT t lo ah fun z lo ah => (z = true → aT a lo ah k) ∧ (z = false → aT b lo ah k)
  | .cmp a op b _, lo, ah, k => aE a lo ah fun x lo ah => aE b lo ah fun y lo ah => aCmp op x y ah fun z => k z lo ah
  | e, lo, ah, k => aE e lo ah fun v lo ah => tru v fun b => k b lo ah
def aTL : BoolOp → CEL → Lo → AH → (Bool → Lo → AH → Prop) → Prop
  | .And, .nil, lo, ah, k => k true lo ah
  | .Or, .nil, lo, ah, k => k false lo ah
  | op, .cons x r, lo, ah, k => aT x lo ah fun b lo ah => match op with
    | .And => (b = true → aTL op r lo ah k) ∧ (b = false → k false lo ah)
    | .Or => (b = false → aTL op r lo ah k) ∧ (b = true → k true lo ah)
end
def setLs : Lo → List (Nat × Pos) → List AV → Lo
  | lo, (i, _) :: r, v :: vs => setLs (setL lo i v) r vs
  | lo, _, _ => lo
abbrev KS := AF → Lo → AH → Prop
def loopL {α : Type} (step : α → Lo → AH → KS → Prop) : List α → Lo → AH → KS → Prop
  | [], lo, ah, k => k .next lo ah
  | x :: r, lo, ah, k => step x lo ah fun f lo ah => match f with
    | .next => loopL step r lo ah k
    | .cont => loopL step r lo ah k
    | .brk => k .next lo ah
    | .ret v => k (.ret v) lo ah
/-- the special statements; the script's ints at hand -/
def aSpS (ns : List Int) (lo : Lo) (ah : AH) (k : Lo → AH → Prop) : Nat → Prop
  | 0 => k (setL lo 1 (.ref ah.length)) (ah ++ [.list ((ns.take 8).map fun n => .int (n % 1000000000))])
  | 1 => match getL lo 3 with
    | some (.ref r) => ∃ xs is, getO ah r = some (.list xs) ∧ xs.length ≤ 100 ∧ refsOfA xs = some is ∧ (∀ i ∈ is, ∃ ys, getO ah i = some (.list ys) ∧ ys.length ≤ 100) ∧
      k (setL lo 3 (.ref ah.length)) (ah ++ [.list ((is.filter fun i => match getO ah i with | some (.list ys) => !ys.isEmpty | _ => false).map .ref)])
    | _ => False
  | _ => False
def seqK (r : Lo → AH → KS → Prop) (k : KS) : KS := fun f lo ah => match f with
  | .next => r lo ah k
  | f => k f lo ah
def aS (ns : List Int) : CS → Lo → AH → KS → Prop
  | .nil, lo, ah, k => k .next lo ah
  | .asg i e _ _ r, lo, ah, k => aE e lo ah fun v lo ah => aS ns r (setL lo i v) ah k
  | .asg2 i j e _ _ _ r, lo, ah, k => aE e lo ah fun v lo ah => aS ns r (setL (setL lo i v) j v) ah k
  | .tupS ids es _ _ _ _ _ r, lo, ah, k => aEL es lo ah fun vs lo ah => vs.length = ids.length ∧ aS ns r (setLs lo ids.reverse vs.reverse) ah k
  | .tupK ids es _ _ _ _ _ r, lo, ah, k => aEL es lo ah fun vs lo ah => vs.length = ids.length ∧ aS ns r (setLs lo ids vs) ah k
  | .unp ids e _ _ _ r, lo, ah, k => aE e lo ah fun v lo ah => match v with
    | .tup vs => vs.length = ids.length ∧ aS ns r (setLs lo ids vs) ah k
    | _ => False
  | .setI o i v _ _ r, lo, ah, k => aE v lo ah fun x lo ah => aE o lo ah fun ov lo ah => aE i lo ah fun iv lo ah => match ov, iv with
    | .ref o, .str key => ∃ es ep, getO ah o = some (.dict es ep) ∧ es.length ≤ 1000 ∧ ∀ ep', aS ns r lo (setO ah o (.dict (dput es key x) ep')) k
    | .ref o, .int j => 0 ≤ j ∧ ∃ xs, getO ah o = some (.list xs) ∧ j.toNat < xs.length ∧ xs.length ≤ 1000 ∧ aS ns r lo (setO ah o (.list (xs.set j.toNat x))) k
    | _, _ => False
  | .aug i op e _ _ r, lo, ah, k => match getL lo i with
    | some x => aE e lo ah fun v lo ah => aAug op x v fun z => aS ns r (setL lo i z) ah k
    | none => False
  | .ex e _ r, lo, ah, k => aE e lo ah fun v lo ah => match v with
    | .none => aS ns r lo ah k
    | _ => False
  | .ife t a b _ r, lo, ah, k => aT t lo ah fun z lo ah => (z = true → aS ns a lo ah (seqK (aS ns r) k)) ∧ (z = false → aS ns b lo ah (seqK (aS ns r) k))
  | .whl t a b _ r, lo, ah, k => ∀ P : Lo → AH → Prop, (∀ lo ah, (aT t lo ah fun z lo ah =>
      (z = true → aS ns a lo ah fun f lo ah => match f with
        | .next => P lo ah
        | .cont => P lo ah
        | .brk => aS ns r lo ah k
        | .ret v => k (.ret v) lo ah) ∧
      (z = false → aS ns b lo ah (seqK (aS ns r) k))) → P lo ah) → P lo ah
  | .forS i e a _ _ r, lo, ah, k => aE e lo ah fun v lo ah => match v with
    | .str l => l.length ≤ 100000 ∧ loopL (fun c lo ah k => aS ns a (setL lo i (.str [c])) ah k) l lo ah (seqK (aS ns r) k)
    | _ => False
  | .forR i e a _ _ _ _ r, lo, ah, k => aE e lo ah fun v lo ah => match v with
    | .int n => 0 ≤ n ∧ n ≤ 1000 ∧ loopL (fun (c : Nat) lo ah k => aS ns a (setL lo i (.int c)) ah k) (List.range n.toNat) lo ah (seqK (aS ns r) k)
    | _ => False
  | .forT ids e a _ _ _ r, lo, ah, k => aE e lo ah fun v lo ah => match v with
    | .ref o => ∃ xs, getO ah o = some (.list xs) ∧ xs.length ≤ 100000 ∧ loopL (fun x lo ah k => match x with
        | .tup vs => vs.length = ids.length ∧ aS ns a (setLs lo ids vs) ah fun f lo ah => (f = .next ∨ f = .cont → getO ah o = some (.list xs)) ∧ k f lo ah
        | _ => False) xs lo ah (seqK (aS ns r) k)
    | _ => False
  | .forD ids e a _ _ _ _ _ r, lo, ah, k => aE e lo ah fun v lo ah => match v with
    | .ref o => ∃ es ep, getO ah o = some (.dict es ep) ∧ es.length ≤ 1000 ∧ ids.length = 2 ∧ loopL (fun x lo ah k => aS ns a (setLs lo ids [.str x.1, x.2]) ah fun f lo ah => (f = .next ∨ f = .cont → getO ah o = some (.dict es ep)) ∧ k f lo ah) es lo ah (seqK (aS ns r) k)
    | _ => False
  | .ret e _, lo, ah, k => aE e lo ah fun v lo ah => k (.ret v) lo ah
  | .brk _, lo, ah, k => k .brk lo ah
  | .cnt _, lo, ah, k => k .cont lo ah
  | .sp n r, lo, ah, k => aSpS ns lo ah (fun lo ah => aS ns r lo ah k) n
  | .raw _ _, _, _, _ => False
end Mine
end
section
open PySem PySem.Spec PySem.Calls PyProof.Rows PySem.W PySem.Builtin
set_option maxRecDepth 100000
namespace Mine
/-! ## the bodies in the core language (printed by Gen) -/
/-- [octets, encoding] -/
def b_text : CS :=
  .ife (.cmp (.loc 1 ⟨5,7,5,15⟩) .Eq (.cstr [117, 116, 102, 45, 56] 0 ⟨5,19,5,26⟩) ⟨5,7,5,26⟩)
    (.ret (.meth (.loc 0 ⟨6,15,6,21⟩) .decode (.cons (.cstr [117, 116, 102, 45, 56] 0 ⟨6,29,6,36⟩) (.cons (.cstr [114, 101, 112, 108, 97, 99, 101] 0 ⟨6,38,6,47⟩) .nil)) ⟨6,15,6,28⟩ ⟨6,15,6,48⟩) ⟨6,8,6,48⟩)
    (.nil) ⟨5,4,6,48⟩ <|
  .ife (.cmp (.loc 1 ⟨7,7,7,15⟩) .Eq (.cstr [105, 115, 111, 45, 56, 56, 53, 57, 45, 49] 0 ⟨7,19,7,31⟩) ⟨7,7,7,31⟩)
    (.ret (.meth (.loc 0 ⟨8,15,8,21⟩) .decode (.cons (.cstr [105, 115, 111, 45, 56, 56, 53, 57, 45, 49] 0 ⟨8,29,8,41⟩) .nil) ⟨8,15,8,28⟩ ⟨8,15,8,42⟩) ⟨8,8,8,42⟩)
    (.nil) ⟨7,4,8,42⟩ <|
  .ret (.meth (.loc 0 ⟨9,11,9,17⟩) .decode (.cons (.cstr [97, 115, 99, 105, 105] 0 ⟨9,25,9,32⟩) (.cons (.cstr [114, 101, 112, 108, 97, 99, 101] 0 ⟨9,34,9,43⟩) .nil)) ⟨9,11,9,24⟩ ⟨9,11,9,44⟩) ⟨9,4,9,44⟩
/-- [string, encoding, out, octets, pos] -/
def b_unquote : CS :=
  .tupK [(2, ⟨11,4,11,7⟩), (3, ⟨11,9,11,15⟩), (4, ⟨11,17,11,20⟩)] (.cons (.cstr [] 0 ⟨11,24,11,26⟩) (.cons (.cbytes [] 0 ⟨11,28,11,31⟩) (.cons (.cint 0 0 ⟨11,33,11,34⟩) .nil))) 0 0 ⟨11,4,11,20⟩ ⟨11,23,11,35⟩ ⟨11,4,11,35⟩ <|
  .whl (.cmp (.loc 4 ⟨12,10,12,13⟩) .Lt (.call .len (.cons (.loc 0 ⟨12,20,12,26⟩) .nil) ⟨12,16,12,19⟩ ⟨12,16,12,27⟩) ⟨12,10,12,27⟩)
    (.ife (.bop .And (.cons (.cmp (.idx (.loc 0 ⟨13,11,13,17⟩) (.loc 4 ⟨13,18,13,21⟩) ⟨13,11,13,22⟩) .Eq (.cstr [37] 0 ⟨13,26,13,29⟩) ⟨13,11,13,29⟩) (.cons (.cmp (.call .len (.cons (.loc 0 ⟨13,38,13,44⟩) .nil) ⟨13,34,13,37⟩ ⟨13,34,13,45⟩) .Gt (.bin (.loc 4 ⟨13,48,13,51⟩) .Add (.cint 2 0 ⟨13,54,13,55⟩) ⟨13,48,13,55⟩) ⟨13,34,13,55⟩) (.cons (.cmp (.idx (.loc 0 ⟨13,61,13,67⟩) (.bin (.loc 4 ⟨13,68,13,71⟩) .Add (.cint 1 0 ⟨13,74,13,75⟩) ⟨13,68,13,75⟩) ⟨13,61,13,76⟩) .In (.glob .digits ⟨13,80,13,87⟩) ⟨13,61,13,87⟩) (.cons (.cmp (.idx (.loc 0 ⟨13,94,13,100⟩) (.bin (.loc 4 ⟨13,101,13,104⟩) .Add (.cint 2 0 ⟨13,107,13,108⟩) ⟨13,101,13,108⟩) ⟨13,94,13,109⟩) .In (.glob .digits ⟨13,113,13,120⟩) ⟨13,94,13,120⟩) .nil)))) ⟨13,11,13,121⟩)
      (.aug 3 .Add (.bytes1 (.call .int (.cons (.slAB (.loc 0 ⟨14,33,14,39⟩) (.bin (.loc 4 ⟨14,40,14,43⟩) .Add (.cint 1 0 ⟨14,46,14,47⟩) ⟨14,40,14,47⟩) (.bin (.loc 4 ⟨14,48,14,51⟩) .Add (.cint 3 0 ⟨14,54,14,55⟩) ⟨14,48,14,55⟩) ⟨14,40,14,55⟩ ⟨14,33,14,56⟩) (.cons (.cint 16 0 ⟨14,58,14,60⟩) .nil)) ⟨14,29,14,32⟩ ⟨14,29,14,61⟩) ⟨14,28,14,62⟩ ⟨14,22,14,27⟩ ⟨14,22,14,63⟩) ⟨14,12,14,18⟩ ⟨14,12,14,63⟩ <|
      .aug 4 .Add (.cint 3 0 ⟨15,19,15,20⟩) ⟨15,12,15,15⟩ ⟨15,12,15,20⟩ <|
      .cnt ⟨16,12,16,20⟩)
      (.nil) ⟨13,8,16,20⟩ <|
    .ife (.cmp (.call .ord (.cons (.idx (.loc 0 ⟨17,15,17,21⟩) (.loc 4 ⟨17,22,17,25⟩) ⟨17,15,17,26⟩) .nil) ⟨17,11,17,14⟩ ⟨17,11,17,27⟩) .Lt (.cint 128 0 ⟨17,30,17,33⟩) ⟨17,11,17,33⟩)
      (.aug 3 .Add (.bytes1 (.call .ord (.cons (.idx (.loc 0 ⟨18,33,18,39⟩) (.loc 4 ⟨18,40,18,43⟩) ⟨18,33,18,44⟩) .nil) ⟨18,29,18,32⟩ ⟨18,29,18,45⟩) ⟨18,28,18,46⟩ ⟨18,22,18,27⟩ ⟨18,22,18,47⟩) ⟨18,12,18,18⟩ ⟨18,12,18,47⟩ <|
      .nil)
      (.aug 2 .Add (.bin (.ucall .text (.cons (.loc 3 ⟨20,25,20,31⟩) (.cons (.loc 1 ⟨20,33,20,41⟩) .nil)) ⟨20,19,20,24⟩ ⟨20,19,20,42⟩) .Add (.idx (.loc 0 ⟨20,45,20,51⟩) (.loc 4 ⟨20,52,20,55⟩) ⟨20,45,20,56⟩) ⟨20,19,20,56⟩) ⟨20,12,20,15⟩ ⟨20,12,20,56⟩ <|
      .asg 3 (.cbytes [] 0 ⟨21,21,21,24⟩) ⟨21,12,21,18⟩ ⟨21,12,21,24⟩ <|
      .nil) ⟨17,8,21,24⟩ <|
    .aug 4 .Add (.cint 1 0 ⟨22,15,22,16⟩) ⟨22,8,22,11⟩ ⟨22,8,22,16⟩ <|
    .nil)
    (.nil) ⟨12,4,22,16⟩ <|
  .ret (.bin (.loc 2 ⟨23,11,23,14⟩) .Add (.ucall .text (.cons (.loc 3 ⟨23,23,23,29⟩) (.cons (.loc 1 ⟨23,31,23,39⟩) .nil)) ⟨23,17,23,22⟩ ⟨23,17,23,40⟩) ⟨23,11,23,40⟩) ⟨23,4,23,40⟩
/-- [value, allow_token, value_str, token_chars] -/
def b_quote_header_value : CS :=
  .asg 2 (.call .str (.cons (.loc 0 ⟨27,20,27,25⟩) .nil) ⟨27,16,27,19⟩ ⟨27,16,27,26⟩) ⟨27,4,27,13⟩ ⟨27,4,27,26⟩ <|
  .ife (.not (.loc 2 ⟨28,11,28,20⟩) ⟨28,7,28,20⟩)
    (.ret (.cstr [34, 34] 0 ⟨29,15,29,19⟩) ⟨29,8,29,19⟩)
    (.nil) ⟨28,4,29,19⟩ <|
  .ife (.loc 1 ⟨30,7,30,18⟩)
    (.asg 3 (.glob .tokens ⟨31,22,31,34⟩) ⟨31,8,31,19⟩ ⟨31,8,31,34⟩ <|
    .ife (.sp 1)
      (.ret (.loc 2 ⟨33,19,33,28⟩) ⟨33,12,33,28⟩)
      (.nil) ⟨32,8,33,28⟩ <|
    .nil)
    (.nil) ⟨30,4,33,28⟩ <|
  .asg 2 (.repl (.repl (.loc 2 ⟨34,16,34,25⟩) [92] [92, 92] 0 0 ⟨34,34,34,38⟩ ⟨34,40,34,46⟩ ⟨34,16,34,33⟩ ⟨34,16,34,47⟩) [34] [92, 34] 0 0 ⟨34,56,34,59⟩ ⟨34,61,34,66⟩ ⟨34,16,34,55⟩ ⟨34,16,34,67⟩) ⟨34,4,34,13⟩ ⟨34,4,34,67⟩ <|
  .ret (.fstr (.cons (.cstr [34] 0 ⟨35,13,35,14⟩) (.cons (.fmt (.loc 2 ⟨35,15,35,24⟩) ⟨35,14,35,25⟩) (.cons (.cstr [34] 0 ⟨35,25,35,26⟩) .nil))) ⟨35,11,35,27⟩) ⟨35,4,35,27⟩
/-- [value] -/
def b_unquote_header_value : CS :=
  .ife (.bop .And (.cons (.cmp (.call .len (.cons (.loc 0 ⟨38,11,38,16⟩) .nil) ⟨38,7,38,10⟩ ⟨38,7,38,17⟩) .GtE (.cint 2 0 ⟨38,21,38,22⟩) ⟨38,7,38,22⟩) (.cons (.meth (.loc 0 ⟨38,27,38,32⟩) .startswith (.cons (.cstr [34] 0 ⟨38,44,38,47⟩) .nil) ⟨38,27,38,43⟩ ⟨38,27,38,48⟩) (.cons (.meth (.loc 0 ⟨38,53,38,58⟩) .endswith (.cons (.cstr [34] 0 ⟨38,68,38,71⟩) .nil) ⟨38,53,38,67⟩ ⟨38,53,38,72⟩) .nil))) ⟨38,7,38,72⟩)
    (.ret (.sp 2) ⟨39,8,39,80⟩)
    (.nil) ⟨38,4,39,80⟩ <|
  .ret (.loc 0 ⟨40,11,40,16⟩) ⟨40,4,40,16⟩
/-- [header, options, segments, key, value] -/
def b_dump_options_header : CS :=
  .asg 2 (.list .nil ⟨42,15,42,17⟩) ⟨42,4,42,12⟩ ⟨42,4,42,17⟩ <|
  .ife (.cmp (.loc 0 ⟨43,7,43,13⟩) .IsNot (.cnone 0 ⟨43,21,43,25⟩) ⟨43,7,43,25⟩)
    (.ex (.meth (.loc 2 ⟨44,8,44,16⟩) .append (.cons (.loc 0 ⟨44,24,44,30⟩) .nil) ⟨44,8,44,23⟩ ⟨44,8,44,31⟩) ⟨44,8,44,31⟩ <|
    .nil)
    (.nil) ⟨43,4,44,31⟩ <|
  .forD [(3, ⟨45,8,45,11⟩), (4, ⟨45,13,45,18⟩)] (.loc 1 ⟨45,22,45,29⟩)
    (.ife (.cmp (.loc 4 ⟨46,11,46,16⟩) .Is (.cnone 0 ⟨46,20,46,24⟩) ⟨46,11,46,24⟩)
      (.cnt ⟨47,12,47,20⟩)
      (.nil) ⟨46,8,47,20⟩ <|
    .ife (.meth (.loc 3 ⟨48,11,48,14⟩) .endswith (.cons (.cstr [42] 0 ⟨48,24,48,27⟩) .nil) ⟨48,11,48,23⟩ ⟨48,11,48,28⟩)
      (.ex (.meth (.loc 2 ⟨49,12,49,20⟩) .append (.cons (.fstr (.cons (.fmt (.loc 3 ⟨49,31,49,34⟩) ⟨49,30,49,35⟩) (.cons (.cstr [61] 0 ⟨49,35,49,36⟩) (.cons (.fmt (.loc 4 ⟨49,37,49,42⟩) ⟨49,36,49,43⟩) .nil))) ⟨49,28,49,44⟩) .nil) ⟨49,12,49,27⟩ ⟨49,12,49,45⟩) ⟨49,12,49,45⟩ <|
      .nil)
      (.ex (.meth (.loc 2 ⟨51,12,51,20⟩) .append (.cons (.fstr (.cons (.fmt (.loc 3 ⟨51,31,51,34⟩) ⟨51,30,51,35⟩) (.cons (.cstr [61] 0 ⟨51,35,51,36⟩) (.cons (.fmt (.ucall .qhv (.cons (.loc 4 ⟨51,56,51,61⟩) .nil) ⟨51,37,51,55⟩ ⟨51,37,51,62⟩) ⟨51,36,51,63⟩) .nil))) ⟨51,28,51,64⟩) .nil) ⟨51,12,51,27⟩ ⟨51,12,51,65⟩) ⟨51,12,51,65⟩ <|
      .nil) ⟨48,8,51,65⟩ <|
    .nil) 0 ⟨45,8,45,18⟩ ⟨45,22,45,35⟩ ⟨45,22,45,37⟩ ⟨45,4,51,65⟩ <|
  .ret (.meth (.cstr [59, 32] 0 ⟨52,11,52,15⟩) .join (.cons (.loc 2 ⟨52,21,52,29⟩) .nil) ⟨52,11,52,20⟩ ⟨52,11,52,30⟩) ⟨52,4,52,30⟩
def bp_quote : CS :=
          (.asg 9 (.bin (.loc 4 ⟨76,28,76,36⟩) .Add (.cint 1 0 ⟨76,39,76,40⟩) ⟨76,28,76,40⟩) ⟨76,16,76,25⟩ ⟨76,16,76,40⟩ <|
          .whl (.cmp (.loc 9 ⟨77,22,77,31⟩) .Lt (.loc 5 ⟨77,34,77,40⟩) ⟨77,22,77,40⟩)
            (.ife (.meth (.loc 2 ⟨78,23,78,27⟩) .startswith (.cons (.tup (.cons (.cstr [92, 92] 0 ⟨78,40,78,46⟩) (.cons (.cstr [92, 34] 0 ⟨78,48,78,53⟩) .nil)) 0 ⟨78,39,78,54⟩) (.cons (.loc 9 ⟨78,56,78,65⟩) .nil)) ⟨78,23,78,38⟩ ⟨78,23,78,66⟩)
              (.aug 9 .Add (.cint 2 0 ⟨79,37,79,38⟩) ⟨79,24,79,33⟩ ⟨79,24,79,38⟩ <|
              .nil)
              (.ife (.meth (.loc 2 ⟨80,25,80,29⟩) .startswith (.cons (.cstr [34] 0 ⟨80,41,80,44⟩) (.cons (.loc 9 ⟨80,46,80,55⟩) .nil)) ⟨80,25,80,40⟩ ⟨80,25,80,56⟩)
                (.aug 9 .Add (.cint 1 0 ⟨81,37,81,38⟩) ⟨81,24,81,33⟩ ⟨81,24,81,38⟩ <|
                .ex (.meth (.loc 3 ⟨82,24,82,29⟩) .append (.cons (.tup (.cons (.loc 7 ⟨82,38,82,40⟩) (.cons (.slAB (.loc 2 ⟨82,42,82,46⟩) (.loc 4 ⟨82,47,82,55⟩) (.loc 9 ⟨82,56,82,65⟩) ⟨82,47,82,65⟩ ⟨82,42,82,66⟩) .nil)) 0 ⟨82,37,82,67⟩) .nil) ⟨82,24,82,36⟩ ⟨82,24,82,68⟩) ⟨82,24,82,68⟩ <|
                .asg 4 (.loc 9 ⟨83,35,83,44⟩) ⟨83,24,83,32⟩ ⟨83,24,83,44⟩ <|
                .brk ⟨84,24,84,29⟩)
                (.aug 9 .Add (.cint 1 0 ⟨86,37,86,38⟩) ⟨86,24,86,33⟩ ⟨86,24,86,38⟩ <|
                .nil) ⟨80,20,86,38⟩ <|
              .nil) ⟨78,20,86,38⟩ <|
            .nil)
            (.brk ⟨88,20,88,25⟩) ⟨77,16,88,25⟩ <|
          .nil)
def bp_key : CS :=
      (.asg 7 (.meth (.meth (.loc 6 ⟨71,17,71,22⟩) .group (.cons (.cint 1 0 ⟨71,29,71,30⟩) .nil) ⟨71,17,71,28⟩ ⟨71,17,71,31⟩) .lower .nil ⟨71,17,71,37⟩ ⟨71,17,71,39⟩) ⟨71,12,71,14⟩ ⟨71,12,71,39⟩ <|
      .asg 4 (.meth (.loc 6 ⟨72,23,72,28⟩) .end_ .nil ⟨72,23,72,32⟩ ⟨72,23,72,34⟩) ⟨72,12,72,20⟩ ⟨72,12,72,34⟩ <|
      .ife (.cmp (.wal 8 (.meth (.glob .tokRe ⟨73,27,73,52⟩) .match_ (.cons (.loc 2 ⟨73,59,73,63⟩) (.cons (.loc 4 ⟨73,65,73,73⟩) .nil)) ⟨73,27,73,58⟩ ⟨73,27,73,74⟩) ⟨73,16,73,23⟩ ⟨73,16,73,74⟩) .IsNot (.cnone 0 ⟨73,83,73,87⟩) ⟨73,15,73,87⟩)
        (.ex (.meth (.loc 3 ⟨74,16,74,21⟩) .append (.cons (.tup (.cons (.loc 7 ⟨74,30,74,32⟩) (.cons (.meth (.loc 8 ⟨74,34,74,41⟩) .group .nil ⟨74,34,74,47⟩ ⟨74,34,74,49⟩) .nil)) 0 ⟨74,29,74,50⟩) .nil) ⟨74,16,74,28⟩ ⟨74,16,74,51⟩) ⟨74,16,74,51⟩ <|
        .nil)
        (.ife (.meth (.loc 2 ⟨75,17,75,21⟩) .startswith (.cons (.cstr [34] 0 ⟨75,33,75,36⟩) (.cons (.loc 4 ⟨75,38,75,46⟩) .nil)) ⟨75,17,75,32⟩ ⟨75,17,75,47⟩)
          bp_quote
          (.nil) ⟨75,12,88,25⟩ <|
        .nil) ⟨73,12,88,25⟩ <|
      .nil)
def bp_delim : CS :=
    .ife (.wal 10 (.meth (.glob .delimRe ⟨89,23,89,46⟩) .search (.cons (.loc 2 ⟨89,54,89,58⟩) (.cons (.loc 4 ⟨89,60,89,68⟩) .nil)) ⟨89,23,89,53⟩ ⟨89,23,89,69⟩) ⟨89,12,89,19⟩ ⟨89,12,89,69⟩)
      (.asg 4 (.meth (.loc 10 ⟨90,23,90,30⟩) .end_ .nil ⟨90,23,90,34⟩ ⟨90,23,90,36⟩) ⟨90,12,90,20⟩ ⟨90,12,90,36⟩ <|
      .nil)
      (.brk ⟨92,12,92,17⟩) ⟨89,8,92,17⟩ <|
    .nil
def bp_scan : CS :=
    (.ife (.cmp (.wal 6 (.meth (.glob .keyRe ⟨70,21,70,38⟩) .match_ (.cons (.loc 2 ⟨70,45,70,49⟩) (.cons (.loc 4 ⟨70,51,70,59⟩) .nil)) ⟨70,21,70,44⟩ ⟨70,21,70,60⟩) ⟨70,12,70,17⟩ ⟨70,12,70,60⟩) .IsNot (.cnone 0 ⟨70,69,70,73⟩) ⟨70,11,70,73⟩)
      bp_key
      (.nil) ⟨70,8,88,25⟩ <|
    bp_delim)
def bp_put : CS :=
    .ife (.loc 16 ⟨113,11,113,27⟩)
      (.ife (.cmp (.loc 7 ⟨114,15,114,17⟩) .In (.loc 11 ⟨114,21,114,28⟩) ⟨114,15,114,28⟩)
        (.raw (.Delete [(.Subscript (.Name (Str.ofString "options") ⟨115,20,115,27⟩) (.Name (Str.ofString "pk") ⟨115,28,115,30⟩) ⟨115,20,115,31⟩)] ⟨115,16,115,31⟩) <|
        .nil)
        (.nil) ⟨114,12,115,31⟩ <|
      .ife (.cmp (.loc 7 ⟨116,15,116,17⟩) .In (.loc 12 ⟨116,21,116,34⟩) ⟨116,15,116,34⟩)
        (.ex (.meth (.idx (.loc 12 ⟨117,16,117,29⟩) (.loc 7 ⟨117,30,117,32⟩) ⟨117,16,117,33⟩) .append (.cons (.loc 14 ⟨117,41,117,43⟩) .nil) ⟨117,16,117,40⟩ ⟨117,16,117,44⟩) ⟨117,16,117,44⟩ <|
        .nil)
        (.setI (.loc 12 ⟨119,16,119,29⟩) (.loc 7 ⟨119,30,119,32⟩) (.list (.cons (.loc 14 ⟨119,37,119,39⟩) .nil) ⟨119,36,119,40⟩) ⟨119,16,119,33⟩ ⟨119,16,119,40⟩ <|
        .nil) ⟨116,12,119,40⟩ <|
      .ife (.loc 15 ⟨120,15,120,23⟩)
        (.setI (.loc 13 ⟨121,16,121,38⟩) (.loc 7 ⟨121,39,121,41⟩) (.loc 15 ⟨121,45,121,53⟩) ⟨121,16,121,42⟩ ⟨121,16,121,53⟩ <|
        .nil)
        (.nil) ⟨120,12,121,53⟩ <|
      .nil)
      (.ife (.cmp (.loc 7 ⟨123,15,123,17⟩) .In (.loc 12 ⟨123,21,123,34⟩) ⟨123,15,123,34⟩)
        (.raw (.Delete [(.Subscript (.Name (Str.ofString "continuations") ⟨124,20,124,33⟩) (.Name (Str.ofString "pk") ⟨124,34,124,36⟩) ⟨124,20,124,37⟩)] ⟨124,16,124,37⟩) <|
        .ex (.meth (.loc 13 ⟨125,16,125,38⟩) .pop (.cons (.loc 7 ⟨125,43,125,45⟩) (.cons (.cnone 0 ⟨125,47,125,51⟩) .nil)) ⟨125,16,125,42⟩ ⟨125,16,125,52⟩) ⟨125,16,125,52⟩ <|
        .nil)
        (.nil) ⟨123,12,125,52⟩ <|
      .setI (.loc 11 ⟨126,12,126,19⟩) (.loc 7 ⟨126,20,126,22⟩) (.loc 14 ⟨126,26,126,28⟩) ⟨126,12,126,23⟩ ⟨126,12,126,28⟩ <|
      .nil) ⟨113,8,126,28⟩ <|
    .nil
def bp_enc : CS :=
    .ife (.loc 17 ⟨103,11,103,22⟩)
      (.ife (.cmp (.wal 19 (.meth (.glob .charsetRe ⟨104,29,104,46⟩) .match_ (.cons (.loc 14 ⟨104,53,104,55⟩) .nil) ⟨104,29,104,52⟩ ⟨104,29,104,56⟩) ⟨104,16,104,25⟩ ⟨104,16,104,56⟩) .IsNot (.cnone 0 ⟨104,65,104,69⟩) ⟨104,15,104,69⟩)
        (.unp [(15, ⟨105,16,105,24⟩), (14, ⟨105,26,105,28⟩)] (.meth (.loc 19 ⟨105,31,105,40⟩) .groups .nil ⟨105,31,105,47⟩ ⟨105,31,105,49⟩) 0 ⟨105,16,105,28⟩ ⟨105,16,105,49⟩ <|
        .asg 15 (.meth (.loc 15 ⟨106,27,106,35⟩) .lower .nil ⟨106,27,106,41⟩ ⟨106,27,106,43⟩) ⟨106,16,106,24⟩ ⟨106,16,106,43⟩ <|
        .nil)
        (.nil) ⟨104,12,106,43⟩ <|
      .ife (.bop .And (.cons (.not (.loc 15 ⟨107,19,107,27⟩) ⟨107,15,107,27⟩) (.cons (.loc 16 ⟨107,32,107,48⟩) .nil)) ⟨107,15,107,48⟩)
        (.asg 15 (.meth (.loc 13 ⟨108,27,108,49⟩) .get (.cons (.loc 7 ⟨108,54,108,56⟩) .nil) ⟨108,27,108,53⟩ ⟨108,27,108,57⟩) ⟨108,16,108,24⟩ ⟨108,16,108,57⟩ <|
        .nil)
        (.nil) ⟨107,12,108,57⟩ <|
      .ife (.sp 0)
        (.asg 14 (.ucallK .unquote (.loc 14 ⟨110,29,110,31⟩) (Str.ofString "encoding") (.loc 15 ⟨110,42,110,50⟩) ⟨110,21,110,28⟩ ⟨110,33,110,50⟩ ⟨110,21,110,51⟩) ⟨110,16,110,18⟩ ⟨110,16,110,51⟩ <|
        .nil)
        (.nil) ⟨109,12,110,51⟩ <|
      .nil)
      (.asg 14 (.repl (.ucall .uqhv (.cons (.loc 14 ⟨112,38,112,40⟩) .nil) ⟨112,17,112,37⟩ ⟨112,17,112,41⟩) [37, 50, 50] [34] 0 0 ⟨112,50,112,55⟩ ⟨112,57,112,60⟩ ⟨112,17,112,49⟩ ⟨112,17,112,61⟩) ⟨112,12,112,14⟩ ⟨112,12,112,61⟩ <|
      .nil) ⟨103,8,112,61⟩ <|
    bp_put
def bp_turn : CS :=
    (.asg 15 (.cnone 0 ⟨97,19,97,23⟩) ⟨97,8,97,16⟩ ⟨97,8,97,23⟩ <|
    .asg2 16 17 (.cbool false 0 ⟨98,41,98,46⟩) ⟨98,8,98,24⟩ ⟨98,27,98,38⟩ ⟨98,8,98,46⟩ <|
    .ife (.bop .And (.cons (.cmp (.wal 18 (.meth (.glob .markRe ⟨99,22,99,40⟩) .search (.cons (.loc 7 ⟨99,48,99,50⟩) .nil) ⟨99,22,99,47⟩ ⟨99,22,99,51⟩) ⟨99,12,99,18⟩ ⟨99,12,99,51⟩) .IsNot (.cnone 0 ⟨99,60,99,64⟩) ⟨99,11,99,64⟩) (.cons (.cmp (.bin (.meth (.loc 18 ⟨99,69,99,75⟩) .end_ .nil ⟨99,69,99,79⟩ ⟨99,69,99,81⟩) .Sub (.meth (.loc 18 ⟨99,84,99,90⟩) .start .nil ⟨99,84,99,96⟩ ⟨99,84,99,98⟩) ⟨99,69,99,98⟩) .Gt (.cint 0 0 ⟨99,101,99,102⟩) ⟨99,69,99,102⟩) .nil)) ⟨99,11,99,102⟩)
      (.asg 16 (.cmp (.meth (.loc 18 ⟨100,31,100,37⟩) .group (.cons (.cint 1 0 ⟨100,44,100,45⟩) .nil) ⟨100,31,100,43⟩ ⟨100,31,100,46⟩) .IsNot (.cnone 0 ⟨100,54,100,58⟩) ⟨100,31,100,58⟩) ⟨100,12,100,28⟩ ⟨100,12,100,58⟩ <|
      .asg 17 (.cmp (.meth (.loc 18 ⟨101,26,101,32⟩) .group (.cons (.cint 2 0 ⟨101,39,101,40⟩) .nil) ⟨101,26,101,38⟩ ⟨101,26,101,41⟩) .IsNot (.cnone 0 ⟨101,49,101,53⟩) ⟨101,26,101,53⟩) ⟨101,12,101,23⟩ ⟨101,12,101,53⟩ <|
      .asg 7 (.slB (.loc 7 ⟨102,17,102,19⟩) (.meth (.loc 18 ⟨102,21,102,27⟩) .start .nil ⟨102,21,102,33⟩ ⟨102,21,102,35⟩) ⟨102,20,102,35⟩ ⟨102,17,102,36⟩) ⟨102,12,102,14⟩ ⟨102,12,102,36⟩ <|
      .nil)
      (.nil) ⟨99,8,102,36⟩ <|
    bp_enc)
def bp_tail : CS :=
  .asg 11 (.dict0 ⟨93,14,93,16⟩) ⟨93,4,93,11⟩ ⟨93,4,93,16⟩ <|
  .asg 12 (.dict0 ⟨94,20,94,22⟩) ⟨94,4,94,17⟩ ⟨94,4,94,22⟩ <|
  .asg 13 (.dict0 ⟨95,29,95,31⟩) ⟨95,4,95,26⟩ ⟨95,4,95,31⟩ <|
  .forT [(7, ⟨96,8,96,10⟩), (14, ⟨96,12,96,14⟩)] (.loc 3 ⟨96,18,96,23⟩)
    bp_turn 0 ⟨96,8,96,14⟩ ⟨96,4,126,28⟩ <|
  .ex (.sp 5) ⟨127,4,127,73⟩ <|
  .ret (.tup (.cons (.loc 0 ⟨128,12,128,17⟩) (.cons (.loc 11 ⟨128,19,128,26⟩) .nil)) 0 ⟨128,11,128,27⟩) ⟨128,4,128,27⟩
/-- [value, _, rest, parts, scan_pos, length, m_key, pk, m_value, quote_pos, m_delim, options, continuations, continuation_encodings, pv, encoding, has_continuation, has_charset, m_mark, m_charset] -/
def b_parse_options_header : CS :=
  .ife (.cmp (.loc 0 ⟨59,7,59,12⟩) .Is (.cnone 0 ⟨59,16,59,20⟩) ⟨59,7,59,20⟩)
    (.ret (.tup (.cons (.cstr [] 0 ⟨60,16,60,18⟩) (.cons (.dict0 ⟨60,20,60,22⟩) .nil)) 0 ⟨60,15,60,23⟩) ⟨60,8,60,23⟩)
    (.nil) ⟨59,4,60,23⟩ <|
  .unp [(0, ⟨61,4,61,9⟩), (1, ⟨61,11,61,12⟩), (2, ⟨61,14,61,18⟩)] (.meth (.loc 0 ⟨61,21,61,26⟩) .partition (.cons (.cstr [59] 0 ⟨61,37,61,40⟩) .nil) ⟨61,21,61,36⟩ ⟨61,21,61,41⟩) 0 ⟨61,4,61,18⟩ ⟨61,4,61,41⟩ <|
  .asg 0 (.meth (.loc 0 ⟨62,12,62,17⟩) .strip (.cons (.cstr [32, 9] 0 ⟨62,24,62,29⟩) .nil) ⟨62,12,62,23⟩ ⟨62,12,62,30⟩) ⟨62,4,62,9⟩ ⟨62,4,62,30⟩ <|
  .asg 2 (.meth (.loc 2 ⟨63,11,63,15⟩) .strip (.cons (.cstr [32, 9] 0 ⟨63,22,63,27⟩) .nil) ⟨63,11,63,21⟩ ⟨63,11,63,28⟩) ⟨63,4,63,8⟩ ⟨63,4,63,28⟩ <|
  .ife (.bop .Or (.cons (.not (.loc 0 ⟨64,11,64,16⟩) ⟨64,7,64,16⟩) (.cons (.not (.loc 2 ⟨64,24,64,28⟩) ⟨64,20,64,28⟩) .nil)) ⟨64,7,64,28⟩)
    (.ret (.tup (.cons (.loc 0 ⟨65,16,65,21⟩) (.cons (.dict0 ⟨65,23,65,25⟩) .nil)) 0 ⟨65,15,65,26⟩) ⟨65,8,65,26⟩)
    (.nil) ⟨64,4,65,26⟩ <|
  .asg 3 (.list .nil ⟨66,12,66,14⟩) ⟨66,4,66,9⟩ ⟨66,4,66,14⟩ <|
  .asg 4 (.cint 0 0 ⟨67,15,67,16⟩) ⟨67,4,67,12⟩ ⟨67,4,67,16⟩ <|
  .asg 5 (.call .len (.cons (.loc 2 ⟨68,17,68,21⟩) .nil) ⟨68,13,68,16⟩ ⟨68,13,68,22⟩) ⟨68,4,68,10⟩ ⟨68,4,68,22⟩ <|
  .whl (.cmp (.loc 4 ⟨69,10,69,18⟩) .Lt (.loc 5 ⟨69,21,69,27⟩) ⟨69,10,69,27⟩)
    bp_scan
    (.nil) ⟨69,4,92,17⟩ <|
  bp_tail
/-- [] -/
def b_law_tongues : CS :=
  .ret (.list (.cons (.cstr [] 0 ⟨134,12,134,14⟩) (.cons (.cstr [101, 110] 0 ⟨134,16,134,20⟩) (.cons (.cstr [100, 101, 45, 65, 84] 0 ⟨134,22,134,29⟩) .nil))) ⟨134,11,134,30⟩) ⟨134,4,134,30⟩
/-- [] -/
def b_law_spaces : CS :=
  .ret (.list (.cons (.cstr [59, 32] 0 ⟨136,12,136,16⟩) (.cons (.cstr [59] 0 ⟨136,18,136,21⟩) (.cons (.cstr [32, 59, 9] 0 ⟨136,23,136,29⟩) (.cons (.cstr [59, 32, 102, 108, 97, 103, 59, 32] 0 ⟨136,31,136,41⟩) (.cons (.cstr [59, 32, 61, 120, 59] 0 ⟨136,43,136,50⟩) .nil))))) ⟨136,11,136,51⟩) ⟨136,4,136,51⟩
/-- [text, kind, bare, out, sign] -/
def b_law_coded : CS :=
  .asg 3 (.cstr [] 0 ⟨138,10,138,12⟩) ⟨138,4,138,7⟩ ⟨138,4,138,12⟩ <|
  .forS 4 (.loc 0 ⟨139,16,139,20⟩)
    (.ife (.bop .And (.cons (.loc 2 ⟨140,11,140,15⟩) (.cons (.cmp (.loc 4 ⟨140,20,140,24⟩) .In (.cstr [97, 90, 55, 45] 0 ⟨140,28,140,34⟩) ⟨140,20,140,34⟩) .nil)) ⟨140,11,140,34⟩)
      (.aug 3 .Add (.loc 4 ⟨141,19,141,23⟩) ⟨141,12,141,15⟩ ⟨141,12,141,23⟩ <|
      .nil)
      (.ife (.cmp (.loc 4 ⟨142,13,142,17⟩) .Eq (.cstr [8364] 0 ⟨142,21,142,26⟩) ⟨142,13,142,26⟩)
        (.aug 3 .Add (.cstr [37, 69, 50, 37, 56, 50, 37, 97, 99] 0 ⟨143,19,143,30⟩) ⟨143,12,143,15⟩ ⟨143,12,143,30⟩ <|
        .nil)
        (.ife (.bop .And (.cons (.cmp (.loc 4 ⟨144,13,144,17⟩) .Eq (.cstr [233] 0 ⟨144,21,144,25⟩) ⟨144,13,144,25⟩) (.cons (.cmp (.loc 1 ⟨144,30,144,34⟩) .Eq (.cint 0 0 ⟨144,38,144,39⟩) ⟨144,30,144,39⟩) .nil)) ⟨144,13,144,39⟩)
          (.aug 3 .Add (.cstr [37, 99, 51, 37, 65, 57] 0 ⟨145,19,145,27⟩) ⟨145,12,145,15⟩ ⟨145,12,145,27⟩ <|
          .nil)
          (.aug 3 .Add (.bin (.bin (.cstr [37] 0 ⟨147,19,147,22⟩) .Add (.idx (.cstr [48, 49, 50, 51, 52, 53, 54, 55, 56, 57, 65, 66, 67, 68, 69, 70] 0 ⟨147,25,147,43⟩) (.bin (.call .ord (.cons (.loc 4 ⟨147,48,147,52⟩) .nil) ⟨147,44,147,47⟩ ⟨147,44,147,53⟩) .FloorDiv (.cint 16 0 ⟨147,57,147,59⟩) ⟨147,44,147,59⟩) ⟨147,25,147,60⟩) ⟨147,19,147,60⟩) .Add (.idx (.cstr [48, 49, 50, 51, 52, 53, 54, 55, 56, 57, 97, 98, 99, 100, 101, 102] 0 ⟨147,63,147,81⟩) (.bin (.call .ord (.cons (.loc 4 ⟨147,86,147,90⟩) .nil) ⟨147,82,147,85⟩ ⟨147,82,147,91⟩) .Mod (.cint 16 0 ⟨147,94,147,96⟩) ⟨147,82,147,96⟩) ⟨147,63,147,97⟩) ⟨147,19,147,97⟩) ⟨147,12,147,15⟩ ⟨147,12,147,97⟩ <|
          .nil) ⟨144,8,147,97⟩ <|
        .nil) ⟨142,8,147,97⟩ <|
      .nil) ⟨140,8,147,97⟩ <|
    .nil) ⟨139,8,139,12⟩ ⟨139,4,147,97⟩ <|
  .ret (.loc 3 ⟨148,11,148,14⟩) ⟨148,4,148,14⟩
/-- [text] -/
def b_law_quoted : CS :=
  .ret (.bin (.bin (.cstr [34] 0 ⟨150,11,150,14⟩) .Add (.repl (.repl (.loc 0 ⟨150,17,150,21⟩) [92] [92, 92] 0 0 ⟨150,30,150,34⟩ ⟨150,36,150,42⟩ ⟨150,17,150,29⟩ ⟨150,17,150,43⟩) [34] [92, 34] 0 0 ⟨150,52,150,55⟩ ⟨150,57,150,62⟩ ⟨150,17,150,51⟩ ⟨150,17,150,63⟩) ⟨150,11,150,63⟩) .Add (.cstr [34] 0 ⟨150,66,150,69⟩) ⟨150,11,150,69⟩) ⟨150,4,150,69⟩
/-- [text, draw, bits, cuts] -/
def b_law_pieces : CS :=
  .asg 3 (.sorted2 (.bin (.loc 1 ⟨152,19,152,23⟩) .Mod (.bin (.call .len (.cons (.loc 0 ⟨152,31,152,35⟩) .nil) ⟨152,27,152,30⟩ ⟨152,27,152,36⟩) .Add (.cint 1 0 ⟨152,39,152,40⟩) ⟨152,27,152,40⟩) ⟨152,19,152,41⟩) (.bin (.bin (.loc 1 ⟨152,43,152,47⟩) .FloorDiv (.cint 7 0 ⟨152,51,152,52⟩) ⟨152,43,152,52⟩) .Mod (.bin (.call .len (.cons (.loc 0 ⟨152,60,152,64⟩) .nil) ⟨152,56,152,59⟩ ⟨152,56,152,65⟩) .Add (.cint 1 0 ⟨152,68,152,69⟩) ⟨152,56,152,69⟩) ⟨152,43,152,70⟩) ⟨152,18,152,71⟩ ⟨152,11,152,17⟩ ⟨152,11,152,72⟩) ⟨152,4,152,8⟩ ⟨152,4,152,72⟩ <|
  .ife (.cmp (.bin (.loc 2 ⟨153,7,153,11⟩) .Mod (.cint 3 0 ⟨153,14,153,15⟩) ⟨153,7,153,15⟩) .Eq (.cint 0 0 ⟨153,19,153,20⟩) ⟨153,7,153,20⟩)
    (.ret (.list (.cons (.loc 0 ⟨154,16,154,20⟩) .nil) ⟨154,15,154,21⟩) ⟨154,8,154,21⟩)
    (.nil) ⟨153,4,154,21⟩ <|
  .ife (.cmp (.bin (.loc 2 ⟨155,7,155,11⟩) .Mod (.cint 3 0 ⟨155,14,155,15⟩) ⟨155,7,155,15⟩) .Eq (.cint 1 0 ⟨155,19,155,20⟩) ⟨155,7,155,20⟩)
    (.ret (.list (.cons (.slB (.loc 0 ⟨156,16,156,20⟩) (.idx (.loc 3 ⟨156,22,156,26⟩) (.cint 0 0 ⟨156,27,156,28⟩) ⟨156,22,156,29⟩) ⟨156,21,156,29⟩ ⟨156,16,156,30⟩) (.cons (.slA (.loc 0 ⟨156,32,156,36⟩) (.idx (.loc 3 ⟨156,37,156,41⟩) (.cint 0 0 ⟨156,42,156,43⟩) ⟨156,37,156,44⟩) ⟨156,37,156,45⟩ ⟨156,32,156,46⟩) .nil)) ⟨156,15,156,47⟩) ⟨156,8,156,47⟩)
    (.nil) ⟨155,4,156,47⟩ <|
  .ret (.list (.cons (.slB (.loc 0 ⟨157,12,157,16⟩) (.idx (.loc 3 ⟨157,18,157,22⟩) (.cint 0 0 ⟨157,23,157,24⟩) ⟨157,18,157,25⟩) ⟨157,17,157,25⟩ ⟨157,12,157,26⟩) (.cons (.slAB (.loc 0 ⟨157,28,157,32⟩) (.idx (.loc 3 ⟨157,33,157,37⟩) (.cint 0 0 ⟨157,38,157,39⟩) ⟨157,33,157,40⟩) (.idx (.loc 3 ⟨157,41,157,45⟩) (.cint 1 0 ⟨157,46,157,47⟩) ⟨157,41,157,48⟩) ⟨157,33,157,48⟩ ⟨157,28,157,49⟩) (.cons (.slA (.loc 0 ⟨157,51,157,55⟩) (.idx (.loc 3 ⟨157,56,157,60⟩) (.cint 1 0 ⟨157,61,157,62⟩) ⟨157,56,157,63⟩) ⟨157,56,157,64⟩ ⟨157,51,157,65⟩) .nil))) ⟨157,11,157,66⟩) ⟨157,4,157,66⟩
/-- [name, text, draw, bits, kind, pieces, told, parts, n, piece, way, mark, front] -/
def b_law_written : CS :=
  .asg 4 (.ife (.cmp (.cstr [8364] 0 ⟨159,16,159,21⟩) .In (.loc 1 ⟨159,25,159,29⟩) ⟨159,16,159,29⟩) (.cint 0 0 ⟨159,11,159,12⟩) (.ife (.cmp (.cstr [233] 0 ⟨159,47,159,51⟩) .In (.loc 1 ⟨159,55,159,59⟩) ⟨159,47,159,59⟩) (.bin (.loc 2 ⟨159,35,159,39⟩) .Mod (.cint 2 0 ⟨159,42,159,43⟩) ⟨159,35,159,43⟩) (.bin (.loc 2 ⟨159,65,159,69⟩) .Mod (.cint 3 0 ⟨159,72,159,73⟩) ⟨159,65,159,73⟩) ⟨159,35,159,73⟩) ⟨159,11,159,73⟩) ⟨159,4,159,8⟩ ⟨159,4,159,73⟩ <|
  .tupS [(5, ⟨160,4,160,10⟩), (6, ⟨160,12,160,16⟩), (7, ⟨160,18,160,23⟩)] (.cons (.ucall .pieces (.cons (.loc 1 ⟨160,39,160,43⟩) (.cons (.loc 2 ⟨160,45,160,49⟩) (.cons (.loc 3 ⟨160,51,160,55⟩) .nil))) ⟨160,27,160,38⟩ ⟨160,27,160,56⟩) (.cons (.cbool false 0 ⟨160,58,160,63⟩) (.cons (.list .nil ⟨160,65,160,67⟩) .nil))) 0 0 ⟨160,4,160,23⟩ ⟨160,26,160,68⟩ ⟨160,4,160,68⟩ <|
  .forR 8 (.call .len (.cons (.loc 5 ⟨161,23,161,29⟩) .nil) ⟨161,19,161,22⟩ ⟨161,19,161,30⟩)
    (.tupS [(9, ⟨162,8,162,13⟩), (10, ⟨162,15,162,18⟩)] (.cons (.idx (.loc 5 ⟨162,22,162,28⟩) (.loc 8 ⟨162,29,162,30⟩) ⟨162,22,162,31⟩) (.cons (.bin (.bin (.bin (.loc 3 ⟨162,33,162,37⟩) .FloorDiv (.cint 3 0 ⟨162,41,162,42⟩) ⟨162,33,162,42⟩) .FloorDiv (.bin (.cint 4 0 ⟨162,46,162,47⟩) .Pow (.loc 8 ⟨162,51,162,52⟩) ⟨162,46,162,52⟩) ⟨162,33,162,52⟩) .Mod (.cint 4 0 ⟨162,55,162,56⟩) ⟨162,33,162,56⟩) .nil)) 0 0 ⟨162,8,162,18⟩ ⟨162,21,162,57⟩ ⟨162,8,162,57⟩ <|
    .asg 11 (.ife (.cmp (.call .len (.cons (.loc 5 ⟨163,27,163,33⟩) .nil) ⟨163,23,163,26⟩ ⟨163,23,163,34⟩) .Eq (.cint 1 0 ⟨163,38,163,39⟩) ⟨163,23,163,39⟩) (.loc 0 ⟨163,15,163,19⟩) (.bin (.bin (.loc 0 ⟨163,45,163,49⟩) .Add (.cstr [42] 0 ⟨163,52,163,55⟩) ⟨163,45,163,55⟩) .Add (.call .str (.cons (.loc 8 ⟨163,62,163,63⟩) .nil) ⟨163,58,163,61⟩ ⟨163,58,163,64⟩) ⟨163,45,163,64⟩) ⟨163,15,163,64⟩) ⟨163,8,163,12⟩ ⟨163,8,163,64⟩ <|
    .ife (.bop .And (.cons (.cmp (.loc 10 ⟨164,11,164,14⟩) .Gt (.cint 1 0 ⟨164,17,164,18⟩) ⟨164,11,164,18⟩) (.cons (.cmp (.loc 9 ⟨164,23,164,28⟩) .NotEq (.cstr [] 0 ⟨164,32,164,34⟩) ⟨164,23,164,34⟩) .nil)) ⟨164,11,164,34⟩)
      (.asg 12 (.ife (.bop .And (.cons (.loc 6 ⟨165,26,165,30⟩) (.cons (.cmp (.loc 10 ⟨165,35,165,38⟩) .Eq (.cint 3 0 ⟨165,42,165,43⟩) ⟨165,35,165,43⟩) .nil)) ⟨165,26,165,43⟩) (.cstr [] 0 ⟨165,20,165,22⟩) (.bin (.bin (.bin (.idx (.idx (.glob .charsets ⟨165,49,165,62⟩) (.loc 4 ⟨165,63,165,67⟩) ⟨165,49,165,68⟩) (.bin (.bin (.loc 2 ⟨165,69,165,73⟩) .FloorDiv (.cint 5 0 ⟨165,77,165,78⟩) ⟨165,69,165,78⟩) .Mod (.cint 2 0 ⟨165,81,165,82⟩) ⟨165,69,165,82⟩) ⟨165,49,165,83⟩) .Add (.cstr [39] 0 ⟨165,86,165,89⟩) ⟨165,49,165,89⟩) .Add (.idx (.ucall .tongues .nil ⟨165,92,165,104⟩ ⟨165,92,165,106⟩) (.bin (.bin (.loc 2 ⟨165,107,165,111⟩) .FloorDiv (.cint 11 0 ⟨165,115,165,117⟩) ⟨165,107,165,117⟩) .Mod (.cint 3 0 ⟨165,120,165,121⟩) ⟨165,107,165,121⟩) ⟨165,92,165,122⟩) ⟨165,49,165,122⟩) .Add (.cstr [39] 0 ⟨165,125,165,128⟩) ⟨165,49,165,128⟩) ⟨165,20,165,128⟩) ⟨165,12,165,17⟩ ⟨165,12,165,128⟩ <|
      .ex (.meth (.loc 7 ⟨166,12,166,17⟩) .append (.cons (.bin (.bin (.bin (.loc 11 ⟨166,25,166,29⟩) .Add (.cstr [42, 61] 0 ⟨166,32,166,36⟩) ⟨166,25,166,36⟩) .Add (.loc 12 ⟨166,39,166,44⟩) ⟨166,25,166,44⟩) .Add (.ucall .coded (.cons (.loc 9 ⟨166,58,166,63⟩) (.cons (.loc 4 ⟨166,65,166,69⟩) (.cons (.cmp (.bin (.bin (.loc 2 ⟨166,71,166,75⟩) .FloorDiv (.cint 3 0 ⟨166,79,166,80⟩) ⟨166,71,166,80⟩) .Mod (.cint 2 0 ⟨166,83,166,84⟩) ⟨166,71,166,84⟩) .Eq (.cint 0 0 ⟨166,88,166,89⟩) ⟨166,71,166,89⟩) .nil))) ⟨166,47,166,57⟩ ⟨166,47,166,90⟩) ⟨166,25,166,90⟩) .nil) ⟨166,12,166,24⟩ ⟨166,12,166,91⟩) ⟨166,12,166,91⟩ <|
      .asg 6 (.cbool true 0 ⟨167,19,167,23⟩) ⟨167,12,167,16⟩ ⟨167,12,167,23⟩ <|
      .nil)
      (.ife (.bop .And (.cons (.cmp (.loc 10 ⟨168,13,168,16⟩) .Eq (.cint 1 0 ⟨168,20,168,21⟩) ⟨168,13,168,21⟩) (.cons (.cmp (.loc 9 ⟨168,26,168,31⟩) .NotEq (.cstr [] 0 ⟨168,35,168,37⟩) ⟨168,26,168,37⟩) (.cons (.sp 3) .nil))) ⟨168,13,168,83⟩)
        (.ex (.meth (.loc 7 ⟨169,12,169,17⟩) .append (.cons (.bin (.bin (.loc 11 ⟨169,25,169,29⟩) .Add (.cstr [61] 0 ⟨169,32,169,35⟩) ⟨169,25,169,35⟩) .Add (.loc 9 ⟨169,38,169,43⟩) ⟨169,25,169,43⟩) .nil) ⟨169,12,169,24⟩ ⟨169,12,169,44⟩) ⟨169,12,169,44⟩ <|
        .nil)
        (.ex (.meth (.loc 7 ⟨171,12,171,17⟩) .append (.cons (.bin (.bin (.loc 11 ⟨171,25,171,29⟩) .Add (.cstr [61] 0 ⟨171,32,171,35⟩) ⟨171,25,171,35⟩) .Add (.ucall .quoted (.cons (.loc 9 ⟨171,50,171,55⟩) .nil) ⟨171,38,171,49⟩ ⟨171,38,171,56⟩) ⟨171,25,171,56⟩) .nil) ⟨171,12,171,24⟩ ⟨171,12,171,57⟩) ⟨171,12,171,57⟩ <|
        .nil) ⟨168,8,171,57⟩ <|
      .nil) ⟨164,8,171,57⟩ <|
    .nil) ⟨161,8,161,9⟩ ⟨161,13,161,18⟩ ⟨161,13,161,31⟩ ⟨161,4,171,57⟩ <|
  .ret (.loc 7 ⟨172,11,172,16⟩) ⟨172,4,172,16⟩
def bl_row : CS :=
    (.tupK [(5, ⟨178,8,178,12⟩), (6, ⟨178,14,178,18⟩)] (.cons (.idx (.loc 1 ⟨178,22,178,27⟩) (.bin (.cint 1 0 ⟨178,28,178,29⟩) .Add (.bin (.cint 2 0 ⟨178,32,178,33⟩) .Mult (.loc 4 ⟨178,36,178,37⟩) ⟨178,32,178,37⟩) ⟨178,28,178,37⟩) ⟨178,22,178,38⟩) (.cons (.idx (.loc 1 ⟨178,40,178,45⟩) (.bin (.cint 2 0 ⟨178,46,178,47⟩) .Add (.bin (.cint 2 0 ⟨178,50,178,51⟩) .Mult (.loc 4 ⟨178,54,178,55⟩) ⟨178,50,178,55⟩) ⟨178,46,178,55⟩) ⟨178,40,178,56⟩) .nil)) 0 0 ⟨178,8,178,18⟩ ⟨178,21,178,57⟩ ⟨178,8,178,57⟩ <|
    .asg 7 (.sp 4) ⟨179,8,179,12⟩ ⟨179,8,179,88⟩ <|
    .setI (.loc 2 ⟨180,8,180,14⟩) (.idx (.glob .names ⟨180,15,180,25⟩) (.loc 4 ⟨180,26,180,27⟩) ⟨180,15,180,28⟩) (.loc 7 ⟨180,32,180,36⟩) ⟨180,8,180,29⟩ ⟨180,8,180,36⟩ <|
    .asg 8 (.ife (.cmp (.bin (.bin (.loc 6 ⟨181,40,181,44⟩) .FloorDiv (.cint 200 0 ⟨181,48,181,51⟩) ⟨181,40,181,51⟩) .Mod (.cint 2 0 ⟨181,54,181,55⟩) ⟨181,40,181,55⟩) .Eq (.cint 1 0 ⟨181,59,181,60⟩) ⟨181,40,181,60⟩) (.meth (.idx (.glob .names ⟨181,15,181,25⟩) (.loc 4 ⟨181,26,181,27⟩) ⟨181,15,181,28⟩) .upper .nil ⟨181,15,181,34⟩ ⟨181,15,181,36⟩) (.idx (.glob .names ⟨181,66,181,76⟩) (.loc 4 ⟨181,77,181,78⟩) ⟨181,66,181,79⟩) ⟨181,15,181,79⟩) ⟨181,8,181,12⟩ ⟨181,8,181,79⟩ <|
    .ex (.meth (.loc 3 ⟨182,8,182,12⟩) .append (.cons (.ucall .written (.cons (.loc 8 ⟨182,33,182,37⟩) (.cons (.loc 7 ⟨182,39,182,43⟩) (.cons (.loc 5 ⟨182,45,182,49⟩) (.cons (.loc 6 ⟨182,51,182,55⟩) .nil)))) ⟨182,20,182,32⟩ ⟨182,20,182,56⟩) .nil) ⟨182,8,182,19⟩ ⟨182,8,182,57⟩) ⟨182,8,182,57⟩ <|
    .nil)
def bl_turn : CS :=
    (.asg 13 (.bin (.loc 11 ⟨186,16,186,20⟩) .Mod (.call .len (.cons (.loc 3 ⟨186,27,186,31⟩) .nil) ⟨186,23,186,26⟩ ⟨186,23,186,32⟩) ⟨186,16,186,32⟩) ⟨186,8,186,13⟩ ⟨186,8,186,32⟩ <|
    .aug 10 .Add (.bin (.loc 12 ⟨187,16,187,23⟩) .Add (.idx (.idx (.loc 3 ⟨187,26,187,30⟩) (.loc 13 ⟨187,31,187,36⟩) ⟨187,26,187,37⟩) (.cint 0 0 ⟨187,38,187,39⟩) ⟨187,26,187,40⟩) ⟨187,16,187,40⟩) ⟨187,8,187,12⟩ ⟨187,8,187,40⟩ <|
    .setI (.loc 3 ⟨188,8,188,12⟩) (.loc 13 ⟨188,13,188,18⟩) (.slA (.idx (.loc 3 ⟨188,22,188,26⟩) (.loc 13 ⟨188,27,188,32⟩) ⟨188,22,188,33⟩) (.cint 1 0 ⟨188,34,188,35⟩) ⟨188,34,188,36⟩ ⟨188,22,188,37⟩) ⟨188,8,188,19⟩ ⟨188,8,188,37⟩ <|
    .sp 1 <|
    .asg 11 (.bin (.loc 11 ⟨190,15,190,19⟩) .FloorDiv (.cint 3 0 ⟨190,23,190,24⟩) ⟨190,15,190,24⟩) ⟨190,8,190,12⟩ ⟨190,8,190,24⟩ <|
    .nil)
def bl_end : CS :=
  .asg 14 (.ucall .parse (.cons (.loc 10 ⟨191,32,191,36⟩) .nil) ⟨191,11,191,31⟩ ⟨191,11,191,37⟩) ⟨191,4,191,8⟩ ⟨191,4,191,37⟩ <|
  .asg 15 (.ucall .parse (.cons (.ucall .dump (.cons (.idx (.loc 14 ⟨192,53,192,57⟩) (.cint 0 0 ⟨192,58,192,59⟩) ⟨192,53,192,60⟩) (.cons (.idx (.loc 14 ⟨192,62,192,66⟩) (.cint 1 0 ⟨192,67,192,68⟩) ⟨192,62,192,69⟩) .nil)) ⟨192,33,192,52⟩ ⟨192,33,192,70⟩) .nil) ⟨192,12,192,32⟩ ⟨192,12,192,71⟩) ⟨192,4,192,9⟩ ⟨192,4,192,71⟩ <|
  .ret (.bop .And (.cons (.cmp (.loc 14 ⟨193,11,193,15⟩) .Eq (.tup (.cons (.loc 9 ⟨193,20,193,24⟩) (.cons (.loc 2 ⟨193,26,193,32⟩) .nil)) 0 ⟨193,19,193,33⟩) ⟨193,11,193,33⟩) (.cons (.cmp (.loc 15 ⟨193,38,193,43⟩) .Eq (.tup (.cons (.loc 9 ⟨193,48,193,52⟩) (.cons (.loc 2 ⟨193,54,193,60⟩) .nil)) 0 ⟨193,47,193,61⟩) ⟨193,38,193,61⟩) .nil)) ⟨193,11,193,61⟩) ⟨193,4,193,61⟩
/-- [script, cells, wanted, rows, k, draw, bits, text, name, main, line, turn, between, place, read, again] -/
def b_law : CS :=
  .sp 0 <|
  .asg 1 (.bin (.loc 1 ⟨175,12,175,17⟩) .Add (.slA (.list (.cons (.cint 2 0 ⟨175,21,175,22⟩) (.cons (.cint 123456789 0 ⟨175,24,175,33⟩) (.cons (.cint 35 0 ⟨175,35,175,37⟩) (.cons (.cint 90817263 0 ⟨175,39,175,47⟩) (.cons (.cint 146 0 ⟨175,49,175,52⟩) (.cons (.cint 40302010 0 ⟨175,54,175,62⟩) (.cons (.cint 88 0 ⟨175,64,175,66⟩) (.cons (.cint 5 0 ⟨175,68,175,69⟩) .nil)))))))) ⟨175,20,175,70⟩) (.call .len (.cons (.loc 1 ⟨175,75,175,80⟩) .nil) ⟨175,71,175,74⟩ ⟨175,71,175,81⟩) ⟨175,71,175,82⟩ ⟨175,20,175,83⟩) ⟨175,12,175,83⟩) ⟨175,4,175,9⟩ ⟨175,4,175,83⟩ <|
  .tupS [(2, ⟨176,4,176,10⟩), (3, ⟨176,12,176,16⟩)] (.cons (.dict0 ⟨176,20,176,22⟩) (.cons (.list .nil ⟨176,24,176,26⟩) .nil)) 0 0 ⟨176,4,176,16⟩ ⟨176,19,176,27⟩ ⟨176,4,176,27⟩ <|
  .forR 4 (.bin (.cint 1 0 ⟨177,19,177,20⟩) .Add (.bin (.idx (.loc 1 ⟨177,23,177,28⟩) (.cint 0 0 ⟨177,29,177,30⟩) ⟨177,23,177,31⟩) .Mod (.cint 3 0 ⟨177,34,177,35⟩) ⟨177,23,177,35⟩) ⟨177,19,177,35⟩)
    bl_row ⟨177,8,177,9⟩ ⟨177,13,177,18⟩ ⟨177,13,177,36⟩ ⟨177,4,182,57⟩ <|
  .asg 9 (.idx (.list (.cons (.cstr [102, 111, 114, 109, 45, 100, 97, 116, 97] 0 ⟨183,12,183,23⟩) (.cons (.cstr [116, 101, 120, 116, 47, 104, 116, 109, 108] 0 ⟨183,25,183,36⟩) (.cons (.cstr [97, 32, 98] 0 ⟨183,38,183,43⟩) .nil))) ⟨183,11,183,44⟩) (.bin (.bin (.idx (.loc 1 ⟨183,45,183,50⟩) (.cint 0 0 ⟨183,51,183,52⟩) ⟨183,45,183,53⟩) .FloorDiv (.cint 3 0 ⟨183,57,183,58⟩) ⟨183,45,183,58⟩) .Mod (.cint 3 0 ⟨183,61,183,62⟩) ⟨183,45,183,62⟩) ⟨183,11,183,63⟩) ⟨183,4,183,8⟩ ⟨183,4,183,63⟩ <|
  .tupS [(10, ⟨184,4,184,8⟩), (11, ⟨184,10,184,14⟩), (12, ⟨184,16,184,23⟩)] (.cons (.loc 9 ⟨184,27,184,31⟩) (.cons (.idx (.loc 1 ⟨184,33,184,38⟩) (.cint 7 0 ⟨184,39,184,40⟩) ⟨184,33,184,41⟩) (.cons (.idx (.ucall .spaces .nil ⟨184,43,184,54⟩ ⟨184,43,184,56⟩) (.bin (.bin (.idx (.loc 1 ⟨184,57,184,62⟩) (.cint 0 0 ⟨184,63,184,64⟩) ⟨184,57,184,65⟩) .FloorDiv (.cint 9 0 ⟨184,69,184,70⟩) ⟨184,57,184,70⟩) .Mod (.cint 5 0 ⟨184,73,184,74⟩) ⟨184,57,184,74⟩) ⟨184,43,184,75⟩) .nil))) 0 0 ⟨184,4,184,23⟩ ⟨184,26,184,76⟩ ⟨184,4,184,76⟩ <|
  .whl (.neNil (.loc 3 ⟨185,10,185,14⟩) ⟨185,18,185,20⟩ ⟨185,10,185,20⟩)
    bl_turn
    (.nil) ⟨185,4,190,24⟩ <|
  bl_end
end Mine
end
section
open PySem PySem.Spec PySem.Calls PyProof.Rows PySem.W PySem.Builtin
set_option maxRecDepth 100000
namespace Mine
/-! ## steps of the abstract run -/
variable {ns : List Int} {lo : Lo} {ah : AH} {k : AV → Lo → AH → Prop} {kt : Bool → Lo → AH → Prop} {kl : List AV → Lo → AH → Prop} {ks : KS} {ka : KA}
theorem e_loc {i : Nat} {p : Pos} {v : AV} (e : getL lo i = some v) (h : k v lo ah) : aE (.loc i p) lo ah k := by rw [aE, e]; exact h
theorem e_glob {g : GN} {p : Pos} (h : k g.v lo ah) : aE (.glob g p) lo ah k := by rw [aE]; exact h
theorem e_cnone {n : Nat} {p : Pos} (h : k .none lo ah) : aE (.cnone n p) lo ah k := by rw [aE]; exact h
theorem e_cbool {b : Bool} {n : Nat} {p : Pos} (h : k (.bool b) lo ah) : aE (.cbool b n p) lo ah k := by rw [aE]; exact h
theorem e_cint {i : Int} {n : Nat} {p : Pos} (h : k (.int i) lo ah) : aE (.cint i n p) lo ah k := by rw [aE]; exact h
theorem e_cstr {l : List Nat} {n : Nat} {p : Pos} (h : k (.str l) lo ah) : aE (.cstr l n p) lo ah k := by rw [aE]; exact h
theorem e_cbytes {l : List UInt8} {n : Nat} {p : Pos} (h : k (.bytes l) lo ah) : aE (.cbytes l n p) lo ah k := by rw [aE]; exact h
theorem e_bin {a b : CE} {op : Operator} {p : Pos} (h : aE a lo ah fun x lo ah => aE b lo ah fun y lo ah => aBin op x y ah fun z ah => k z lo ah) : aE (.bin a op b p) lo ah k := by rw [aE]; exact h
theorem e_cmp {a b : CE} {op : CmpOp} {p : Pos} (h : aE a lo ah fun x lo ah => aE b lo ah fun y lo ah => aCmp op x y ah fun z => k (.bool z) lo ah) : aE (.cmp a op b p) lo ah k := by rw [aE]; exact h
theorem e_not {a : CE} {p : Pos} (h : aE a lo ah fun x lo ah => tru x fun b => k (.bool !b) lo ah) : aE (.not a p) lo ah k := by rw [aE]; exact h
theorem e_bop {op : BoolOp} {xs : CEL} {p : Pos} (h : aBop op xs lo ah k) : aE (.bop op xs p) lo ah k := by rw [aE]; exact h
theorem e_ife {t a b : CE} {p : Pos} (h : aT t lo ah fun z lo ah => (z = true → aE a lo ah k) ∧ (z = false → aE b lo ah k)) : aE (.ife t a b p) lo ah k := by rw [aE]; exact h
theorem e_idx {a i : CE} {p : Pos} (h : aE a lo ah fun x lo ah => aE i lo ah fun y lo ah => aIdx x y ah fun z => k z lo ah) : aE (.idx a i p) lo ah k := by rw [aE]; exact h
theorem e_slAB {a l u : CE} {ps p : Pos} (h : aE a lo ah fun x lo ah => aE l lo ah fun y lo ah => aE u lo ah fun z lo ah => aSl x (some y) (some z) ah fun r ah => k r lo ah) : aE (.slAB a l u ps p) lo ah k := by rw [aE]; exact h
theorem e_slA {a l : CE} {ps p : Pos} (h : aE a lo ah fun x lo ah => aE l lo ah fun y lo ah => aSl x (some y) none ah fun r ah => k r lo ah) : aE (.slA a l ps p) lo ah k := by rw [aE]; exact h
theorem e_slB {a u : CE} {ps p : Pos} (h : aE a lo ah fun x lo ah => aE u lo ah fun z lo ah => aSl x none (some z) ah fun r ah => k r lo ah) : aE (.slB a u ps p) lo ah k := by rw [aE]; exact h
theorem e_call {f : BF} {xs : CEL} {pf p : Pos} (h : aEL xs lo ah fun vs lo ah => aCall f vs ah fun r ah => k r lo ah) : aE (.call f xs pf p) lo ah k := by rw [aE]; exact h
theorem e_ucall {f : UF} {xs : CEL} {pf p : Pos} (h : aEL xs lo ah fun vs lo ah => aU f vs ah fun r ah => k r lo ah) : aE (.ucall f xs pf p) lo ah k := by rw [aE]; exact h
theorem e_ucallK {f : UF} {x y : CE} {kw : Str} {pf pk p : Pos} (h : aE x lo ah fun v lo ah => aE y lo ah fun u lo ah => aU f [v, u] ah fun r ah => k r lo ah) : aE (.ucallK f x kw y pf pk p) lo ah k := by rw [aE]; exact h
/-- a method: the arguments change nothing of where it is found -/
theorem e_meth {o : CE} {m : M} {xs : CEL} {pa p : Pos} (h : aE o lo ah fun v lo ah => ∃ ti, rcv v m ah = some ti ∧ aEL xs lo ah fun vs lo ah => rcv v m ah = some ti ∧ aMeth v m vs ah fun r ah => k r lo ah) : aE (.meth o m xs pa p) lo ah k := by
  rw [aE]
  have e : (fun v lo ah => ∃ ti, rcv v m ah = some ti ∧ aEL xs lo ah fun vs lo ah => rcv v m ah = some ti ∧ aMeth v m vs ah fun r ah => k r lo ah) = (fun v lo ah => ∃ ti, rcv v m ah = some ti ∧ aEL xs lo ah fun vs lo ah => ∃ ti', rcv v m ah = some ti' ∧ ti' = ti ∧ aMeth v m vs ah fun r ah => k r lo ah) := by
    funext v lo ah
    have : ∀ ti : String × String, (fun vs lo ah => rcv v m ah = some ti ∧ aMeth v m vs ah fun r ah => k r lo ah) = (fun vs lo ah => ∃ ti', rcv v m ah = some ti' ∧ ti' = ti ∧ aMeth v m vs ah fun r ah => k r lo ah) := by
      intro ti
      funext vs lo ah
      apply propext
      constructor
      · rintro ⟨h1, h2⟩; exact ⟨ti, h1, rfl, h2⟩
      · rintro ⟨ti', h1, rfl, h2⟩; exact ⟨h1, h2⟩
    simp only [this]
  rw [e] at h
  exact h
theorem e_repl {o : CE} {a b : List Nat} {ka kb : Nat} {qa qb pa p : Pos} (h : aE o lo ah fun v lo ah => match v, a with
    | .str l, [c] => l.length ≤ 100000 ∧ b.length ≤ 10 ∧ [c] ≠ b ∧ k (.str (repl1 c b l)) lo ah
    | .str l, c :: _ => l.length ≤ 100000 ∧ c ∉ l ∧ a ≠ b ∧ b.length ≤ 10 ∧ k (.str l) lo ah
    | _, _ => False) : aE (.repl o a b ka kb qa qb pa p) lo ah k := by rw [aE]; exact h
theorem e_wal {i : Nat} {e : CE} {pi p : Pos} (h : aE e lo ah fun v lo ah => k v (setL lo i v) ah) : aE (.wal i e pi p) lo ah k := by rw [aE]; exact h
theorem e_tup {xs : CEL} {n : Nat} {p : Pos} (h : aEL xs lo ah fun vs lo ah => vs.length ≤ 10 ∧ k (.tup vs) lo ah) : aE (.tup xs n p) lo ah k := by rw [aE]; exact h
theorem e_list {xs : CEL} {p : Pos} (h : aEL xs lo ah fun vs lo ah => vs.length ≤ 20 ∧ k (.ref ah.length) lo (ah ++ [.list vs])) : aE (.list xs p) lo ah k := by rw [aE]; exact h
theorem e_bytes1 {e : CE} {pl pf p : Pos} (h : aE e lo ah fun v lo ah => match v with
    | .int i => 0 ≤ i ∧ i < 256 ∧ k (.bytes [UInt8.ofNat i.toNat]) lo ah
    | _ => False) : aE (.bytes1 e pl pf p) lo ah k := by rw [aE]; exact h
theorem e_sorted2 {a b : CE} {pl pf p : Pos} (h : aE a lo ah fun x lo ah => aE b lo ah fun y lo ah => match x, y with
    | .int i, .int j => k (.ref ah.length) lo (ah ++ [.list [.int (min i j), .int (max i j)]])
    | _, _ => False) : aE (.sorted2 a b pl pf p) lo ah k := by rw [aE]; exact h
theorem e_neNil {a : CE} {pl p : Pos} (h : aE a lo ah fun v lo ah => match v with
    | .ref o => ∃ xs, getO ah o = some (.list xs) ∧ xs.length ≤ 1000 ∧ k (.bool !xs.isEmpty) lo ah
    | _ => False) : aE (.neNil a pl p) lo ah k := by rw [aE]; exact h
theorem e_dict0 {p : Pos} (h : k (.ref ah.length) lo (ah ++ [.dict [] 0])) : aE (.dict0 p) lo ah k := by rw [aE]; exact h
theorem e_fmt {e : CE} {p : Pos} (h : aE e lo ah fun v lo ah => match v with
    | .str l => l.length ≤ 1000000 ∧ k (.str l) lo ah
    | _ => False) : aE (.fmt e p) lo ah k := by rw [aE]; exact h
theorem e_fstr {xs : CEL} {p : Pos} (h2 : twoOf xs = true) (h : aJ xs [] lo ah k) : aE (.fstr xs p) lo ah k := by rw [aE]; exact ⟨h2, h⟩
theorem e_sp {n : Nat} (h : aSp lo ah (fun v ah => k v lo ah) n) : aE (.sp n) lo ah k := by rw [aE]; exact h
theorem el_nil (h : kl [] lo ah) : aEL .nil lo ah kl := by rw [aEL]; exact h
theorem el_cons {e : CE} {r : CEL} (h : aE e lo ah fun v lo ah => aEL r lo ah fun vs lo ah => kl (v :: vs) lo ah) : aEL (.cons e r) lo ah kl := by rw [aEL]; exact h
theorem j_nil {acc : T} (h : k (.str acc) lo ah) : aJ .nil acc lo ah k := by rw [aJ]; exact h
theorem j_cons {e : CE} {r : CEL} {acc : T} (h : aE e lo ah fun v lo ah => match v with
    | .str l => acc.length + l.length ≤ 1000000 ∧ aJ r (acc ++ l) lo ah k
    | _ => False) : aJ (.cons e r) acc lo ah k := by rw [aJ]; exact h
theorem t_not {a : CE} {p : Pos} (h : aT a lo ah fun b lo ah => kt (!b) lo ah) : aT (.not a p) lo ah kt := by rw [aT]; exact h
theorem t_bop {op : BoolOp} {xs : CEL} {p : Pos} (h : aTL op xs lo ah kt) : aT (.bop op xs p) lo ah kt := by rw [aT]; exact h
theorem t_ife {t a b : CE} {p : Pos} (h : aT t lo ah fun z lo ah => (z = true → aT a lo ah kt) ∧ (z = false → aT b lo ah kt)) : aT (.ife t a b p) lo ah kt := by rw [aT]; exact h
theorem t_cmp {a b : CE} {op : CmpOp} {p : Pos} (h : aE a lo ah fun x lo ah => aE b lo ah fun y lo ah => aCmp op x y ah fun z => kt z lo ah) : aT (.cmp a op b p) lo ah kt := by rw [aT]; exact h
def valT : CE → Bool
  | .not .. => false | .bop .. => false | .ife .. => false | .cmp .. => false
  | _ => true
theorem t_val {e : CE} (he : valT e = true) (h : aE e lo ah fun v lo ah => tru v fun b => kt b lo ah) : aT e lo ah kt := by
  cases e <;> first | (cases he; done) | (simp only [aT]; exact h)
theorem tl_andN (h : kt true lo ah) : aTL .And .nil lo ah kt := by rw [aTL]; exact h
theorem tl_orN (h : kt false lo ah) : aTL .Or .nil lo ah kt := by rw [aTL]; exact h
theorem tl_and {x : CE} {r : CEL} (h : aT x lo ah fun b lo ah => (b = true → aTL .And r lo ah kt) ∧ (b = false → kt false lo ah)) : aTL .And (.cons x r) lo ah kt := by rw [aTL]; exact h
theorem tl_or {x : CE} {r : CEL} (h : aT x lo ah fun b lo ah => (b = false → aTL .Or r lo ah kt) ∧ (b = true → kt true lo ah)) : aTL .Or (.cons x r) lo ah kt := by rw [aTL]; exact h
theorem bo_one {op : BoolOp} {x : CE} (h : aE x lo ah k) : aBop op (.cons x .nil) lo ah k := by rw [aBop]; exact h
theorem bo_and {x y : CE} {r : CEL} (h : aE x lo ah fun v lo ah => tru v fun b => (b = true → aBop .And (.cons y r) lo ah k) ∧ (b = false → k v lo ah)) : aBop .And (.cons x (.cons y r)) lo ah k := by rw [aBop]; exact h; intro q; cases q
/-! statements -/
theorem s_nil (h : ks .next lo ah) : aS ns .nil lo ah ks := h
theorem s_asg {i : Nat} {e : CE} {pi p : Pos} {r : CS} (h : aE e lo ah fun v lo ah => aS ns r (setL lo i v) ah ks) : aS ns (.asg i e pi p r) lo ah ks := h
theorem s_asg2 {i j : Nat} {e : CE} {pi pj p : Pos} {r : CS} (h : aE e lo ah fun v lo ah => aS ns r (setL (setL lo i v) j v) ah ks) : aS ns (.asg2 i j e pi pj p r) lo ah ks := h
theorem s_tupS {ids : List (Nat × Pos)} {es : CEL} {k1 k2 : Nat} {pt pv p : Pos} {r : CS} (h : aEL es lo ah fun vs lo ah => vs.length = ids.length ∧ aS ns r (setLs lo ids.reverse vs.reverse) ah ks) : aS ns (.tupS ids es k1 k2 pt pv p r) lo ah ks := h
theorem s_tupK {ids : List (Nat × Pos)} {es : CEL} {k1 k2 : Nat} {pt pv p : Pos} {r : CS} (h : aEL es lo ah fun vs lo ah => vs.length = ids.length ∧ aS ns r (setLs lo ids vs) ah ks) : aS ns (.tupK ids es k1 k2 pt pv p r) lo ah ks := h
theorem s_unp {ids : List (Nat × Pos)} {e : CE} {k1 : Nat} {pt p : Pos} {r : CS} (h : aE e lo ah fun v lo ah => match v with
    | .tup vs => vs.length = ids.length ∧ aS ns r (setLs lo ids vs) ah ks
    | _ => False) : aS ns (.unp ids e k1 pt p r) lo ah ks := h
theorem s_setI {o i v : CE} {ps p : Pos} {r : CS} (h : aE v lo ah fun x lo ah => aE o lo ah fun ov lo ah => aE i lo ah fun iv lo ah => match ov, iv with
    | .ref o, .str key => ∃ es ep, getO ah o = some (.dict es ep) ∧ es.length ≤ 1000 ∧ ∀ ep', aS ns r lo (setO ah o (.dict (dput es key x) ep')) ks
    | .ref o, .int j => 0 ≤ j ∧ ∃ xs, getO ah o = some (.list xs) ∧ j.toNat < xs.length ∧ xs.length ≤ 1000 ∧ aS ns r lo (setO ah o (.list (xs.set j.toNat x))) ks
    | _, _ => False) : aS ns (.setI o i v ps p r) lo ah ks := h
theorem s_aug {i : Nat} {op : Operator} {e : CE} {pi p : Pos} {r : CS} {x : AV} (hx : getL lo i = some x) (h : aE e lo ah fun v lo ah => aAug op x v fun z => aS ns r (setL lo i z) ah ks) : aS ns (.aug i op e pi p r) lo ah ks := by
  simp only [aS]; rw [hx]; exact h
theorem s_ex {e : CE} {p : Pos} {r : CS} (h : aE e lo ah fun v lo ah => match v with
    | .none => aS ns r lo ah ks
    | _ => False) : aS ns (.ex e p r) lo ah ks := h
theorem s_ife {t : CE} {a b r : CS} {p : Pos} (h : aT t lo ah fun z lo ah => (z = true → aS ns a lo ah (seqK (aS ns r) ks)) ∧ (z = false → aS ns b lo ah (seqK (aS ns r) ks))) : aS ns (.ife t a b p r) lo ah ks := h
theorem s_forS {i : Nat} {e : CE} {a r : CS} {pi p : Pos} (h : aE e lo ah fun v lo ah => match v with
    | .str l => l.length ≤ 100000 ∧ loopL (fun c lo ah k => aS ns a (setL lo i (.str [c])) ah k) l lo ah (seqK (aS ns r) ks)
    | _ => False) : aS ns (.forS i e a pi p r) lo ah ks := h
theorem s_forR {i : Nat} {e : CE} {a r : CS} {pi pf pc p : Pos} (h : aE e lo ah fun v lo ah => match v with
    | .int n => 0 ≤ n ∧ n ≤ 1000 ∧ loopL (fun (c : Nat) lo ah k => aS ns a (setL lo i (.int c)) ah k) (List.range n.toNat) lo ah (seqK (aS ns r) ks)
    | _ => False) : aS ns (.forR i e a pi pf pc p r) lo ah ks := h
theorem s_forT {ids : List (Nat × Pos)} {e : CE} {a r : CS} {k1 : Nat} {pt p : Pos} (h : aE e lo ah fun v lo ah => match v with
    | .ref o => ∃ xs, getO ah o = some (.list xs) ∧ xs.length ≤ 100000 ∧ loopL (fun x lo ah k => match x with
        | .tup vs => vs.length = ids.length ∧ aS ns a (setLs lo ids vs) ah fun f lo ah => (f = .next ∨ f = .cont → getO ah o = some (.list xs)) ∧ k f lo ah
        | _ => False) xs lo ah (seqK (aS ns r) ks)
    | _ => False) : aS ns (.forT ids e a k1 pt p r) lo ah ks := h
theorem s_forD {ids : List (Nat × Pos)} {e : CE} {a r : CS} {k1 : Nat} {pt pa pc p : Pos} (h : aE e lo ah fun v lo ah => match v with
    | .ref o => ∃ es ep, getO ah o = some (.dict es ep) ∧ es.length ≤ 1000 ∧ ids.length = 2 ∧ loopL (fun x lo ah k => aS ns a (setLs lo ids [.str x.1, x.2]) ah fun f lo ah => (f = .next ∨ f = .cont → getO ah o = some (.dict es ep)) ∧ k f lo ah) es lo ah (seqK (aS ns r) ks)
    | _ => False) : aS ns (.forD ids e a k1 pt pa pc p r) lo ah ks := h
theorem s_sp {n : Nat} {r : CS} (h : aSpS ns lo ah (fun lo ah => aS ns r lo ah ks) n) : aS ns (.sp n r) lo ah ks := h
theorem s_ret {e : CE} {p : Pos} (h : aE e lo ah fun v lo ah => ks (.ret v) lo ah) : aS ns (.ret e p) lo ah ks := h
theorem s_brk {p : Pos} (h : ks .brk lo ah) : aS ns (.brk p) lo ah ks := h
theorem s_cnt {p : Pos} (h : ks .cont lo ah) : aS ns (.cnt p) lo ah ks := h
theorem q_next {r : CS} (h : aS ns r lo ah ks) : seqK (aS ns r) ks .next lo ah := h
theorem q_brk {r : CS} (h : ks .brk lo ah) : seqK (aS ns r) ks .brk lo ah := h
theorem q_cont {r : CS} (h : ks .cont lo ah) : seqK (aS ns r) ks .cont lo ah := h
theorem q_ret {r : CS} {v : AV} (h : ks (.ret v) lo ah) : seqK (aS ns r) ks (.ret v) lo ah := h
/-! operations -/
theorem b_addI {a b : Int} (h : ka (.int (a + b)) ah) : aBin .Add (.int a) (.int b) ah ka := h
theorem b_addS {a b : T} (hl : a.length + b.length ≤ 1000000) (h : ka (.str (a ++ b)) ah) : aBin .Add (.str a) (.str b) ah ka := ⟨hl, h⟩
theorem b_subI {a b : Int} (h : ka (.int (a - b)) ah) : aBin .Sub (.int a) (.int b) ah ka := h
theorem b_mod {a b : Int} (hb : 0 < b) (h : ka (.int (a % b)) ah) : aBin .Mod (.int a) (.int b) ah ka := ⟨hb, h⟩
theorem b_div {a b : Int} (hb : 0 < b) (h2 : b < 1000000000) (h : ka (.int (a / b)) ah) : aBin .FloorDiv (.int a) (.int b) ah ka := ⟨hb, h2, h⟩
theorem g_addI {a b : Int} {q : AV → Prop} (h : q (.int (a + b))) : aAug .Add (.int a) (.int b) q := h
theorem g_addS {a b : T} {q : AV → Prop} (hl : a.length + b.length ≤ 1000000) (h : q (.str (a ++ b))) : aAug .Add (.str a) (.str b) q := ⟨hl, h⟩
theorem g_addB {a b : List UInt8} {q : AV → Prop} (hl : a.length + b.length ≤ 1000000) (h : q (.bytes (a ++ b))) : aAug .Add (.bytes a) (.bytes b) q := ⟨hl, h⟩
theorem c_eqI {a b : Int} {q : Bool → Prop} (h : q (decide (a = b))) : aCmp .Eq (.int a) (.int b) ah q := h
theorem c_eqS {a b : T} {q : Bool → Prop} (h : q (decide (a = b))) : aCmp .Eq (.str a) (.str b) ah q := h
theorem c_neS {a b : T} {q : Bool → Prop} (h : q (decide (a ≠ b))) : aCmp .NotEq (.str a) (.str b) ah q := h
theorem c_lt {a b : Int} {q : Bool → Prop} (h : q (decide (a < b))) : aCmp .Lt (.int a) (.int b) ah q := h
theorem c_gt {a b : Int} {q : Bool → Prop} (h : q (decide (a > b))) : aCmp .Gt (.int a) (.int b) ah q := h
theorem c_ge {a b : Int} {q : Bool → Prop} (h : q (decide (a ≥ b))) : aCmp .GtE (.int a) (.int b) ah q := h
theorem c_inS {c : Nat} {l : T} {q : Bool → Prop} (h : q (decide (c ∈ l))) : aCmp .In (.str [c]) (.str l) ah q := h
theorem c_is {v : AV} {b : Bool} {q : Bool → Prop} (e : isNoneA v = some b) (h : q b) : aCmp .Is v .none ah q := by
  unfold aCmp
  cases v <;> exact ⟨b, e, h⟩
theorem c_isn {v : AV} {b : Bool} {q : Bool → Prop} (e : isNoneA v = some b) (h : q (!b)) : aCmp .IsNot v .none ah q := by
  unfold aCmp
  cases v <;> exact ⟨b, e, h⟩
theorem u_none {q : Bool → Prop} (h : q false) : tru .none q := h
theorem u_bool {b : Bool} {q : Bool → Prop} (h : q b) : tru (.bool b) q := h
theorem u_str {l : T} {q : Bool → Prop} (hl : l.length ≤ 1000000) (h : q (!l.isEmpty)) : tru (.str l) q := ⟨hl, h⟩
theorem u_mt {l : T} {sp : List Int} {q : Bool → Prop} (h : q true) : tru (.mt l sp) q := h
theorem f_len {l : T} (hl : l.length ≤ 1000000) (h : ka (.int l.length) ah) : aCall .len [.str l] ah ka := ⟨hl, h⟩
theorem f_ord {c : Nat} (h : ka (.int c) ah) : aCall .ord [.str [c]] ah ka := h
theorem f_strS {l : T} (h : ka (.str l) ah) : aCall .str [.str l] ah ka := h
theorem x_str {l : T} {i : Int} {c : Nat} {q : AV → Prop} (h0 : 0 ≤ i) (h1 : i ≤ 1000000) (hc : l[i.toNat]? = some c) (h : q (.str [c])) : aIdx (.str l) (.int i) ah q := ⟨h0, h1, c, hc, h⟩
/-- a loop over a list -/
theorem loop_ind {α : Type} {step : α → Lo → AH → KS → Prop} (Inv : List α → Lo → AH → Prop) (nil : ∀ lo ah, Inv [] lo ah → ks .next lo ah)
    (cons : ∀ x r, (∀ lo ah, Inv r lo ah → loopL step r lo ah ks) → ∀ lo ah, Inv (x :: r) lo ah → step x lo ah fun f lo ah => match f with
      | .next => loopL step r lo ah ks
      | .cont => loopL step r lo ah ks
      | .brk => ks .next lo ah
      | .ret v => ks (.ret v) lo ah) : ∀ l lo ah, Inv l lo ah → loopL step l lo ah ks
  | [], lo, ah, h => nil lo ah h
  | x :: r, lo, ah, h => cons x r (loop_ind Inv nil cons r) lo ah h
/-- the truth of an expression that changes nothing -/
def EvT (x : CE) (lo : Lo) (ah : AH) (b : Bool) : Prop := ∀ k : Bool → Lo → AH → Prop, k b lo ah → aT x lo ah k
def EvTL (op : BoolOp) (xs : CEL) (lo : Lo) (ah : AH) (b : Bool) : Prop := ∀ k : Bool → Lo → AH → Prop, k b lo ah → aTL op xs lo ah k
theorem ev_and {x : CE} {r : CEL} {b c : Bool} (h1 : EvT x lo ah b) (h2 : b = true → EvTL .And r lo ah c) : EvTL .And (.cons x r) lo ah (b && c) := fun k hk => by
  refine tl_and (h1 _ ⟨fun e => h2 e k (by rw [e, Bool.true_and] at hk; exact hk), fun e => by rw [e, Bool.false_and] at hk; exact hk⟩)
theorem ev_or {x : CE} {r : CEL} {b c : Bool} (h1 : EvT x lo ah b) (h2 : b = false → EvTL .Or r lo ah c) : EvTL .Or (.cons x r) lo ah (b || c) := fun k hk => by
  refine tl_or (h1 _ ⟨fun e => h2 e k (by rw [e, Bool.false_or] at hk; exact hk), fun e => by rw [e, Bool.true_or] at hk; exact hk⟩)
theorem ev_andN : EvTL .And .nil lo ah true := fun _ h => tl_andN h
theorem ev_orN : EvTL .Or .nil lo ah false := fun _ h => tl_orN h
theorem ev_bop {op : BoolOp} {xs : CEL} {p : Pos} {b : Bool} (h : EvTL op xs lo ah b) : EvT (.bop op xs p) lo ah b := fun k hk => t_bop (h k hk)
theorem e_if {t a b : CE} {p : Pos} {z : Bool} (ht : EvT t lo ah z) (h1 : z = true → aE a lo ah k) (h2 : z = false → aE b lo ah k) : aE (.ife t a b p) lo ah k := e_ife (ht _ ⟨h1, h2⟩)
/-- an expression that changes nothing -/
theorem e_ev {x : CE} {v : AV} (h : ∀ k : AV → Lo → AH → Prop, k v lo ah → aE x lo ah k) (hk : k v lo ah) : aE x lo ah k := h k hk
theorem s_if {t : CE} {a b r : CS} {p : Pos} {z : Bool} (ht : EvT t lo ah z) (h1 : z = true → aS ns a lo ah (seqK (aS ns r) ks)) (h2 : z = false → aS ns b lo ah (seqK (aS ns r) ks)) : aS ns (.ife t a b p r) lo ah ks := s_ife (ht _ ⟨h1, h2⟩)
end Mine
end
section
open PySem PySem.Spec PySem.Calls PyProof.Rows PySem.W PySem.Builtin
set_option maxRecDepth 100000
namespace Mine
local macro_rules | `(tactic| walk_at "st") => `(tactic| first
  | with_reducible refine e_loc (by with_unfolding_all rfl) ?_ | with_reducible refine e_cstr ?_ | with_reducible refine e_cint ?_ | with_reducible refine e_cnone ?_ | with_reducible refine e_cbool ?_ | with_reducible refine e_cbytes ?_ | with_reducible refine e_glob ?_
  | with_reducible refine e_bin ?_ | with_reducible refine e_cmp ?_ | with_reducible refine e_not ?_ | with_reducible refine e_idx ?_ | with_reducible refine e_slAB ?_ | with_reducible refine e_slA ?_ | with_reducible refine e_slB ?_
  | with_reducible refine e_call ?_ | with_reducible refine e_ucall ?_ | with_reducible refine e_ucallK ?_ | with_reducible refine e_meth ?_ | with_reducible refine e_repl ?_ | with_reducible refine e_wal ?_ | with_reducible refine e_tup ?_ | with_reducible refine e_list ?_
  | with_reducible refine e_bytes1 ?_ | with_reducible refine e_sorted2 ?_ | with_reducible refine e_neNil ?_ | with_reducible refine e_dict0 ?_ | with_reducible refine e_fmt ?_ | with_reducible refine e_fstr (by rfl) ?_ | with_reducible refine e_sp ?_ | with_reducible refine e_ife ?_
  | with_reducible refine el_nil ?_ | with_reducible refine el_cons ?_ | with_reducible refine j_nil ?_ | with_reducible refine j_cons ?_ | with_reducible refine t_not ?_ | with_reducible refine t_cmp ?_ | with_reducible refine t_val (by rfl) ?_
  | with_reducible refine s_nil ?_ | with_reducible refine s_asg ?_ | with_reducible refine s_asg2 ?_ | with_reducible refine s_tupS ?_ | with_reducible refine s_tupK ?_ | with_reducible refine s_unp ?_ | with_reducible refine s_setI ?_ | with_reducible refine s_aug (by with_unfolding_all rfl) ?_ | with_reducible refine s_ex ?_
  | with_reducible refine s_ret ?_ | with_reducible refine s_brk ?_ | with_reducible refine s_cnt ?_ | with_reducible refine q_next ?_ | with_reducible refine q_brk ?_ | with_reducible refine q_cont ?_ | with_reducible refine q_ret ?_
  | with_reducible refine b_addI ?_ | with_reducible refine b_subI ?_ | with_reducible refine g_addI ?_ | with_reducible refine c_eqI ?_ | with_reducible refine c_eqS ?_ | with_reducible refine c_neS ?_ | with_reducible refine c_lt ?_ | with_reducible refine c_gt ?_ | with_reducible refine c_ge ?_ | with_reducible refine c_inS ?_
  | with_reducible refine c_is (by with_unfolding_all rfl) ?_ | with_reducible refine c_isn (by with_unfolding_all rfl) ?_ | with_reducible refine u_none ?_ | with_reducible refine u_bool ?_ | with_reducible refine u_mt ?_ | with_reducible refine f_ord ?_ | with_reducible refine f_strS ?_
  | with_reducible refine ⟨_, (by with_unfolding_all rfl : rcv _ _ _ = some _), ?_⟩ | with_reducible refine And.intro (by with_unfolding_all rfl : rcv _ _ _ = some _) ?_)
/-! ## what the bodies compute -/
variable {ns : List Int}
theorem bo_text {b : List UInt8} {e l : T} {k : KS} (hb : b.length ≤ 1000000) (he : e = sUtf8 ∨ e = sIso ∨ e = sAscii ∨ e = sUs) (hl : decF e b = some l) (hk : ∀ lo, k (.ret (.str l)) lo []) : aS ns b_text [some (.bytes b), some (.str e)] [] k := by
  unfold b_text
  refine s_if (z := decide (e = sUtf8)) ?_ (fun h => ?_) (fun h => ?_)
  · intro k hk; repeat walk_at "st"
    exact hk
  · have h : e = sUtf8 := of_decide_eq_true h
    subst h
    repeat walk_at "st"
    exact ⟨.inl rfl, hb, l, hl, hk _⟩
  · have h1 : e ≠ sUtf8 := of_decide_eq_false h
    repeat walk_at "st"
    refine s_if (z := decide (e = sIso)) ?_ (fun h => ?_) (fun h => ?_)
    · intro k hk; repeat walk_at "st"
      exact hk
    · have h : e = sIso := of_decide_eq_true h
      subst h
      repeat walk_at "st"
      refine ⟨rfl, hb, ?_⟩
      have : b.map (·.toNat) = l := by
        unfold decF at hl
        rw [if_neg h1, if_pos rfl] at hl
        exact Option.some.inj hl
      rw [this]
      exact hk _
    · have h2 : e ≠ sIso := of_decide_eq_false h
      repeat walk_at "st"
      refine ⟨.inr rfl, hb, l, ?_, hk _⟩
      unfold decF at hl ⊢
      rw [if_neg h1, if_neg h2] at hl
      rw [if_neg (by decide), if_neg (by decide)]
      exact hl
end Mine
end
section
open PySem PySem.Spec PySem.Calls PyProof.Rows PySem.W PySem.Builtin
set_option maxRecDepth 100000
namespace Mine
local macro_rules | `(tactic| walk_at "st") => `(tactic| first
  | with_reducible refine e_loc (by with_unfolding_all rfl) ?_ | with_reducible refine e_cstr ?_ | with_reducible refine e_cint ?_ | with_reducible refine e_cnone ?_ | with_reducible refine e_cbool ?_ | with_reducible refine e_cbytes ?_ | with_reducible refine e_glob ?_
  | with_reducible refine e_bin ?_ | with_reducible refine e_cmp ?_ | with_reducible refine e_not ?_ | with_reducible refine e_idx ?_ | with_reducible refine e_slAB ?_ | with_reducible refine e_slA ?_ | with_reducible refine e_slB ?_
  | with_reducible refine e_call ?_ | with_reducible refine e_ucall ?_ | with_reducible refine e_ucallK ?_ | with_reducible refine e_meth ?_ | with_reducible refine e_repl ?_ | with_reducible refine e_wal ?_ | with_reducible refine e_tup ?_ | with_reducible refine e_list ?_
  | with_reducible refine e_bytes1 ?_ | with_reducible refine e_sorted2 ?_ | with_reducible refine e_neNil ?_ | with_reducible refine e_dict0 ?_ | with_reducible refine e_fmt ?_ | with_reducible refine e_fstr (by with_unfolding_all rfl) ?_ | with_reducible refine e_sp ?_
  | with_reducible refine el_nil ?_ | with_reducible refine el_cons ?_ | with_reducible refine j_nil ?_ | with_reducible refine j_cons ?_ | with_reducible refine t_not ?_ | with_reducible refine t_cmp ?_ | with_reducible refine t_val (by with_unfolding_all rfl) ?_
  | with_reducible refine s_nil ?_ | with_reducible refine s_asg ?_ | with_reducible refine s_asg2 ?_ | with_reducible refine s_tupS ?_ | with_reducible refine s_tupK ?_ | with_reducible refine s_unp ?_ | with_reducible refine s_setI ?_ | with_reducible refine s_aug (by with_unfolding_all rfl) ?_ | with_reducible refine s_ex ?_
  | with_reducible refine s_forS ?_ | with_reducible refine s_forR ?_ | with_reducible refine s_forT ?_ | with_reducible refine s_forD ?_ | with_reducible refine s_sp ?_ | with_reducible refine s_ret ?_ | with_reducible refine s_brk ?_ | with_reducible refine s_cnt ?_ | with_reducible refine q_next ?_ | with_reducible refine q_brk ?_ | with_reducible refine q_cont ?_ | with_reducible refine q_ret ?_
  | with_reducible refine b_addI ?_ | with_reducible refine b_subI ?_ | with_reducible refine g_addI ?_ | with_reducible refine c_eqI ?_ | with_reducible refine c_eqS ?_ | with_reducible refine c_neS ?_ | with_reducible refine c_lt ?_ | with_reducible refine c_gt ?_ | with_reducible refine c_ge ?_ | with_reducible refine c_inS ?_
  | with_reducible refine c_is (by with_unfolding_all rfl) ?_ | with_reducible refine c_isn (by with_unfolding_all rfl) ?_ | with_reducible refine u_none ?_ | with_reducible refine u_bool ?_ | with_reducible refine u_mt ?_ | with_reducible refine f_ord ?_ | with_reducible refine f_strS ?_
  | with_reducible refine ⟨_, (by with_unfolding_all rfl : rcv _ _ _ = some _), ?_⟩ | with_reducible refine And.intro (by with_unfolding_all rfl : rcv _ _ _ = some _) ?_)
/-! ## unquote -/
variable {ns : List Int}
abbrev DIG : T := [48, 49, 50, 51, 52, 53, 54, 55, 56, 57, 65, 66, 67, 68, 69, 70, 97, 98, 99, 100, 101, 102]
theorem hex_dig (c : Nat) : (hexV c).isSome = decide (c ∈ DIG) := by
  have h : (hexV c).isSome = true ↔ c ∈ DIG := by
    unfold hexV
    simp only [DIG, List.mem_cons, List.not_mem_nil, or_false]
    split
    · simp; omega
    · split
      · simp; omega
      · split
        · simp; omega
        · simp; omega
  cases q : (hexV c).isSome with
  | true => exact (decide_eq_true (h.mp q)).symm
  | false => exact (decide_eq_false (fun x => by rw [h.mpr x] at q; cases q)).symm
theorem octs_plain {c : Nat} {r : T} (h : ∀ a b r', c = 37 → r = a :: b :: r' → ¬ (a ∈ DIG ∧ b ∈ DIG)) : octs (c :: r) = (octs r).map (UInt8.ofNat c :: ·) := by
  rw [octs.eq_def]
  simp only
  split
  · rename_i a b r'
    have hn := h a b r' rfl rfl
    rw [if_neg]
    rw [hex_dig, hex_dig, Bool.and_eq_true, decide_eq_true_eq, decide_eq_true_eq]
    exact hn
  · rfl
theorem octs_hex {a b : Nat} {r : T} (ha : a ∈ DIG) (hb : b ∈ DIG) {rest : List UInt8} (h : octs (37 :: a :: b :: r) = some rest) : ∃ n rest', hex2 a b = some n ∧ octs r = some rest' ∧ rest = UInt8.ofNat n :: rest' := by
  rw [octs.eq_def] at h
  simp only at h
  rw [if_pos (by rw [hex_dig, hex_dig, decide_eq_true ha, decide_eq_true hb]; rfl)] at h
  split at h
  · rename_i n e
    cases q : octs r with
    | none => rw [q] at h; cases h
    | some rest' => rw [q] at h; exact ⟨n, rest', e, rfl, (Option.some.inj h).symm⟩
  · cases h
theorem hex2_lt {a b n : Nat} (h : hex2 a b = some n) : n < 256 := by
  unfold hex2 at h
  cases q : pairs.find? fun p => p.1 == a && p.2.1 == b with
  | none => rw [q] at h; cases h
  | some x =>
    rw [q] at h; cases h
    have := List.mem_of_find?_eq_some q
    have all : pairs.all (fun p => decide (p.2.2 < 256)) = true := by decide
    exact of_decide_eq_true (List.all_eq_true.mp all x this)
theorem drop_cons {l : T} {p : Nat} (h : p < l.length) : l.drop p = l.getD p 0 :: l.drop (p + 1) := by
  rw [List.drop_eq_getElem_cons h, List.getD_eq_getElem?_getD, List.getElem?_eq_getElem h]; rfl
theorem get_some {l : T} {p : Nat} (h : p < l.length) : l[p]? = some (l.getD p 0) := by
  rw [List.getD_eq_getElem?_getD, List.getElem?_eq_getElem h]; rfl
theorem two_of {l : T} {p : Nat} (h : p + 1 < l.length) : (l.take (p + 2)).drop p = [l.getD p 0, l.getD (p + 1) 0] := by
  have h1 := drop_cons (l := l) (p := p) (by omega)
  have h2 := drop_cons (l := l) (p := p + 1) h
  rw [List.drop_take, show p + 2 - p = 2 by omega, h1, h2]
  rfl
theorem decU_len : ∀ {b : List UInt8} {l : T}, decU b = some l → l.length ≤ b.length
  | [], l, h => by rw [decU.eq_def] at h; cases h; exact Nat.le_refl _
  | a :: r, l, h => by
    rw [decU.eq_def] at h
    simp only at h
    split at h
    · cases q : decU r with
      | none => rw [q] at h; cases h
      | some x => rw [q] at h; cases h; have := decU_len q; simp only [List.length_cons]; omega
    · split at h
      · rename_i b r' _
        split at h
        · cases q : decU r' with
          | none => rw [q] at h; cases h
          | some x => rw [q] at h; cases h; have := decU_len q; simp only [List.length_cons]; omega
        · cases h
      · rename_i b c r' _
        split at h
        · cases q : decU r' with
          | none => rw [q] at h; cases h
          | some x => rw [q] at h; cases h; have := decU_len q; simp only [List.length_cons]; omega
        · cases h
      · cases h
  termination_by b => b.length
theorem decF_len {e : T} {b : List UInt8} {l : T} (h : decF e b = some l) : l.length ≤ b.length := by
  unfold decF at h
  split at h
  · exact decU_len h
  · split at h
    · cases h; rw [List.length_map]; exact Nat.le_refl _
    · split at h
      · cases h; rw [List.length_map]; exact Nat.le_refl _
      · cases h
theorem bo_unquote {s e l : T} {k : KS} (hs : s.length ≤ 100000) (he : e = sUtf8 ∨ e = sIso ∨ e = sAscii ∨ e = sUs) (hl : unqF s e = some l) (hk : ∀ lo, k (.ret (.str l)) lo []) : aS ns b_unquote [some (.str s), some (.str e), none, none, none] [] k := by
  have hall : ∀ c ∈ s, c < 128 := by
    unfold unqF at hl
    split at hl
    · rename_i h; intro c hc; simpa using List.all_eq_true.mp h c hc
    · cases hl
  have hoc : ∃ rest, octs s = some rest ∧ decF e rest = some l := by
    unfold unqF at hl
    split at hl
    · cases q : octs s with
      | none => rw [q] at hl; cases hl
      | some rest => rw [q] at hl; exact ⟨rest, rfl, hl⟩
    · cases hl
  have hl6 : (6 : Int) = 6 := rfl
  clear hl
  unfold b_unquote
  repeat walk_at "st"
  refine ⟨rfl, ?_⟩
  intro P hP
  have key : ∀ (n pos : Nat) (oc rest : List UInt8), s.length - pos = n → pos ≤ s.length → octs (s.drop pos) = some rest → decF e (oc ++ rest) = some l → oc.length ≤ pos →
      P [some (.str s), some (.str e), some (.str []), some (.bytes oc), some (.int pos)] [] := by
    intro n
    induction n using Nat.strongRecOn with
    | ind n ih =>
    intro pos oc rest hn hp ho hd hlen
    apply hP
    repeat walk_at "st"
    refine f_len (by omega) ?_
    repeat walk_at "st"
    refine ⟨fun hz => ?_, fun hz => ?_⟩
    · have hz : pos < s.length := by simpa using hz
      have hd1 := drop_cons hz
      have hc := get_some hz
      have hc128 : s.getD pos 0 < 128 := hall _ (List.mem_of_getElem? hc)
      refine s_if (z := decide ([s.getD pos 0] = [37]) && (decide ((s.length : Int) > pos + 2) && (decide (s.getD (pos + 1) 0 ∈ DIG) && (decide (s.getD (pos + 2) 0 ∈ DIG) && true)))) ?_ (fun h => ?_) (fun h => ?_)
      · refine ev_bop (ev_and ?_ fun _ => ev_and ?_ fun h2 => ev_and ?_ fun _ => ev_and ?_ fun _ => ev_andN)
        · intro k hk; repeat walk_at "st"
          refine x_str (c := s.getD pos 0) (by omega) (by omega) hc ?_
          repeat walk_at "st"
          exact hk
        · intro k hk; repeat walk_at "st"
          refine f_len (by omega) ?_
          repeat walk_at "st"
          exact hk
        · have h2 : pos + 2 < s.length := by have := of_decide_eq_true h2; omega
          intro k hk; repeat walk_at "st"
          refine x_str (c := s.getD (pos + 1) 0) (by omega) (by omega) (by rw [show ((pos : Int) + 1).toNat = pos + 1 by omega]; exact get_some (by omega)) ?_
          repeat walk_at "st"
          exact hk
        · have h2 : pos + 2 < s.length := by have := of_decide_eq_true h2; omega
          intro k hk; repeat walk_at "st"
          refine x_str (c := s.getD (pos + 2) 0) (by omega) (by omega) (by rw [show ((pos : Int) + 2).toNat = pos + 2 by omega]; exact get_some (by omega)) ?_
          repeat walk_at "st"
          exact hk
      · simp only [Bool.and_eq_true, decide_eq_true_eq, and_true] at h
        obtain ⟨h1, h2, h3, h4⟩ := h
        have h1 : s.getD pos 0 = 37 := List.singleton_inj.mp h1
        have h2 : pos + 2 < s.length := by omega
        rw [hd1, h1, drop_cons (l := s) (p := pos + 1) (by omega), drop_cons (l := s) (p := pos + 1 + 1) (by omega)] at ho
        obtain ⟨m, rest', hm, ho', rfl⟩ := octs_hex h3 h4 ho
        have hlt := hex2_lt hm
        repeat walk_at "st"
        refine ⟨by omega, by omega, by omega, by omega, by omega, ?_⟩
        repeat walk_at "st"
        rw [show ((pos : Int) + 3).toNat = (pos + 1) + 2 by omega, show ((pos : Int) + 1).toNat = pos + 1 by omega, two_of (by omega)]
        refine ⟨m, hm, ?_⟩
        refine ⟨by omega, by omega, ?_⟩
        refine g_addB (by simp only [List.length_cons, List.length_nil]; omega) ?_
        repeat walk_at "st"
        have z := ih (s.length - (pos + 3)) (by omega) (pos + 3) (oc ++ [UInt8.ofNat m]) rest' rfl (by omega) ho' (by rw [List.append_assoc]; exact hd) (by simp only [List.length_append, List.length_cons, List.length_nil]; omega)
        exact z
      · have hoo : octs (s.drop pos) = (octs (s.drop (pos + 1))).map (UInt8.ofNat (s.getD pos 0) :: ·) := by
          rw [hd1]
          refine octs_plain fun a b r' e1 e2 e3 => ?_
          have l2 : pos + 2 < s.length := by
            have := congrArg List.length e2
            simp only [List.length_drop, List.length_cons] at this
            omega
          rw [drop_cons (l := s) (p := pos + 1) (by omega), drop_cons (l := s) (p := pos + 1 + 1) (by omega)] at e2
          injection e2 with e4 e5
          injection e5 with e5 e6
          rw [e1, decide_eq_true rfl, decide_eq_true (show ((s.length : Int) > pos + 2) by omega), decide_eq_true (by rw [e4]; exact e3.1), decide_eq_true (by rw [show pos + 2 = pos + 1 + 1 from rfl, e5]; exact e3.2)] at h
          cases h
        rw [hoo] at ho
        cases q : octs (s.drop (pos + 1)) with
        | none => rw [q] at ho; cases ho
        | some rest' =>
          rw [q] at ho
          have ho : UInt8.ofNat (s.getD pos 0) :: rest' = rest := Option.some.inj ho
          subst ho
          repeat walk_at "st"
          refine s_if (z := decide (((s.getD pos 0 : Nat) : Int) < 128)) ?_ (fun h => ?_) (fun h => absurd h (by rw [decide_eq_true (by omega)]; decide))
          · intro k hk; repeat walk_at "st"
            refine x_str (c := s.getD pos 0) (by omega) (by omega) hc ?_
            repeat walk_at "st"
            exact hk
          · repeat walk_at "st"
            refine x_str (c := s.getD pos 0) (by omega) (by omega) hc ?_
            repeat walk_at "st"
            refine ⟨by omega, by omega, ?_⟩
            refine g_addB (by simp only [List.length_cons, List.length_nil]; omega) ?_
            repeat walk_at "st"
            have z := ih (s.length - (pos + 1)) (by omega) (pos + 1) (oc ++ [UInt8.ofNat (s.getD pos 0)]) rest' rfl (by omega) q (by rw [List.append_assoc]; exact hd) (by simp only [List.length_append, List.length_cons, List.length_nil]; omega)
            exact z
    · have hz : pos = s.length := by have : ¬ ((pos : Int) < s.length) := of_decide_eq_false hz; omega
      rw [hz, List.drop_length] at ho
      have ho : rest = [] := by rw [octs.eq_def] at ho; exact (Option.some.inj ho).symm
      subst ho
      rw [List.append_nil] at hd
      repeat walk_at "st"
      refine ⟨by omega, he, l, hd, ?_⟩
      have hll : l.length ≤ 1000000 := by have := decF_len hd; omega
      refine b_addS (by simpa using hll) ?_
      exact hk _
  obtain ⟨rest, h1, h2⟩ := hoc
  exact key _ 0 [] rest rfl (Nat.zero_le _) h1 h2 (Nat.le_refl _)
end Mine
end
section
open PySem PySem.Spec PySem.Calls PyProof.Rows PySem.W PySem.Builtin
set_option maxRecDepth 100000
namespace Mine
local macro_rules | `(tactic| walk_at "st") => `(tactic| first
  | with_reducible refine e_loc (by with_unfolding_all rfl) ?_ | with_reducible refine e_cstr ?_ | with_reducible refine e_cint ?_ | with_reducible refine e_cnone ?_ | with_reducible refine e_cbool ?_ | with_reducible refine e_cbytes ?_ | with_reducible refine e_glob ?_
  | with_reducible refine e_bin ?_ | with_reducible refine e_cmp ?_ | with_reducible refine e_not ?_ | with_reducible refine e_idx ?_ | with_reducible refine e_slAB ?_ | with_reducible refine e_slA ?_ | with_reducible refine e_slB ?_
  | with_reducible refine e_call ?_ | with_reducible refine e_ucall ?_ | with_reducible refine e_ucallK ?_ | with_reducible refine e_meth ?_ | with_reducible refine e_repl ?_ | with_reducible refine e_wal ?_ | with_reducible refine e_tup ?_ | with_reducible refine e_list ?_
  | with_reducible refine e_bytes1 ?_ | with_reducible refine e_sorted2 ?_ | with_reducible refine e_neNil ?_ | with_reducible refine e_dict0 ?_ | with_reducible refine e_fmt ?_ | with_reducible refine e_fstr (by with_unfolding_all rfl) ?_ | with_reducible refine e_sp ?_
  | with_reducible refine el_nil ?_ | with_reducible refine el_cons ?_ | with_reducible refine j_nil ?_ | with_reducible refine j_cons ?_ | with_reducible refine t_not ?_ | with_reducible refine t_cmp ?_ | with_reducible refine t_val (by with_unfolding_all rfl) ?_
  | with_reducible refine s_nil ?_ | with_reducible refine s_asg ?_ | with_reducible refine s_asg2 ?_ | with_reducible refine s_tupS ?_ | with_reducible refine s_tupK ?_ | with_reducible refine s_unp ?_ | with_reducible refine s_setI ?_ | with_reducible refine s_aug (by with_unfolding_all rfl) ?_ | with_reducible refine s_ex ?_
  | with_reducible refine s_forS ?_ | with_reducible refine s_forR ?_ | with_reducible refine s_forT ?_ | with_reducible refine s_forD ?_ | with_reducible refine s_sp ?_ | with_reducible refine s_ret ?_ | with_reducible refine s_brk ?_ | with_reducible refine s_cnt ?_ | with_reducible refine q_next ?_ | with_reducible refine q_brk ?_ | with_reducible refine q_cont ?_ | with_reducible refine q_ret ?_
  | with_reducible refine b_addI ?_ | with_reducible refine b_subI ?_ | with_reducible refine g_addI ?_ | with_reducible refine c_eqI ?_ | with_reducible refine c_eqS ?_ | with_reducible refine c_neS ?_ | with_reducible refine c_lt ?_ | with_reducible refine c_gt ?_ | with_reducible refine c_ge ?_ | with_reducible refine c_inS ?_
  | with_reducible refine c_is (by with_unfolding_all rfl) ?_ | with_reducible refine c_isn (by with_unfolding_all rfl) ?_ | with_reducible refine u_none ?_ | with_reducible refine u_bool ?_ | with_reducible refine u_mt ?_ | with_reducible refine f_ord ?_ | with_reducible refine f_strS ?_
  | with_reducible refine ⟨_, (by with_unfolding_all rfl : rcv _ _ _ = some _), ?_⟩ | with_reducible refine And.intro (by with_unfolding_all rfl : rcv _ _ _ = some _) ?_)
/-! ## the small functions -/
variable {ns : List Int} {ah : AH} {ka : KA}
theorem m_start1 {l : T} {c : Nat} (h : ka (.bool (l.head? == some c)) ah) : aMeth (.str l) .startswith [.str [c]] ah ka := h
theorem bm_ends {l : T} {c : Nat} (h : ka (.bool (l.getLast? == some c)) ah) : aMeth (.str l) .endswith [.str [c]] ah ka := h
theorem bm_append {o : Nat} {v : AV} {xs : List AV} (e : getO ah o = some (.list xs)) (hl : xs.length ≤ 1000) (h : ka .none (setO ah o (.list (xs ++ [v])))) : aMeth (.ref o) .append [v] ah ka := ⟨xs, e, hl, h⟩
def tokL : T := match GN.tokens.v with | .str l => l | _ => []
theorem tok_in (c : Nat) : tokC c = decide (c ∈ tokL) := by
  by_cases h : c < 128
  · have all : ∀ c : Fin 128, tokC c.val = decide (c.val ∈ tokL) := by decide +kernel
    exact all ⟨c, h⟩
  · have h1 : c ∉ tokL := fun hc => by
      have all : tokL.all (fun x => decide (x < 128)) = true := by decide +kernel
      exact h (of_decide_eq_true (List.all_eq_true.mp all c hc))
    rw [decide_eq_false h1]
    have h2 : [33, 35, 36, 37, 38, 39, 42, 43, 45, 46, 94, 96, 124, 126].contains c = false := by
      cases q : [33, 35, 36, 37, 38, 39, 42, 43, 45, 46, 94, 96, 124, 126].contains c with
      | false => rfl
      | true => rw [List.contains_iff_mem] at q; simp at q; omega
    unfold tokC isW
    rw [h2]
    simp
    omega
theorem repl1_len (c : Nat) (z : T) (hz : z.length ≤ 2) : ∀ l : T, (repl1 c z l).length ≤ 2 * l.length
  | [] => Nat.le_refl _
  | x :: r => by
    have := repl1_len c z hz r
    show ((if x = c then z else [x]) ++ repl1 c z r).length ≤ _
    rw [List.length_append, List.length_cons]
    split
    · omega
    · simp only [List.length_cons, List.length_nil]; omega
theorem bo_qhv {l : T} {k : KS} (hl : l.length ≤ 1000) (hk : ∀ lo, k (.ret (.str (qhvF l))) lo []) : aS ns b_quote_header_value [some (.str l), some (.bool true), none, none] [] k := by
  unfold b_quote_header_value
  repeat walk_at "st"
  refine s_if (z := l.isEmpty) ?_ (fun h => ?_) (fun h => ?_)
  · intro k hk; repeat walk_at "st"
    refine u_str (by omega) ?_
    rw [Bool.not_not]; exact hk
  · have h : l = [] := List.isEmpty_iff.mp h
    subst h
    repeat walk_at "st"
    exact hk _
  · have h0 : l ≠ [] := fun e => by rw [e] at h; cases h
    repeat walk_at "st"
    refine s_if (z := true) ?_ (fun _ => ?_) (fun h => by cases h)
    · intro k hk; repeat walk_at "st"
      exact hk
    · repeat walk_at "st"
      refine s_if (z := l.all tokC) ?_ (fun h => ?_) (fun h => ?_)
      · intro k hk; repeat walk_at "st"
        refine And.intro (by omega : l.length ≤ 100000) ?_
        have e : tokC = fun c => decide (c ∈ tokL) := funext tok_in
        rw [e] at hk
        exact hk
      · repeat walk_at "st"
        have := hk [some (.str l), some (.bool true), some (.str l), some GN.tokens.v]
        unfold qhvF at this
        rw [if_neg h0, if_pos h] at this
        exact this
      · repeat walk_at "st"
        have h1 := repl1_len 92 [92, 92] (by decide) l
        have h2 := repl1_len 34 [92, 34] (by decide) (repl1 92 [92, 92] l)
        refine ⟨by omega, by decide, by decide, ?_⟩
        refine ⟨by omega, by decide, by decide, ?_⟩
        repeat walk_at "st"
        refine ⟨by decide, ?_⟩
        repeat walk_at "st"
        refine ⟨by omega, ?_⟩
        refine ⟨by simp only [List.length_append, List.length_cons, List.length_nil]; omega, ?_⟩
        repeat walk_at "st"
        refine ⟨by simp only [List.length_append, List.length_cons, List.length_nil]; omega, ?_⟩
        repeat walk_at "st"
        have := hk [some (.str l), some (.bool true), some (.str (repl1 34 [92, 34] (repl1 92 [92, 92] l))), some GN.tokens.v]
        unfold qhvF at this
        rw [if_neg h0, if_neg (by rw [h]; decide)] at this
        exact this
theorem bo_uqhv {l : T} {k : KS} (hl : l.length ≤ 100000) (hk : ∀ lo, k (.ret (.str (uqF l))) lo []) : aS ns b_unquote_header_value [some (.str l)] [] k := by
  unfold b_unquote_header_value
  refine s_if (z := decide ((l.length : Int) ≥ 2) && ((l.head? == some 34) && ((l.getLast? == some 34) && true))) ?_ (fun h => ?_) (fun h => ?_)
  · refine ev_bop (ev_and ?_ fun _ => ev_and ?_ fun _ => ev_and ?_ fun _ => ev_andN)
    · intro k hk; repeat walk_at "st"
      refine f_len (by omega) ?_
      repeat walk_at "st"
      exact hk
    · intro k hk; repeat walk_at "st"
      refine m_start1 ?_
      repeat walk_at "st"
      exact hk
    · intro k hk; repeat walk_at "st"
      refine bm_ends ?_
      repeat walk_at "st"
      exact hk
  · simp only [Bool.and_eq_true, decide_eq_true_eq, beq_iff_eq, and_true] at h
    obtain ⟨h1, h2, h3⟩ := h
    have h1 : 2 ≤ l.length := by omega
    repeat walk_at "st"
    refine And.intro h1 (And.intro hl ?_)
    have := hk [some (.str l)]
    unfold uqF at this
    rw [if_pos ⟨h1, h2, h3⟩] at this
    exact this
  · repeat walk_at "st"
    have := hk [some (.str l)]
    unfold uqF at this
    rw [if_neg] at this
    · exact this
    · rintro ⟨h1, h2, h3⟩
      rw [h2, h3, decide_eq_true (by omega)] at h
      cases h
theorem bo_tongues {k : KS} (hk : ∀ lo ah j, getO ah j = some (.list (tongues.map .str)) → k (.ret (.ref j)) lo ah) : aS ns b_law_tongues [] [] k := by
  unfold b_law_tongues
  repeat walk_at "st"
  exact ⟨by decide, hk _ _ _ rfl⟩
theorem bo_spaces {k : KS} (hk : ∀ lo ah j, getO ah j = some (.list (spaces.map .str)) → k (.ret (.ref j)) lo ah) : aS ns b_law_spaces [] [] k := by
  unfold b_law_spaces
  repeat walk_at "st"
  exact ⟨by decide, hk _ _ _ rfl⟩
theorem bo_quoted {l : T} {k : KS} (hl : l.length ≤ 100) (hk : ∀ lo, k (.ret (.str (quotedF l))) lo []) : aS ns b_law_quoted [some (.str l)] [] k := by
  unfold b_law_quoted
  repeat walk_at "st"
  have h1 := repl1_len 92 [92, 92] (by decide) l
  have h2 := repl1_len 34 [92, 34] (by decide) (repl1 92 [92, 92] l)
  refine ⟨by omega, by decide, by decide, ?_⟩
  refine ⟨by omega, by decide, by decide, ?_⟩
  refine b_addS (by simp only [List.length_cons, List.length_nil]; omega) ?_
  repeat walk_at "st"
  refine b_addS (by simp only [List.length_append, List.length_cons, List.length_nil]; omega) ?_
  exact hk _
theorem hexU_get {i : Nat} (h : i < 16) : ([48, 49, 50, 51, 52, 53, 54, 55, 56, 57, 65, 66, 67, 68, 69, 70] : T)[i]? = some (hexU i) := by
  have all : ∀ i : Fin 16, ([48, 49, 50, 51, 52, 53, 54, 55, 56, 57, 65, 66, 67, 68, 69, 70] : T)[i.val]? = some (hexU i.val) := by decide +kernel
  exact all ⟨i, h⟩
theorem hexL_get {i : Nat} (h : i < 16) : ([48, 49, 50, 51, 52, 53, 54, 55, 56, 57, 97, 98, 99, 100, 101, 102] : T)[i]? = some (hexL i) := by
  have all : ∀ i : Fin 16, ([48, 49, 50, 51, 52, 53, 54, 55, 56, 57, 97, 98, 99, 100, 101, 102] : T)[i.val]? = some (hexL i.val) := by decide +kernel
  exact all ⟨i, h⟩
theorem code1_len (kd : Int) (b : Bool) (c : Nat) : (code1 kd b c).length ≤ 9 := by
  unfold code1
  split
  · simp
  · split
    · simp
    · split
      · simp
      · simp
theorem bo_coded {l : T} {kd : Int} {b : Bool} {k : KS} (hl : l.length ≤ 100) (hc : ∀ c ∈ l, c < 256 ∨ c = 8364) (hk : ∀ lo, k (.ret (.str (codedF l kd b))) lo []) : aS ns b_law_coded [some (.str l), some (.int kd), some (.bool b), none, none] [] k := by
  unfold b_law_coded
  repeat walk_at "st"
  refine ⟨by omega, ?_⟩
  refine loop_ind (fun r lo ah => ∃ out sg, lo = [some (.str l), some (.int kd), some (.bool b), some (.str out), sg] ∧ ah = [] ∧ (∀ c ∈ r, c < 256 ∨ c = 8364) ∧ out.length + 9 * r.length ≤ 100000 ∧ (∀ lo, k (.ret (.str (out ++ codedF r kd b))) lo [])) ?_ ?_ l _ _ ⟨[], none, rfl, rfl, hc, by simp only [List.length_nil]; omega, hk⟩
  · rintro lo ah ⟨out, sg, rfl, rfl, _, _, hk⟩
    repeat walk_at "st"
    have := hk [some (.str l), some (.int kd), some (.bool b), some (.str out), sg]
    rw [show codedF [] kd b = [] from rfl, List.append_nil] at this
    exact this
  · rintro c r ih lo ah ⟨out, sg, rfl, rfl, hc, hlen, hk⟩
    · skip
      have hk' : ∀ lo, k (.ret (.str ((out ++ code1 kd b c) ++ codedF r kd b))) lo [] := fun lo => by
        rw [List.append_assoc]; exact hk lo
      have hlen' : (out ++ code1 kd b c).length + 9 * r.length ≤ 100000 := by
        have := code1_len kd b c
        rw [List.length_append]
        simp only [List.length_cons] at hlen
        omega
      have z : ∀ sg, loopL _ r [some (.str l), some (.int kd), some (.bool b), some (.str (out ++ code1 kd b c)), sg] [] _ := fun sg => ih _ _ ⟨out ++ code1 kd b c, sg, rfl, rfl, (fun x hx => hc x (List.mem_cons_of_mem _ hx)), hlen', hk'⟩
      have hcc := hc c (List.mem_cons_self ..)
      simp only [List.length_cons] at hlen
      refine s_if (z := b && (decide (c ∈ [97, 90, 55, 45]) && true)) ?_ (fun h => ?_) (fun h => ?_)
      · refine ev_bop (ev_and ?_ fun _ => ev_and ?_ fun _ => ev_andN)
        · intro k hk; repeat walk_at "st"
          exact hk
        · intro k hk; repeat walk_at "st"
          exact hk
      · have h : b = true ∧ c ∈ [97, 90, 55, 45] := by simpa using h
        have e : code1 kd b c = [c] := by unfold code1; rw [if_pos h]
        rw [e] at z
        repeat walk_at "st"
        refine g_addS (by simp only [List.length_cons, List.length_nil]; omega) ?_
        repeat walk_at "st"
        exact z _
      · have h : ¬ (b = true ∧ c ∈ [97, 90, 55, 45]) := fun x => by rw [x.1, decide_eq_true x.2] at h; cases h
        refine s_if (z := decide ([c] = [8364])) ?_ (fun h2 => ?_) (fun h2 => ?_)
        · intro k hk; repeat walk_at "st"
          exact hk
        · have h2 : c = 8364 := List.singleton_inj.mp (of_decide_eq_true h2)
          have e : code1 kd b c = [37, 69, 50, 37, 56, 50, 37, 97, 99] := by unfold code1; rw [if_neg h, if_pos h2]
          rw [e] at z
          repeat walk_at "st"
          refine g_addS (by simp only [List.length_cons, List.length_nil]; omega) ?_
          repeat walk_at "st"
          exact z _
        · have h2 : c ≠ 8364 := fun x => of_decide_eq_false h2 (by rw [x])
          refine s_if (z := decide ([c] = [233]) && (decide (kd = 0) && true)) ?_ (fun h3 => ?_) (fun h3 => ?_)
          · refine ev_bop (ev_and ?_ fun _ => ev_and ?_ fun _ => ev_andN)
            · intro k hk; repeat walk_at "st"
              exact hk
            · intro k hk; repeat walk_at "st"
              exact hk
          · have h3 : c = 233 ∧ kd = 0 := by simpa using h3
            have e : code1 kd b c = [37, 99, 51, 37, 65, 57] := by unfold code1; rw [if_neg h, if_neg h2, if_pos h3]
            rw [e] at z
            repeat walk_at "st"
            refine g_addS (by simp only [List.length_cons, List.length_nil]; omega) ?_
            repeat walk_at "st"
            exact z _
          · have h3 : ¬ (c = 233 ∧ kd = 0) := fun x => by rw [x.1, decide_eq_true x.2] at h3; cases h3
            have e : code1 kd b c = [37, hexU (c / 16), hexL (c % 16)] := by unfold code1; rw [if_neg h, if_neg h2, if_neg h3]
            rw [e] at z
            have hlt : c < 256 := by omega
            repeat walk_at "st"
            refine b_div (by decide) (by decide) ?_
            refine x_str (c := hexU (c / 16)) (by omega) (by omega) (by rw [show ((c : Int) / 16).toNat = c / 16 by omega]; exact hexU_get (by omega)) ?_
            refine b_addS (by simp) ?_
            repeat walk_at "st"
            refine b_mod (by decide) ?_
            refine x_str (c := hexL (c % 16)) (by omega) (by omega) (by rw [show ((c : Int) % 16).toNat = c % 16 by omega]; exact hexL_get (by omega)) ?_
            refine b_addS (by simp) ?_
            refine g_addS (by simp only [List.length_append, List.length_cons, List.length_nil]; omega) ?_
            repeat walk_at "st"
            exact z _
end Mine
end
section
open PySem PySem.Spec PySem.Calls PyProof.Rows PySem.W PySem.Builtin
set_option maxRecDepth 100000
namespace Mine
local macro_rules | `(tactic| walk_at "st") => `(tactic| first
  | with_reducible refine e_loc (by with_unfolding_all rfl) ?_ | with_reducible refine e_cstr ?_ | with_reducible refine e_cint ?_ | with_reducible refine e_cnone ?_ | with_reducible refine e_cbool ?_ | with_reducible refine e_cbytes ?_ | with_reducible refine e_glob ?_
  | with_reducible refine e_bin ?_ | with_reducible refine e_cmp ?_ | with_reducible refine e_not ?_ | with_reducible refine e_idx ?_ | with_reducible refine e_slAB ?_ | with_reducible refine e_slA ?_ | with_reducible refine e_slB ?_
  | with_reducible refine e_call ?_ | with_reducible refine e_ucall ?_ | with_reducible refine e_ucallK ?_ | with_reducible refine e_meth ?_ | with_reducible refine e_repl ?_ | with_reducible refine e_wal ?_ | with_reducible refine e_tup ?_ | with_reducible refine e_list ?_
  | with_reducible refine e_bytes1 ?_ | with_reducible refine e_sorted2 ?_ | with_reducible refine e_neNil ?_ | with_reducible refine e_dict0 ?_ | with_reducible refine e_fmt ?_ | with_reducible refine e_fstr (by with_unfolding_all rfl) ?_ | with_reducible refine e_sp ?_
  | with_reducible refine el_nil ?_ | with_reducible refine el_cons ?_ | with_reducible refine j_nil ?_ | with_reducible refine j_cons ?_ | with_reducible refine t_not ?_ | with_reducible refine t_cmp ?_ | with_reducible refine t_val (by with_unfolding_all rfl) ?_
  | with_reducible refine s_nil ?_ | with_reducible refine s_asg ?_ | with_reducible refine s_asg2 ?_ | with_reducible refine s_tupS ?_ | with_reducible refine s_tupK ?_ | with_reducible refine s_unp ?_ | with_reducible refine s_setI ?_ | with_reducible refine s_aug (by with_unfolding_all rfl) ?_ | with_reducible refine s_ex ?_
  | with_reducible refine s_forS ?_ | with_reducible refine s_forR ?_ | with_reducible refine s_forT ?_ | with_reducible refine s_forD ?_ | with_reducible refine s_sp ?_ | with_reducible refine s_ret ?_ | with_reducible refine s_brk ?_ | with_reducible refine s_cnt ?_ | with_reducible refine q_next ?_ | with_reducible refine q_brk ?_ | with_reducible refine q_cont ?_ | with_reducible refine q_ret ?_
  | with_reducible refine b_addI ?_ | with_reducible refine b_subI ?_ | with_reducible refine g_addI ?_ | with_reducible refine c_eqI ?_ | with_reducible refine c_eqS ?_ | with_reducible refine c_neS ?_ | with_reducible refine c_lt ?_ | with_reducible refine c_gt ?_ | with_reducible refine c_ge ?_ | with_reducible refine c_inS ?_
  | with_reducible refine c_is (by with_unfolding_all rfl) ?_ | with_reducible refine c_isn (by with_unfolding_all rfl) ?_ | with_reducible refine u_none ?_ | with_reducible refine u_bool ?_ | with_reducible refine u_mt ?_ | with_reducible refine f_ord ?_ | with_reducible refine f_strS ?_
  | with_reducible refine ⟨_, (by with_unfolding_all rfl : rcv _ _ _ = some _), ?_⟩ | with_reducible refine And.intro (by with_unfolding_all rfl : rcv _ _ _ = some _) ?_)
/-! ## the pieces of a text -/
variable {ns : List Int} {ah : AH} {ka : KA}
theorem x_list {o : Nat} {i : Int} {xs : List AV} {v : AV} {q : AV → Prop} (h0 : 0 ≤ i) (e : getO ah o = some (.list xs)) (hl : xs.length ≤ 1000) (hv : xs[i.toNat]? = some v) (h : q v) : aIdx (.ref o) (.int i) ah q := ⟨h0, xs, v, e, hl, hv, h⟩
theorem bo_pieces {l : T} {d b : Int} {k : KS} (hl : l.length ≤ 100) (hd : 0 ≤ d) (hb : 0 ≤ b) (hk : ∀ lo ah j, getO ah j = some (.list ((piecesF l d b).map .str)) → k (.ret (.ref j)) lo ah) : aS ns b_law_pieces [some (.str l), some (.int d), some (.int b), none] [] k := by
  unfold b_law_pieces
  repeat walk_at "st"
  refine f_len (by omega) ?_
  repeat walk_at "st"
  refine b_mod (by omega) ?_
  repeat walk_at "st"
  refine b_div (by decide) (by decide) ?_
  repeat walk_at "st"
  refine f_len (by omega) ?_
  repeat walk_at "st"
  refine b_mod (by omega) ?_
  have hx0 : 0 ≤ d % ((l.length : Int) + 1) := Int.emod_nonneg _ (by omega)
  have hx1 : d % ((l.length : Int) + 1) < l.length + 1 := Int.emod_lt_of_pos _ (by omega)
  have hy0 : 0 ≤ d / 7 % ((l.length : Int) + 1) := Int.emod_nonneg _ (by omega)
  have hy1 : d / 7 % ((l.length : Int) + 1) < l.length + 1 := Int.emod_lt_of_pos _ (by omega)
  have hc : cutsF l d = ((min (d % ((l.length : Int) + 1)) (d / 7 % ((l.length : Int) + 1))).toNat, (max (d % ((l.length : Int) + 1)) (d / 7 % ((l.length : Int) + 1))).toNat) := by
    unfold cutsF
    simp only [Prod.mk.injEq]
    constructor <;> omega
  generalize d % ((l.length : Int) + 1) = x at hx0 hx1 hc ⊢
  generalize d / 7 % ((l.length : Int) + 1) = y at hy0 hy1 hc ⊢
  dsimp only
  have hm0 : 0 ≤ min x y := by omega
  have hm1 : min x y ≤ 1000 := by omega
  have hM0 : 0 ≤ max x y := by omega
  have hM1 : max x y ≤ 1000 := by omega
  generalize min x y = m at hc hm0 hm1 ⊢
  generalize max x y = n at hc hM0 hM1 ⊢
  refine s_if (z := decide (b % 3 = 0)) ?_ (fun h => ?_) (fun h => ?_)
  · intro k hk; repeat walk_at "st"
    refine b_mod (by decide) ?_
    repeat walk_at "st"
    exact hk
  · have h : b % 3 = 0 := of_decide_eq_true h
    repeat walk_at "st"
    refine ⟨by simp, ?_⟩
    refine hk _ _ _ (?_ : getO _ _ = _)
    unfold piecesF
    rw [if_pos h]
    rfl
  · have h : ¬ b % 3 = 0 := of_decide_eq_false h
    repeat walk_at "st"
    refine s_if (z := decide (b % 3 = 1)) ?_ (fun h1 => ?_) (fun h1 => ?_)
    · intro k hk; repeat walk_at "st"
      refine b_mod (by decide) ?_
      repeat walk_at "st"
      exact hk
    · have h1 : b % 3 = 1 := of_decide_eq_true h1
      repeat walk_at "st"
      refine x_list (by decide) rfl (by simp) rfl ?_
      refine ⟨by omega, by omega, by omega, ?_⟩
      repeat walk_at "st"
      refine x_list (by decide) rfl (by simp) rfl ?_
      refine ⟨by omega, by omega, by omega, ?_⟩
      repeat walk_at "st"
      refine ⟨by simp, ?_⟩
      refine hk _ _ _ (?_ : getO _ _ = _)
      unfold piecesF
      rw [if_neg h, if_pos h1, hc]
      rfl
    · have h1 : ¬ b % 3 = 1 := of_decide_eq_false h1
      repeat walk_at "st"
      refine x_list (by decide) rfl (by simp) rfl ?_
      refine ⟨by omega, by omega, by omega, ?_⟩
      repeat walk_at "st"
      refine x_list (by decide) rfl (by simp) rfl ?_
      repeat walk_at "st"
      refine x_list (by decide) rfl (by simp) rfl ?_
      refine ⟨by omega, by omega, by omega, by omega, by omega, ?_⟩
      repeat walk_at "st"
      refine x_list (by decide) rfl (by simp) rfl ?_
      refine ⟨by omega, by omega, by omega, ?_⟩
      repeat walk_at "st"
      refine ⟨by simp, ?_⟩
      refine hk _ _ _ (?_ : getO _ _ = _)
      unfold piecesF
      rw [if_neg h, if_neg h1, hc]
      rfl
end Mine
end
section
open PySem PySem.Spec PySem.Calls PyProof.Rows PySem.W PySem.Builtin
set_option maxRecDepth 100000
namespace Mine
local macro_rules | `(tactic| walk_at "st") => `(tactic| first
  | with_reducible refine e_loc (by with_unfolding_all rfl) ?_ | with_reducible refine e_cstr ?_ | with_reducible refine e_cint ?_ | with_reducible refine e_cnone ?_ | with_reducible refine e_cbool ?_ | with_reducible refine e_cbytes ?_ | with_reducible refine e_glob ?_
  | with_reducible refine e_bin ?_ | with_reducible refine e_cmp ?_ | with_reducible refine e_not ?_ | with_reducible refine e_idx ?_ | with_reducible refine e_slAB ?_ | with_reducible refine e_slA ?_ | with_reducible refine e_slB ?_
  | with_reducible refine e_call ?_ | with_reducible refine e_ucall ?_ | with_reducible refine e_ucallK ?_ | with_reducible refine e_meth ?_ | with_reducible refine e_repl ?_ | with_reducible refine e_wal ?_ | with_reducible refine e_tup ?_ | with_reducible refine e_list ?_
  | with_reducible refine e_bytes1 ?_ | with_reducible refine e_sorted2 ?_ | with_reducible refine e_neNil ?_ | with_reducible refine e_dict0 ?_ | with_reducible refine e_fmt ?_ | with_reducible refine e_fstr (by with_unfolding_all rfl) ?_ | with_reducible refine e_sp ?_
  | with_reducible refine el_nil ?_ | with_reducible refine el_cons ?_ | with_reducible refine j_nil ?_ | with_reducible refine j_cons ?_ | with_reducible refine t_not ?_ | with_reducible refine t_cmp ?_ | with_reducible refine t_val (by with_unfolding_all rfl) ?_
  | with_reducible refine s_nil ?_ | with_reducible refine s_asg ?_ | with_reducible refine s_asg2 ?_ | with_reducible refine s_tupS ?_ | with_reducible refine s_tupK ?_ | with_reducible refine s_unp ?_ | with_reducible refine s_setI ?_ | with_reducible refine s_aug (by with_unfolding_all rfl) ?_ | with_reducible refine s_ex ?_
  | with_reducible refine s_forS ?_ | with_reducible refine s_forR ?_ | with_reducible refine s_forT ?_ | with_reducible refine s_forD ?_ | with_reducible refine s_sp ?_ | with_reducible refine s_ret ?_ | with_reducible refine s_brk ?_ | with_reducible refine s_cnt ?_ | with_reducible refine q_next ?_ | with_reducible refine q_brk ?_ | with_reducible refine q_cont ?_ | with_reducible refine q_ret ?_
  | with_reducible refine b_addI ?_ | with_reducible refine b_subI ?_ | with_reducible refine g_addI ?_ | with_reducible refine c_eqI ?_ | with_reducible refine c_eqS ?_ | with_reducible refine c_neS ?_ | with_reducible refine c_lt ?_ | with_reducible refine c_gt ?_ | with_reducible refine c_ge ?_ | with_reducible refine c_inS ?_
  | with_reducible refine c_is (by with_unfolding_all rfl) ?_ | with_reducible refine c_isn (by with_unfolding_all rfl) ?_ | with_reducible refine u_none ?_ | with_reducible refine u_bool ?_ | with_reducible refine u_mt ?_ | with_reducible refine f_ord ?_ | with_reducible refine f_strS ?_
  | with_reducible refine ⟨_, (by with_unfolding_all rfl : rcv _ _ _ = some _), ?_⟩ | with_reducible refine And.intro (by with_unfolding_all rfl : rcv _ _ _ = some _) ?_)
/-! ## one text written -/
variable {ns : List Int} {ah : AH} {ka : KA}
theorem getO_last (ah : AH) (o : AO) : getO (ah ++ [o]) ah.length = some o := by
  rw [getO_eq, List.getElem?_append_right (Nat.le_refl _), Nat.sub_self]; rfl
theorem pieces_sub {l : T} {d b : Int} {p : T} (h : p ∈ piecesF l d b) : p.length ≤ l.length ∧ ∀ c ∈ p, c ∈ l := by
  unfold piecesF at h
  have ht : ∀ n, (l.take n).length ≤ l.length ∧ ∀ c ∈ l.take n, c ∈ l := fun n => ⟨by rw [List.length_take]; omega, fun c h => List.mem_of_mem_take h⟩
  have hd : ∀ n, (l.drop n).length ≤ l.length ∧ ∀ c ∈ l.drop n, c ∈ l := fun n => ⟨by rw [List.length_drop]; omega, fun c h => List.mem_of_mem_drop h⟩
  split at h
  · simp only [List.mem_singleton] at h; subst h; exact ⟨Nat.le_refl _, fun _ h => h⟩
  · split at h
    · simp only [List.mem_cons, List.not_mem_nil, or_false] at h
      rcases h with rfl | rfl
      · exact ht _
      · exact hd _
    · simp only [List.mem_cons, List.not_mem_nil, or_false] at h
      rcases h with rfl | rfl | rfl
      · exact ht _
      · exact ⟨by rw [List.length_drop, List.length_take]; omega, fun c h => List.mem_of_mem_take (List.mem_of_mem_drop h)⟩
      · exact hd _
theorem drop_consP {l : List T} {p : Nat} (h : p < l.length) : l.drop p = l.getD p [] :: l.drop (p + 1) := by
  rw [List.drop_eq_getElem_cons h, List.getD_eq_getElem?_getD, List.getElem?_eq_getElem h]; rfl
theorem pieces_len (l : T) (d b : Int) : 1 ≤ (piecesF l d b).length ∧ (piecesF l d b).length ≤ 3 := by
  unfold piecesF
  split
  · exact ⟨by simp, by simp⟩
  · split
    · exact ⟨by simp, by simp⟩
    · exact ⟨by simp, by simp⟩
theorem kind_lt {l : T} {d : Int} (_ : 0 ≤ d) : kindF l d = 0 ∨ kindF l d = 1 ∨ kindF l d = 2 := by
  unfold kindF
  split
  · exact .inl rfl
  · split <;> omega
theorem coded_len (l : T) (kd : Int) (b : Bool) : (codedF l kd b).length ≤ 9 * l.length := by
  induction l with
  | nil => exact Nat.le_refl _
  | cons c r ih =>
    have := code1_len kd b c
    show (code1 kd b c ++ codedF r kd b).length ≤ _
    rw [List.length_append, List.length_cons]
    omega
theorem quoted_len (l : T) : (quotedF l).length ≤ 4 * l.length + 2 := by
  have h1 := repl1_len 92 [92, 92] (by decide) l
  have h2 := repl1_len 34 [92, 34] (by decide) (repl1 92 [92, 92] l)
  unfold quotedF esc
  simp only [List.length_append, List.length_cons, List.length_nil]
  omega
theorem chs_one {kd : Int} (h : kd = 0 ∨ kd = 1 ∨ kd = 2) {q : AV → Prop} (hq : q (.con (.ref (105 + kd.toNat)))) : aIdx (.con (.ref 108)) (.int kd) ah q := by
  rcases h with rfl | rfl | rfl <;> exact ⟨by decide, by decide, _, _, rfl, rfl, hq⟩
theorem chs_two {kd e : Int} (h : kd = 0 ∨ kd = 1 ∨ kd = 2) (h2 : e = 0 ∨ e = 1) {q : AV → Prop} (hq : q (.str ((charsets.getD kd.toNat []).getD e.toNat []))) : aIdx (.con (.ref (105 + kd.toNat))) (.int e) ah q := by
  rcases h with rfl | rfl | rfl <;> rcases h2 with rfl | rfl <;> exact ⟨by decide, by decide, _, _, rfl, rfl, hq⟩
theorem chs_len (n m : Nat) : ((charsets.getD n []).getD m []).length ≤ 10 := by
  match n, m with
  | 0, 0 => decide
  | 0, 1 => decide
  | 0, _ + 2 => exact Nat.zero_le _
  | 1, 0 => decide
  | 1, 1 => decide
  | 1, _ + 2 => exact Nat.zero_le _
  | 2, 0 => decide
  | 2, 1 => decide
  | 2, _ + 2 => exact Nat.zero_le _
  | _ + 3, _ => exact Nat.zero_le _
theorem u_tongues (h : ka (.ref ah.length) (ah ++ [.list (tongues.map .str)])) : aU .tongues [] ah ka := h
theorem tg_get {e : Int} (h : e = 0 ∨ e = 1 ∨ e = 2) : (tongues.map AV.str)[e.toNat]? = some (.str (tongues.getD e.toNat [])) := by
  rcases h with rfl | rfl | rfl <;> rfl
theorem tg_len (n : Nat) : (tongues.getD n []).length ≤ 5 := by
  match n with
  | 0 => decide
  | 1 => decide
  | 2 => decide
  | _ + 3 => exact Nat.zero_le _
theorem bo_written {nm l : T} {d b : Int} {k : KS} (hn : nm.length ≤ 100) (hl : l.length ≤ 100) (hc : ∀ c ∈ l, c < 256 ∨ c = 8364) (hd : 0 ≤ d) (hb : 0 ≤ b)
    (hk : ∀ lo ah j, getO ah j = some (.list ((writtenF nm l d b).map .str)) → k (.ret (.ref j)) lo ah) :
    aS ns b_law_written [some (.str nm), some (.str l), some (.int d), some (.int b), none, none, none, none, none, none, none, none, none] [] k := by
  unfold b_law_written
  repeat walk_at "st"
  have hkd := kind_lt (l := l) hd
  refine e_ev (v := .int (kindF l d)) (fun k hk => ?_) ?_
  · unfold kindF at hk
    refine e_if (z := decide (8364 ∈ l)) ?_ (fun h => ?_) (fun h => ?_)
    · intro k hk; repeat walk_at "st"
      exact hk
    · rw [if_pos (of_decide_eq_true h)] at hk
      repeat walk_at "st"
      exact hk
    · rw [if_neg (of_decide_eq_false h)] at hk
      refine e_if (z := decide (233 ∈ l)) ?_ (fun h => ?_) (fun h => ?_)
      · intro k hk; repeat walk_at "st"
        exact hk
      · rw [if_pos (of_decide_eq_true h)] at hk
        repeat walk_at "st"
        refine b_mod (by decide) ?_
        exact hk
      · rw [if_neg (of_decide_eq_false h)] at hk
        repeat walk_at "st"
        refine b_mod (by decide) ?_
        exact hk
  repeat walk_at "st"
  refine ⟨hl, hd, hb, ?_⟩
  repeat walk_at "st"
  refine ⟨by simp, ?_⟩
  repeat walk_at "st"
  refine ⟨rfl, ?_⟩
  repeat walk_at "st"
  generalize hps : piecesF l d b = ps
  have hp3 := hps ▸ pieces_len l d b
  have hsub : ∀ p ∈ ps, p.length ≤ l.length ∧ ∀ c ∈ p, c ∈ l := fun p hp => pieces_sub (hps ▸ hp)
  have hfin : writtenF nm l d b = writeL nm l d b ps.length 0 false ps := by unfold writtenF; rw [hps]
  have hget : ∀ (D : AO) (ex : AH), getO (.list (ps.map .str) :: D :: ex) 0 = some (.list (ps.map .str)) := fun _ _ => rfl
  generalize hkk : kindF l d = kd at hkd ⊢
  refine ⟨ps.map .str, rfl, by rw [List.length_map]; omega, ?_⟩
  refine ⟨by omega, by rw [List.length_map]; omega, ?_⟩
  refine loop_ind (fun r lo ah => ∃ n D told o8 o9 o10 o11 o12 ex, r = (List.range ps.length).drop n ∧ lo = [some (.str nm), some (.str l), some (.int d), some (.int b), some (.int kd), some (.ref 0), some (.bool told), some (.ref 1), o8, o9, o10, o11, o12] ∧
      ah = .list (ps.map .str) :: .list (D.map .str) :: ex ∧ D ++ writeL nm l d b ps.length n told (ps.drop n) = writtenF nm l d b ∧ D.length = n ∧ n ≤ ps.length) ?_ ?_ _ _ _
      ⟨0, [], false, none, none, none, none, none, [], by rw [List.length_map]; rfl, rfl, rfl, by rw [hfin]; rfl, rfl, Nat.zero_le _⟩
  · rintro lo ah ⟨n, D, told, o8, o9, o10, o11, o12, ex, hr, rfl, rfl, hD, hDn, hn⟩
    have hr : ps.length ≤ n := by have := hr.symm; rwa [List.drop_eq_nil_iff, List.length_range] at this
    repeat walk_at "st"
    refine hk _ _ _ ?_
    rw [List.drop_eq_nil_of_le hr, show writeL nm l d b ps.length n told [] = [] from rfl, List.append_nil] at hD
    rw [← hD]
    rfl
  · rintro x r ih lo ah ⟨n, D, told, o8, o9, o10, o11, o12, ex, hr, rfl, rfl, hD, hDn, hn⟩
    have hx : x = n ∧ n < ps.length ∧ r = (List.range ps.length).drop (n + 1) := by
      have h2 := congrArg List.head? hr
      rw [List.head?_drop] at h2
      obtain ⟨h4, h5⟩ := List.getElem?_eq_some_iff.mp h2.symm
      rw [List.length_range] at h4
      rw [List.getElem_range] at h5
      have h6 := congrArg List.tail hr
      rw [List.tail_drop] at h6
      exact ⟨h5.symm, h4, h6⟩
    obtain ⟨rfl, hlt, hr'⟩ := hx
    have hpx := drop_consP (l := ps) hlt
    generalize hpe : ps.getD x [] = piece at hpx
    have hmem : piece ∈ ps := by
      have : piece ∈ ps.drop x := by rw [hpx]; exact List.mem_cons_self ..
      exact List.mem_of_mem_drop this
    obtain ⟨hpl, hpc⟩ := hsub piece hmem
    have hgx : (ps.map AV.str)[((x : Int)).toNat]? = some (.str piece) := by
      rw [Int.toNat_natCast, List.getElem?_map]
      have : ps[x]? = some piece := by
        have := congrArg List.head? hpx
        rwa [List.head?_drop] at this
      rw [this]; rfl
    rw [hpx] at hD
    simp only [writeL] at hD
    rw [List.append_cons] at hD
    have hpow : (0 : Int) < 4 ^ x ∧ (4 : Int) ^ x ≤ 16 := by
      have : x = 0 ∨ x = 1 ∨ x = 2 := by omega
      rcases this with rfl | rfl | rfl <;> decide
    have z : ∀ (o8 o9 o10 o11 o12 : Option AV) (ex : AH), loopL _ r [some (.str nm), some (.str l), some (.int d), some (.int b), some (.int kd), some (.ref 0), some (.bool (write1 nm l d b ps.length told x piece).2), some (.ref 1), o8, o9, o10, o11, o12]
        (.list (ps.map .str) :: .list ((D ++ [(write1 nm l d b ps.length told x piece).1]).map .str) :: ex) _ := fun o8 o9 o10 o11 o12 ex => ih _ _ ⟨x + 1, D ++ [(write1 nm l d b ps.length told x piece).1], _, o8, o9, o10, o11, o12, ex, hr', rfl, rfl, hD, by rw [List.length_append, hDn]; rfl, hlt⟩
    clear ih hD
    have hDl : D.length ≤ 3 := by omega
    repeat walk_at "st"
    refine x_list (by omega) rfl (by rw [List.length_map]; omega) hgx ?_
    repeat walk_at "st"
    refine b_div (by decide) (by decide) ?_
    repeat walk_at "st"
    refine ⟨by decide, by decide, by omega, by omega, ?_⟩
    refine b_div hpow.1 (by have := hpow.2; show (4 : Int) ^ x < 1000000000; omega) ?_
    repeat walk_at "st"
    refine b_mod (by decide) ?_
    repeat walk_at "st"
    refine ⟨rfl, ?_⟩
    generalize hmk : (if ps.length = 1 then nm else nm ++ [42] ++ [48 + x] : T) = mk
    have hmkl : mk.length ≤ 102 := by
      rw [← hmk]; split
      · omega
      · simp only [List.length_append, List.length_cons, List.length_nil]; omega
    have hway : b / 3 / 4 ^ (x : Int).toNat % 4 = b / 3 / 4 ^ x % 4 := rfl
    rw [hway]
    have hw : write1 nm l d b ps.length told x piece = if b / 3 / 4 ^ x % 4 > 1 ∧ piece ≠ [] then
      (mk ++ [42, 61] ++ (if told = true ∧ b / 3 / 4 ^ x % 4 = 3 then [] else ((charsets.getD kd.toNat []).getD (d / 5 % 2).toNat []) ++ [39] ++ tongues.getD (d / 11 % 3).toNat [] ++ [39]) ++ codedF piece kd (decide (d / 3 % 2 = 0)), true)
      else if b / 3 / 4 ^ x % 4 = 1 ∧ piece ≠ [] ∧ piece.all plainC = true then (mk ++ [61] ++ piece, told) else (mk ++ [61] ++ quotedF piece, told) := by
      unfold write1
      rw [hkk, hmk]
    rw [hw] at z
    clear hw hway
    generalize b / 3 / 4 ^ x % 4 = way at z ⊢
    repeat walk_at "st"
    refine e_ev (v := .str mk) (fun k hk => ?_) ?_
    · refine e_if (z := decide (((ps.map AV.str).length : Int) = 1)) ?_ (fun h => ?_) (fun h => ?_)
      · intro k hk; repeat walk_at "st"
        refine ⟨_, rfl, by rw [List.length_map]; omega, ?_⟩
        repeat walk_at "st"
        exact hk
      · have h : ps.length = 1 := by have := of_decide_eq_true h; rw [List.length_map] at this; omega
        rw [if_pos h] at hmk
        subst hmk
        repeat walk_at "st"
        exact hk
      · have h : ¬ ps.length = 1 := by have := of_decide_eq_false h; rw [List.length_map] at this; omega
        rw [if_neg h] at hmk
        subst hmk
        repeat walk_at "st"
        refine b_addS (by simp only [List.length_cons, List.length_nil]; omega) ?_
        repeat walk_at "st"
        refine ⟨by omega, by omega, ?_⟩
        refine b_addS (by simp only [List.length_append, List.length_cons, List.length_nil]; omega) ?_
        exact hk
    · clear hmk
      repeat walk_at "st"
      have hcl := coded_len piece kd (decide (d / 3 % 2 = 0))
      have hql := quoted_len piece
      refine s_if (z := decide (way > 1) && (decide (piece ≠ []) && true)) ?_ (fun h => ?_) (fun h => ?_)
      · refine ev_bop (ev_and ?_ fun _ => ev_and ?_ fun _ => ev_andN)
        · intro k hk; repeat walk_at "st"
          exact hk
        · intro k hk; repeat walk_at "st"
          exact hk
      · have h : way > 1 ∧ piece ≠ [] := by simpa using h
        rw [if_pos h] at z
        repeat walk_at "st"
        refine e_if (z := told && (decide (way = 3) && true)) ?_ (fun h1 => ?_) (fun h1 => ?_)
        · refine ev_bop (ev_and ?_ fun _ => ev_and ?_ fun _ => ev_andN)
          · intro k hk; repeat walk_at "st"
            exact hk
          · intro k hk; repeat walk_at "st"
            exact hk
        · have h1 : told = true ∧ way = 3 := by simpa using h1
          rw [if_pos h1, List.map_append] at z
          repeat walk_at "st"
          refine b_addS (by simp only [List.length_cons, List.length_nil]; omega) ?_
          repeat walk_at "st"
          refine b_addS (by simp only [List.length_append, List.length_cons, List.length_nil]; omega) ?_
          repeat walk_at "st"
          refine b_div (by decide) (by decide) ?_
          repeat walk_at "st"
          refine b_mod (by decide) ?_
          repeat walk_at "st"
          refine ⟨by omega, fun c h => hc c (hpc c h), ?_⟩
          refine b_addS (by simp only [List.length_append, List.length_cons, List.length_nil]; omega) ?_
          repeat walk_at "st"
          refine bm_append rfl (by rw [List.length_map]; omega) ?_
          repeat walk_at "st"
          exact z _ _ _ _ _ _
        · have h1 : ¬ (told = true ∧ way = 3) := fun q => by rw [q.1, decide_eq_true q.2] at h1; cases h1
          rw [if_neg h1, List.map_append] at z
          have hchl := chs_len kd.toNat (d / 5 % 2).toNat
          have htgl := tg_len (d / 11 % 3).toNat
          repeat walk_at "st"
          refine chs_one hkd ?_
          repeat walk_at "st"
          refine b_div (by decide) (by decide) ?_
          repeat walk_at "st"
          refine b_mod (by decide) ?_
          refine chs_two hkd (by omega) ?_
          generalize (charsets.getD kd.toNat []).getD (d / 5 % 2).toNat [] = cs at hchl z ⊢
          repeat walk_at "st"
          refine b_addS (by simp only [List.length_cons, List.length_nil]; omega) ?_
          repeat walk_at "st"
          refine u_tongues ?_
          repeat walk_at "st"
          refine b_div (by decide) (by decide) ?_
          repeat walk_at "st"
          refine b_mod (by decide) ?_
          refine x_list (by omega) (getO_last _ _) (by decide) (tg_get (by omega)) ?_
          generalize tongues.getD (d / 11 % 3).toNat [] = tg at htgl z ⊢
          refine b_addS (by simp only [List.length_append, List.length_cons, List.length_nil]; omega) ?_
          repeat walk_at "st"
          refine b_addS (by simp only [List.length_append, List.length_cons, List.length_nil]; omega) ?_
          repeat walk_at "st"
          refine b_addS (by simp only [List.length_cons, List.length_nil]; omega) ?_
          repeat walk_at "st"
          refine b_addS (by simp only [List.length_append, List.length_cons, List.length_nil]; omega) ?_
          repeat walk_at "st"
          refine b_div (by decide) (by decide) ?_
          repeat walk_at "st"
          refine b_mod (by decide) ?_
          repeat walk_at "st"
          refine ⟨by omega, fun c h => hc c (hpc c h), ?_⟩
          refine b_addS (by simp only [List.length_append, List.length_cons, List.length_nil]; omega) ?_
          repeat walk_at "st"
          refine bm_append rfl (by rw [List.length_map]; omega) ?_
          repeat walk_at "st"
          exact z _ _ _ _ _ _
      · have h : ¬ (way > 1 ∧ piece ≠ []) := fun q => by rw [decide_eq_true q.1, decide_eq_true q.2] at h; cases h
        rw [if_neg h] at z
        refine s_if (z := decide (way = 1) && (decide (piece ≠ []) && (piece.all plainC && true))) ?_ (fun h1 => ?_) (fun h1 => ?_)
        · refine ev_bop (ev_and ?_ fun _ => ev_and ?_ fun _ => ev_and ?_ fun _ => ev_andN)
          · intro k hk; repeat walk_at "st"
            exact hk
          · intro k hk; repeat walk_at "st"
            exact hk
          · intro k hk; repeat walk_at "st"
            exact ⟨by omega, hk⟩
        · have h1 : way = 1 ∧ piece ≠ [] ∧ piece.all plainC = true := by simpa using h1
          rw [if_pos h1, List.map_append] at z
          repeat walk_at "st"
          refine b_addS (by simp only [List.length_cons, List.length_nil]; omega) ?_
          repeat walk_at "st"
          refine b_addS (by simp only [List.length_append, List.length_cons, List.length_nil]; omega) ?_
          repeat walk_at "st"
          refine bm_append rfl (by rw [List.length_map]; omega) ?_
          repeat walk_at "st"
          exact z _ _ _ _ _ _
        · have h1 : ¬ (way = 1 ∧ piece ≠ [] ∧ piece.all plainC = true) := fun q => by rw [decide_eq_true q.1, decide_eq_true q.2.1, q.2.2] at h1; cases h1
          rw [if_neg h1, List.map_append] at z
          repeat walk_at "st"
          refine b_addS (by simp only [List.length_cons, List.length_nil]; omega) ?_
          repeat walk_at "st"
          refine ⟨by omega, ?_⟩
          refine b_addS (by simp only [List.length_append, List.length_cons, List.length_nil]; omega) ?_
          repeat walk_at "st"
          refine bm_append rfl (by rw [List.length_map]; omega) ?_
          repeat walk_at "st"
          exact z _ _ _ _ _ _
end Mine
end
section
open PySem PySem.Spec PySem.Calls PyProof.Rows PySem.W PySem.Builtin
set_option maxRecDepth 100000
namespace Mine
local macro_rules | `(tactic| walk_at "st") => `(tactic| first
  | with_reducible refine e_loc (by with_unfolding_all rfl) ?_ | with_reducible refine e_cstr ?_ | with_reducible refine e_cint ?_ | with_reducible refine e_cnone ?_ | with_reducible refine e_cbool ?_ | with_reducible refine e_cbytes ?_ | with_reducible refine e_glob ?_
  | with_reducible refine e_bin ?_ | with_reducible refine e_cmp ?_ | with_reducible refine e_not ?_ | with_reducible refine e_idx ?_ | with_reducible refine e_slAB ?_ | with_reducible refine e_slA ?_ | with_reducible refine e_slB ?_
  | with_reducible refine e_call ?_ | with_reducible refine e_ucall ?_ | with_reducible refine e_ucallK ?_ | with_reducible refine e_meth ?_ | with_reducible refine e_repl ?_ | with_reducible refine e_wal ?_ | with_reducible refine e_tup ?_ | with_reducible refine e_list ?_
  | with_reducible refine e_bytes1 ?_ | with_reducible refine e_sorted2 ?_ | with_reducible refine e_neNil ?_ | with_reducible refine e_dict0 ?_ | with_reducible refine e_fmt ?_ | with_reducible refine e_fstr (by with_unfolding_all rfl) ?_ | with_reducible refine e_sp ?_
  | with_reducible refine el_nil ?_ | with_reducible refine el_cons ?_ | with_reducible refine j_nil ?_ | with_reducible refine j_cons ?_ | with_reducible refine t_not ?_ | with_reducible refine t_cmp ?_ | with_reducible refine t_val (by with_unfolding_all rfl) ?_
  | with_reducible refine s_nil ?_ | with_reducible refine s_asg ?_ | with_reducible refine s_asg2 ?_ | with_reducible refine s_tupS ?_ | with_reducible refine s_tupK ?_ | with_reducible refine s_unp ?_ | with_reducible refine s_setI ?_ | with_reducible refine s_aug (by with_unfolding_all rfl) ?_ | with_reducible refine s_ex ?_
  | with_reducible refine s_forS ?_ | with_reducible refine s_forR ?_ | with_reducible refine s_forT ?_ | with_reducible refine s_forD ?_ | with_reducible refine s_sp ?_ | with_reducible refine s_ret ?_ | with_reducible refine s_brk ?_ | with_reducible refine s_cnt ?_ | with_reducible refine q_next ?_ | with_reducible refine q_brk ?_ | with_reducible refine q_cont ?_ | with_reducible refine q_ret ?_
  | with_reducible refine b_addI ?_ | with_reducible refine b_subI ?_ | with_reducible refine g_addI ?_ | with_reducible refine c_eqI ?_ | with_reducible refine c_eqS ?_ | with_reducible refine c_neS ?_ | with_reducible refine c_lt ?_ | with_reducible refine c_gt ?_ | with_reducible refine c_ge ?_ | with_reducible refine c_inS ?_
  | with_reducible refine c_is (by with_unfolding_all rfl) ?_ | with_reducible refine c_isn (by with_unfolding_all rfl) ?_ | with_reducible refine u_none ?_ | with_reducible refine u_bool ?_ | with_reducible refine u_mt ?_ | with_reducible refine f_ord ?_ | with_reducible refine f_strS ?_
  | with_reducible refine ⟨_, (by with_unfolding_all rfl : rcv _ _ _ = some _), ?_⟩ | with_reducible refine And.intro (by with_unfolding_all rfl : rcv _ _ _ = some _) ?_)
/-! ## dump_options_header -/
variable {ns : List Int} {ah : AH} {ka : KA}
theorem strsOf_map : ∀ D : List T, strsOf (D.map .str) = some D
  | [] => rfl
  | x :: r => by show (strsOf (r.map .str)).map (x :: ·) = _; rw [strsOf_map r]; rfl
theorem qhv_len (l : T) : (qhvF l).length ≤ 4 * l.length + 2 := by
  unfold qhvF
  split
  · simp
  · split
    · omega
    · exact quoted_len l
theorem sum_le (B : Nat) : ∀ D : List T, (∀ p ∈ D, p.length ≤ B) → (D.map List.length).sum ≤ D.length * B
  | [], _ => by simp
  | x :: r, h => by
    have h1 := h x (List.mem_cons_self ..)
    have h2 := sum_le B r fun p hp => h p (List.mem_cons_of_mem _ hp)
    rw [List.map_cons, List.sum_cons, List.length_cons, Nat.add_mul]
    omega
theorem bo_dump {h : T} {es : List (T × AV)} {ep : Nat} {xs : List (T × T)} {k : KS} (hv : valsOf es = some xs) (hx : xs.length ≤ 100) (hh : h.length ≤ 1000) (hb : ∀ e ∈ xs, e.1.length ≤ 1000 ∧ e.2.length ≤ 1000 ∧ e.1.getLast? ≠ some 42)
    (hk : ∀ lo ex, k (.ret (.str (dumpF h xs))) lo (.dict es ep :: ex)) : aS ns b_dump_options_header [some (.str h), some (.ref 0), none, none, none] [.dict es ep] k := by
  have hlen : ∀ {es : List (T × AV)} {xs : List (T × T)}, valsOf es = some xs → es.length = xs.length := by
    intro es
    induction es with
    | nil => intro xs h; cases h; rfl
    | cons x r ih =>
      intro xs h
      obtain ⟨key, av⟩ := x
      cases av <;> first | (cases h; done) | skip
      rename_i l
      cases q : valsOf r with
      | none => simp only [valsOf, q] at h; cases h
      | some y => simp only [valsOf, q] at h; cases h; rw [List.length_cons, List.length_cons, ih q]
  unfold b_dump_options_header
  repeat walk_at "st"
  refine ⟨by simp, ?_⟩
  repeat walk_at "st"
  refine s_if (z := true) ?_ (fun _ => ?_) (fun h => by cases h)
  · intro k hk; repeat walk_at "st"
    exact hk
  · repeat walk_at "st"
    refine bm_append rfl (by simp) ?_
    repeat walk_at "st"
    refine ⟨es, ep, rfl, by rw [hlen hv]; omega, rfl, ?_⟩
    refine loop_ind (fun r lo ah => ∃ D rx o3 o4 ex, valsOf r = some rx ∧ (∀ e ∈ rx, e.1.length ≤ 1000 ∧ e.2.length ≤ 1000 ∧ e.1.getLast? ≠ some 42) ∧ lo = [some (.str h), some (.ref 0), some (.ref 1), o3, o4] ∧
      ah = .dict es ep :: .list (D.map .str) :: ex ∧ D ++ rx.map (fun e => e.1 ++ [61] ++ qhvF e.2) = h :: xs.map (fun e => e.1 ++ [61] ++ qhvF e.2) ∧ D.length + rx.length ≤ 101 ∧ ∀ p ∈ D, p.length ≤ 5100) ?_ ?_ _ _ _
      ⟨[h], xs, none, none, [], hv, hb, rfl, rfl, rfl, by simp only [List.length_cons, List.length_nil]; omega, fun p hp => by rw [List.mem_singleton] at hp; rw [hp]; omega⟩
    · rintro lo ah ⟨D, rx, o3, o4, ex, hr, _, rfl, rfl, hD, hDl, hDp⟩
      cases hr
      rw [List.map_nil, List.append_nil] at hD
      repeat walk_at "st"
      have hs := sum_le 5100 D hDp
      refine ⟨_, D, rfl, strsOf_map D, ?_, ?_⟩
      · simp only [List.length_cons, List.length_nil]
        have : D.length ≤ 101 := by omega
        have : D.length * 5100 ≤ 101 * 5100 := Nat.mul_le_mul_right _ this
        omega
      · have := hk [some (.str h), some (.ref 0), some (.ref 1), o3, o4] (.list (D.map .str) :: ex)
        unfold dumpF at this
        rw [← hD] at this
        exact this
    · rintro ⟨key, av⟩ r ih lo ah ⟨D, rx, o3, o4, ex, hr, hrb, rfl, rfl, hD, hDl, hDp⟩
      cases av <;> first | (cases hr; done) | skip
      rename_i l
      cases q : valsOf r with
      | none => simp only [valsOf, q] at hr; cases hr
      | some y =>
        simp only [valsOf, q] at hr
        cases hr
        obtain ⟨hb1, hb2, hb3⟩ := hrb (key, l) (List.mem_cons_self ..)
        have hql := qhv_len l
        rw [List.map_cons, List.append_cons] at hD
        have z := fun o3 o4 ex => ih _ _ ⟨D ++ [key ++ [61] ++ qhvF l], y, o3, o4, ex, q, fun e he => hrb e (List.mem_cons_of_mem _ he), rfl, rfl, hD, by simp only [List.length_append, List.length_cons, List.length_nil] at hDl ⊢; omega, fun p hp => by
          rw [List.mem_append, List.mem_singleton] at hp
          rcases hp with hp | rfl
          · exact hDp p hp
          · simp only [List.length_append, List.length_cons, List.length_nil]
            have h1 : key.length ≤ 1000 := hb1
            have h2 : l.length ≤ 1000 := hb2
            omega⟩
        rw [List.map_append] at z
        clear ih hD hrb
        have hb1 : key.length ≤ 1000 := hb1
        have hb2 : l.length ≤ 1000 := hb2
        have hb3 : key.getLast? ≠ some 42 := hb3
        simp only [List.length_cons] at hDl
        refine s_if (z := false) ?_ (fun h => by cases h) (fun _ => ?_)
        · intro k hk; repeat walk_at "st"
          exact hk
        · repeat walk_at "st"
          refine s_if (z := false) ?_ (fun h => by cases h) (fun _ => ?_)
          · intro k hk; repeat walk_at "st"
            refine bm_ends ?_
            repeat walk_at "st"
            rw [show (key.getLast? == some 42) = false from by
              cases q2 : (key.getLast? == some 42) with
              | false => rfl
              | true => exact absurd (eq_of_beq q2) hb3]
            exact hk
          · repeat walk_at "st"
            refine ⟨by show key.length ≤ _; omega, ?_⟩
            refine ⟨by simp only [List.length_nil]; omega, ?_⟩
            repeat walk_at "st"
            refine ⟨by simp only [List.length_append, List.length_cons, List.length_nil]; omega, ?_⟩
            repeat walk_at "st"
            refine ⟨by show l.length ≤ _; omega, ?_⟩
            refine ⟨by show (qhvF l).length ≤ _; omega, ?_⟩
            refine ⟨by simp only [List.length_append, List.length_cons, List.length_nil]; omega, ?_⟩
            repeat walk_at "st"
            refine bm_append rfl (by rw [List.length_map]; omega) ?_
            repeat walk_at "st"
            exact ⟨fun _ => rfl, z _ _ _⟩
end Mine
end
section
open PySem PySem.Spec PySem.Calls PyProof.Rows PySem.W PySem.Builtin
set_option maxRecDepth 100000
namespace Mine
local macro_rules | `(tactic| walk_at "st") => `(tactic| first
  | with_reducible refine e_loc (by with_unfolding_all rfl) ?_ | with_reducible refine e_cstr ?_ | with_reducible refine e_cint ?_ | with_reducible refine e_cnone ?_ | with_reducible refine e_cbool ?_ | with_reducible refine e_cbytes ?_ | with_reducible refine e_glob ?_
  | with_reducible refine e_bin ?_ | with_reducible refine e_cmp ?_ | with_reducible refine e_not ?_ | with_reducible refine e_idx ?_ | with_reducible refine e_slAB ?_ | with_reducible refine e_slA ?_ | with_reducible refine e_slB ?_
  | with_reducible refine e_call ?_ | with_reducible refine e_ucall ?_ | with_reducible refine e_ucallK ?_ | with_reducible refine e_meth ?_ | with_reducible refine e_repl ?_ | with_reducible refine e_wal ?_ | with_reducible refine e_tup ?_ | with_reducible refine e_list ?_
  | with_reducible refine e_bytes1 ?_ | with_reducible refine e_sorted2 ?_ | with_reducible refine e_neNil ?_ | with_reducible refine e_dict0 ?_ | with_reducible refine e_fmt ?_ | with_reducible refine e_fstr (by with_unfolding_all rfl) ?_ | with_reducible refine e_sp ?_
  | with_reducible refine el_nil ?_ | with_reducible refine el_cons ?_ | with_reducible refine j_nil ?_ | with_reducible refine j_cons ?_ | with_reducible refine t_not ?_ | with_reducible refine t_cmp ?_ | with_reducible refine t_val (by with_unfolding_all rfl) ?_
  | with_reducible refine s_nil ?_ | with_reducible refine s_asg ?_ | with_reducible refine s_asg2 ?_ | with_reducible refine s_tupS ?_ | with_reducible refine s_tupK ?_ | with_reducible refine s_unp ?_ | with_reducible refine s_setI ?_ | with_reducible refine s_aug (by with_unfolding_all rfl) ?_ | with_reducible refine s_ex ?_
  | with_reducible refine s_forS ?_ | with_reducible refine s_forR ?_ | with_reducible refine s_forT ?_ | with_reducible refine s_forD ?_ | with_reducible refine s_sp ?_ | with_reducible refine s_ret ?_ | with_reducible refine s_brk ?_ | with_reducible refine s_cnt ?_ | with_reducible refine q_next ?_ | with_reducible refine q_brk ?_ | with_reducible refine q_cont ?_ | with_reducible refine q_ret ?_
  | with_reducible refine b_addI ?_ | with_reducible refine b_subI ?_ | with_reducible refine g_addI ?_ | with_reducible refine c_eqI ?_ | with_reducible refine c_eqS ?_ | with_reducible refine c_neS ?_ | with_reducible refine c_lt ?_ | with_reducible refine c_gt ?_ | with_reducible refine c_ge ?_ | with_reducible refine c_inS ?_
  | with_reducible refine c_is (by with_unfolding_all rfl) ?_ | with_reducible refine c_isn (by with_unfolding_all rfl) ?_ | with_reducible refine u_none ?_ | with_reducible refine u_bool ?_ | with_reducible refine u_mt ?_ | with_reducible refine f_ord ?_ | with_reducible refine f_strS ?_
  | with_reducible refine ⟨_, (by with_unfolding_all rfl : rcv _ _ _ = some _), ?_⟩ | with_reducible refine And.intro (by with_unfolding_all rfl : rcv _ _ _ = some _) ?_)
/-! ## the parts of a header -/
variable {ns : List Int} {ah : AH} {ka : KA} {K : KS}
def loP (v r : T) (pos : Nat) (o1 o6 o7 o8 o9 o10 : Option AV) : Lo := [some (.str v), o1, some (.str r), some (.ref 0), some (.int pos), some (.int r.length), o6, o7, o8, o9, o10, none, none, none, none, none, none, none, none, none]
def bPT (D : List (T × T)) : AH := [.list (D.map fun p => .tup [.str p.1, .str p.2])]
theorem delim_eq : ∀ d : T, delim d = (delimSp d).map fun x => d.drop x.2
  | [] => rfl
  | c :: r => by
    have ih := delim_eq r
    unfold delim
    unfold delimSp
    by_cases h : c = 59
    · subst h
      rw [if_pos rfl, List.takeWhile_cons_of_neg (by decide)]
      simp only [List.length_nil, Nat.zero_add, List.length_cons, Nat.zero_lt_succ, if_true, Option.map_some]
      rw [show (List.drop 1 (59 :: r)) = r from rfl, Nat.add_comm 1, List.drop_succ_cons]
      have e : ∀ l : T, l.dropWhile spt = l.drop (l.takeWhile spt).length := by
        intro l
        induction l with
        | nil => rfl
        | cons x l ih =>
          cases hx : spt x with
          | true => rw [List.dropWhile_cons_of_pos hx, List.takeWhile_cons_of_pos hx, List.length_cons, List.drop_succ_cons, ih]
          | false => rw [List.dropWhile_cons_of_neg (by rw [hx]; decide), List.takeWhile_cons_of_neg (by rw [hx]; decide)]; rfl
      rw [e]
    · rw [if_neg h, List.takeWhile_cons_of_pos (by simpa using h), ih]
      unfold delimSp
      simp only [List.length_cons, Nat.add_lt_add_iff_right]
      split
      · rename_i h2
        simp only [Option.map_some, List.drop_succ_cons]
        rw [show (List.takeWhile (fun x => x != 59) r).length + 1 + 1 + (List.takeWhile spt (List.drop ((List.takeWhile (fun x => x != 59) r).length + 1) r)).length = ((List.takeWhile (fun x => x != 59) r).length + 1 + (List.takeWhile spt (List.drop ((List.takeWhile (fun x => x != 59) r).length + 1) r)).length) + 1 by omega, List.drop_succ_cons]
      · rfl
theorem delimSp_le {d : T} {x : Nat × Nat} (h : delimSp d = some x) : x.2 ≤ d.length := by
  unfold delimSp at h
  simp only at h
  split at h
  · rename_i h2
    cases h
    have h3 : (List.takeWhile spt (List.drop ((List.takeWhile (fun x => x != 59) d).length + 1) d)).length ≤ (List.drop ((List.takeWhile (fun x => x != 59) d).length + 1) d).length := (List.takeWhile_sublist _).length_le
    rw [List.length_drop] at h3
    simp only
    omega
  · cases h
theorem delimSp_pos {d : T} {x : Nat × Nat} (h : delimSp d = some x) : 1 ≤ x.2 := by
  unfold delimSp at h
  simp only at h
  split at h
  · cases h; simp only; omega
  · cases h
theorem m_con {a : Addr} {m : M} {l : T} {p : Int} (h1 : l.length ≤ 1000000) (h2 : 0 ≤ p) (h3 : p ≤ l.length) (h : reM a m l p.toNat fun r => ka (match r with | some sp => .mt l sp | none => .none) ah) : aMeth (.con (.ref a)) m [.str l, .int p] ah ka := ⟨h1, h2, h3, h⟩
theorem r_delim {l : T} {p : Nat} {q : Option (List Int) → Prop} (h : q ((delimSp (l.drop p)).map fun x => [((p + x.1 : Nat) : Int), ((p + x.2 : Nat) : Int)])) : reM 97 .search l p q := h
theorem r_key {l : T} {p : Nat} {q : Option (List Int) → Prop} (h1 : ∀ m, m = (l.drop p).takeWhile tokC → m ≠ [] → ((l.drop p).drop m.length).head? = some 61 → q (some [(p : Int), p + m.length + 1, p, p + m.length]))
    (h2 : ¬ ((l.drop p).takeWhile tokC ≠ [] ∧ ((l.drop p).drop ((l.drop p).takeWhile tokC).length).head? = some 61) → q none) : reM 77 .match_ l p q := by
  show if _ then _ else _
  split
  · rename_i h; exact h1 _ rfl h.1 h.2
  · rename_i h; exact h2 h
theorem r_tok {l : T} {p : Nat} {q : Option (List Int) → Prop} (h1 : ∀ m, m = (l.drop p).takeWhile tokC → m ≠ [] → q (some [(p : Int), p + m.length])) (h2 : (l.drop p).takeWhile tokC = [] → q none) : reM 87 .match_ l p q := by
  show if _ then _ else _
  split
  · rename_i h; exact h1 _ rfl h
  · rename_i h; exact h2 (by simpa using h)
theorem delim_ok {v r : T} {pos : Nat} {o1 o6 o7 o8 o9 o10 : Option AV} {D Pt : List (T × T)} {n : Nat} (hr : r.length ≤ 1000) (hp : pos ≤ r.length) (hD : D ++ (match delim (r.drop pos) with | some d2 => scan n d2 | none => []) = Pt)
    (h1 : ∀ pos2 o10, pos < pos2 → pos2 ≤ r.length → D ++ scan n (r.drop pos2) = Pt → K .next (loP v r pos2 o1 o6 o7 o8 o9 o10) (bPT D)) (h2 : D = Pt → ∀ o10, K .brk (loP v r pos o1 o6 o7 o8 o9 o10) (bPT D)) : aS ns bp_delim (loP v r pos o1 o6 o7 o8 o9 o10) (bPT D) K := by
  unfold bp_delim loP
  rw [delim_eq] at hD
  refine s_ife ?_
  repeat walk_at "st"
  refine m_con (by omega) (by omega) (by omega) ?_
  refine r_delim ?_
  rw [Int.toNat_natCast]
  cases q : delimSp (r.drop pos) with
  | none =>
    rw [q] at hD
    simp only [Option.map_none, List.append_nil] at hD ⊢
    repeat walk_at "st"
    refine ⟨fun h => (by cases h), fun _ => ?_⟩
    repeat walk_at "st"
    exact h2 hD _
  | some x =>
    rw [q] at hD
    simp only [Option.map_some, List.drop_drop] at hD ⊢
    repeat walk_at "st"
    refine ⟨fun _ => ?_, fun h => (by cases h)⟩
    repeat walk_at "st"
    refine ⟨_, rfl, ?_⟩
    repeat walk_at "st"
    have hx := delimSp_le q
    rw [List.length_drop] at hx
    have hx1 := delimSp_pos q
    exact h1 (pos + x.2) _ (by omega) (by omega) hD
end Mine
end
section
open PySem PySem.Spec PySem.Calls PyProof.Rows PySem.W PySem.Builtin
set_option maxRecDepth 100000
namespace Mine
local macro_rules | `(tactic| walk_at "st") => `(tactic| first
  | with_reducible refine e_loc (by with_unfolding_all rfl) ?_ | with_reducible refine e_cstr ?_ | with_reducible refine e_cint ?_ | with_reducible refine e_cnone ?_ | with_reducible refine e_cbool ?_ | with_reducible refine e_cbytes ?_ | with_reducible refine e_glob ?_
  | with_reducible refine e_bin ?_ | with_reducible refine e_cmp ?_ | with_reducible refine e_not ?_ | with_reducible refine e_idx ?_ | with_reducible refine e_slAB ?_ | with_reducible refine e_slA ?_ | with_reducible refine e_slB ?_
  | with_reducible refine e_call ?_ | with_reducible refine e_ucall ?_ | with_reducible refine e_ucallK ?_ | with_reducible refine e_meth ?_ | with_reducible refine e_repl ?_ | with_reducible refine e_wal ?_ | with_reducible refine e_tup ?_ | with_reducible refine e_list ?_
  | with_reducible refine e_bytes1 ?_ | with_reducible refine e_sorted2 ?_ | with_reducible refine e_neNil ?_ | with_reducible refine e_dict0 ?_ | with_reducible refine e_fmt ?_ | with_reducible refine e_fstr (by with_unfolding_all rfl) ?_ | with_reducible refine e_sp ?_
  | with_reducible refine el_nil ?_ | with_reducible refine el_cons ?_ | with_reducible refine j_nil ?_ | with_reducible refine j_cons ?_ | with_reducible refine t_not ?_ | with_reducible refine t_cmp ?_ | with_reducible refine t_val (by with_unfolding_all rfl) ?_
  | with_reducible refine s_nil ?_ | with_reducible refine s_asg ?_ | with_reducible refine s_asg2 ?_ | with_reducible refine s_tupS ?_ | with_reducible refine s_tupK ?_ | with_reducible refine s_unp ?_ | with_reducible refine s_setI ?_ | with_reducible refine s_aug (by with_unfolding_all rfl) ?_ | with_reducible refine s_ex ?_
  | with_reducible refine s_forS ?_ | with_reducible refine s_forR ?_ | with_reducible refine s_forT ?_ | with_reducible refine s_forD ?_ | with_reducible refine s_sp ?_ | with_reducible refine s_ret ?_ | with_reducible refine s_brk ?_ | with_reducible refine s_cnt ?_ | with_reducible refine q_next ?_ | with_reducible refine q_brk ?_ | with_reducible refine q_cont ?_ | with_reducible refine q_ret ?_
  | with_reducible refine b_addI ?_ | with_reducible refine b_subI ?_ | with_reducible refine g_addI ?_ | with_reducible refine c_eqI ?_ | with_reducible refine c_eqS ?_ | with_reducible refine c_neS ?_ | with_reducible refine c_lt ?_ | with_reducible refine c_gt ?_ | with_reducible refine c_ge ?_ | with_reducible refine c_inS ?_
  | with_reducible refine c_is (by with_unfolding_all rfl) ?_ | with_reducible refine c_isn (by with_unfolding_all rfl) ?_ | with_reducible refine u_none ?_ | with_reducible refine u_bool ?_ | with_reducible refine u_mt ?_ | with_reducible refine f_ord ?_ | with_reducible refine f_strS ?_
  | with_reducible refine ⟨_, (by with_unfolding_all rfl : rcv _ _ _ = some _), ?_⟩ | with_reducible refine And.intro (by with_unfolding_all rfl : rcv _ _ _ = some _) ?_)
/-! ## the first loop of parse_options_header -/
variable {ns : List Int} {ah : AH} {ka : KA} {K : KS}
theorem qs_two {c d : Nat} {r : T} (h1 : c = 92) (h2 : d = 92 ∨ d = 34) : qscan (c :: d :: r) = (qscan r).map fun x => (c :: d :: x.1, x.2) := by
  rw [qscan, if_pos ⟨h1, h2⟩]
theorem qs_end {r : T} : qscan (34 :: r) = some ([34], r) := by
  cases r with
  | nil => rfl
  | cons d r => rw [qscan, if_neg (fun h => by cases h.1), if_pos rfl]
theorem qs_one {c : Nat} {r : T} (h1 : c ≠ 34) (h2 : ∀ d r', r = d :: r' → ¬ (c = 92 ∧ (d = 92 ∨ d = 34))) : qscan (c :: r) = (qscan r).map fun x => (c :: x.1, x.2) := by
  cases r with
  | nil => show (if c = 34 then _ else _) = _; rw [if_neg h1]; rfl
  | cons d r => rw [qscan, if_neg (h2 d r rfl), if_neg h1]
theorem m_start2 {l : T} {a b c d : Nat} {p : Int} (h0 : 0 ≤ p) (h1 : p ≤ 1000000) (h2 : l.length ≤ 1000000) (h : ka (.bool (((l.drop p.toNat).take 2 == [a, b]) || ((l.drop p.toNat).take 2 == [c, d]))) ah) : aMeth (.str l) .startswith [.tup [.str [a, b], .str [c, d]], .int p] ah ka := ⟨h0, h1, h2, h⟩
theorem m_startp {l : T} {c : Nat} {p : Int} (h0 : 0 ≤ p) (h1 : p ≤ 1000000) (h2 : l.length ≤ 1000000) (h : ka (.bool (l[p.toNat]? == some c)) ah) : aMeth (.str l) .startswith [.str [c], .int p] ah ka := ⟨h0, h1, h2, h⟩
theorem slice_pre {r a b : T} {p : Nat} (h : r.drop p = a ++ b) (q : Nat) (hq : q = p + a.length) : (r.take q).drop p = a := by
  rw [List.drop_take, h, hq, Nat.add_sub_cancel_left, List.take_left]
theorem drop_plus {r a b : T} {p : Nat} (h : r.drop p = a ++ b) : r.drop (p + a.length) = b := by
  rw [← List.drop_drop, h, List.drop_left]
theorem quote_ok {v r pk : T} {p1 : Nat} {o1 o6 o8 o9 o10 : Option AV} {D : List (T × T)} (hr : r.length ≤ 1000) (hp : p1 ≤ r.length) (hq : (r.drop p1).head? = some 34) (hDl : D.length ≤ 900)
    (hB : ∀ q rr pos2 o9, qscan ((r.drop p1).drop 1) = some (q, rr) → r.drop pos2 = rr → p1 < pos2 → pos2 ≤ r.length → K .next (loP v r pos2 o1 o6 (some (.str pk)) o8 o9 o10) (bPT (D ++ [(pk, 34 :: q)])))
    (hC : ∀ o9, qscan ((r.drop p1).drop 1) = none → K .brk (loP v r p1 o1 o6 (some (.str pk)) o8 o9 o10) (bPT D)) : aS ns bp_quote (loP v r p1 o1 o6 (some (.str pk)) o8 o9 o10) (bPT D) K := by
  unfold bp_quote loP
  repeat walk_at "st"
  intro P hP
  have hd0 : r.drop p1 = 34 :: r.drop (p1 + 1) := by
    cases e : r.drop p1 with
    | nil => rw [e] at hq; cases hq
    | cons c e' =>
      rw [e] at hq
      cases hq
      have := congrArg (List.drop 1) e
      rw [List.drop_drop] at this
      rw [this]; rfl
  have hlt : p1 < r.length := by
    rcases Nat.lt_or_ge p1 r.length with h | h
    · exact h
    · rw [List.drop_eq_nil_of_le h] at hq; cases hq
  have hd1 : (r.drop p1).drop 1 = r.drop (p1 + 1) := by rw [hd0]; rfl
  rw [hd1] at hB hC
  have key : ∀ (n qp : Nat) (pre : T), r.length - qp = n → qp ≤ r.length → r.drop p1 = (34 :: pre) ++ r.drop qp → qp = p1 + 1 + pre.length → qscan (r.drop (p1 + 1)) = (qscan (r.drop qp)).map (fun x => (pre ++ x.1, x.2)) →
      P [some (.str v), o1, some (.str r), some (.ref 0), some (.int p1), some (.int r.length), o6, some (.str pk), o8, some (.int qp), o10, none, none, none, none, none, none, none, none, none] (bPT D) := by
    intro n
    induction n using Nat.strongRecOn with
    | ind n ih =>
    intro qp pre hn hqp hpre hql hqs
    apply hP
    repeat walk_at "st"
    refine ⟨fun hz => ?_, fun hz => ?_⟩
    · have hz : qp < r.length := by simpa using hz
      have hdq := drop_cons hz
      generalize hc : r.getD qp 0 = c at hdq
      have hcq : r[qp]? = some c := by rw [get_some hz, hc]
      refine s_if (z := ((r.drop qp).take 2 == [92, 92]) || ((r.drop qp).take 2 == [92, 34])) ?_ (fun h => ?_) (fun h => ?_)
      · intro k hk; repeat walk_at "st"
        refine ⟨by simp, ?_⟩
        repeat walk_at "st"
        refine m_start2 (by omega) (by omega) (by omega) ?_
        repeat walk_at "st"
        exact hk
      · have h : ∃ d, (d = 92 ∨ d = 34) ∧ r.drop qp = 92 :: d :: r.drop (qp + 2) ∧ qp + 2 ≤ r.length := by
          rw [hdq] at h
          cases e : r.drop (qp + 1) with
          | nil => rw [e] at h; simp at h
          | cons d e' =>
            rw [e] at h
            have h2 : c = 92 ∧ (d = 92 ∨ d = 34) := by
              simp only [List.take_succ_cons, List.take_zero, Bool.or_eq_true, beq_iff_eq, List.cons.injEq, and_true] at h
              omega
            have e3 := congrArg (List.drop 1) e
            rw [List.drop_drop] at e3
            have e4 : (r.drop (qp + 1)).length = (d :: e').length := by rw [e]
            rw [List.length_drop, List.length_cons] at e4
            refine ⟨d, h2.2, ?_, by omega⟩
            rw [hdq, h2.1, e, show qp + 2 = qp + 1 + 1 from rfl, e3]; rfl
        obtain ⟨d, hd, he, hl2⟩ := h
        repeat walk_at "st"
        refine ih (r.length - (qp + 2)) (by omega) (qp + 2) (pre ++ [92, d]) rfl hl2 ?_ ?_ ?_
        · rw [hpre, he]; simp
        · rw [List.length_append]; simp only [List.length_cons, List.length_nil]; omega
        · rw [hqs, he, qs_two rfl hd, Option.map_map]
          congr 1
          funext x
          simp
      · repeat walk_at "st"
        refine s_if (z := (r[qp]? == some 34)) ?_ (fun h2 => ?_) (fun h2 => ?_)
        · intro k hk; repeat walk_at "st"
          refine m_startp (by omega) (by omega) (by omega) ?_
          repeat walk_at "st"
          exact hk
        · have h2 : c = 34 := by rw [hcq] at h2; simpa using h2
          subst h2
          rw [hdq, qs_end] at hqs
          have hfin : r.drop p1 = (34 :: (pre ++ [34])) ++ r.drop (qp + 1) := by rw [hpre, hdq]; simp
          repeat walk_at "st"
          refine ⟨by omega, by omega, by omega, by omega, by omega, ?_⟩
          repeat walk_at "st"
          refine ⟨by simp, ?_⟩
          repeat walk_at "st"
          refine bm_append rfl (by rw [List.length_map]; omega) ?_
          repeat walk_at "st"
          have z := hB (pre ++ [34]) (r.drop (qp + 1)) (qp + 1) (some (.int ((qp : Int) + 1))) (by rw [hqs]; rfl) rfl (by omega) (by omega)
          unfold bPT at z
          rw [List.map_append] at z
          have e5 : (r.take ((qp : Int) + 1).toNat).drop ((p1 : Int)).toNat = 34 :: (pre ++ [34]) := by
            rw [show ((qp : Int) + 1).toNat = qp + 1 by omega, Int.toNat_natCast]
            refine slice_pre hfin _ ?_
            simp only [List.length_cons, List.length_append, List.length_nil]
            omega
          rw [e5]
          exact z
        · have h2 : c ≠ 34 := fun e => by rw [hcq, e] at h2; simp at h2
          repeat walk_at "st"
          refine ih (r.length - (qp + 1)) (by omega) (qp + 1) (pre ++ [c]) rfl (by omega) ?_ ?_ ?_
          · rw [hpre, hdq]; simp
          · rw [List.length_append]; simp only [List.length_cons, List.length_nil]; omega
          · rw [hqs, hdq, qs_one h2, Option.map_map]
            · congr 1
              funext x
              simp
            · intro d r' e h3
              rw [hdq, e, h3.1] at h
              rcases h3.2 with rfl | rfl <;> simp at h
    · have hz : qp = r.length := by have : ¬ ((qp : Int) < r.length) := of_decide_eq_false hz; omega
      rw [hz, List.drop_length] at hqs
      repeat walk_at "st"
      exact hC _ hqs
  have z := key (r.length - (p1 + 1)) (p1 + 1) [] rfl (by omega) hd0 rfl (by cases qscan (r.drop (p1 + 1)) <;> rfl)
  exact z
theorem btok_lt {c : Nat} (h : tokC c = true) : c < 128 := by
  rw [tok_in] at h
  have all : tokL.all (fun x => decide (x < 128)) = true := by decide +kernel
  exact of_decide_eq_true (List.all_eq_true.mp all c (of_decide_eq_true h))
theorem bm_lower {l : T} (h1 : l.length ≤ 1000000) (h2 : ∀ c ∈ l, c < 128) (h : ka (.str (l.map lowC)) ah) : aMeth (.str l) .lower [] ah ka := ⟨h1, h2, h⟩
theorem m_groupI {l : T} {sp : List Int} {g a b : Int} (h0 : 0 ≤ g) (h1 : g ≤ 10) (ha : sp[2 * g.toNat]? = some a) (hb : sp[2 * g.toNat + 1]? = some b) (hl : l.length ≤ 1000000) (h : ka (if a < 0 ∨ b < 0 then .none else .str ((l.take b.toNat).drop a.toNat)) ah) : aMeth (.mt l sp) .group [.int g] ah ka := ⟨h0, h1, a, b, ha, hb, hl, h⟩
theorem bm_group0 {l : T} {sp : List Int} {a b : Int} (ha : sp[0]? = some a) (hb : sp[1]? = some b) (h0 : 0 ≤ a) (h1 : 0 ≤ b) (hl : l.length ≤ 1000000) (h : ka (.str ((l.take b.toNat).drop a.toNat)) ah) : aMeth (.mt l sp) .group [] ah ka := ⟨a, b, ha, hb, h0, h1, hl, h⟩
theorem bm_end {l : T} {sp : List Int} {b : Int} (hb : sp[1]? = some b) (h : ka (.int b) ah) : aMeth (.mt l sp) .end_ [] ah ka := ⟨b, hb, h⟩
theorem m_startM {l : T} {sp : List Int} {b : Int} (hb : sp[0]? = some b) (h : ka (.int b) ah) : aMeth (.mt l sp) .start [] ah ka := ⟨b, hb, h⟩
theorem take_while_pre (p : Nat → Bool) (l : T) : l.takeWhile p ++ l.drop (l.takeWhile p).length = l := by
  induction l with
  | nil => rfl
  | cons c r ih =>
    cases h : p c with
    | true => rw [List.takeWhile_cons_of_pos h, List.length_cons, List.drop_succ_cons, List.cons_append, ih]
    | false => rw [List.takeWhile_cons_of_neg (by rw [h]; decide)]; rfl
theorem slice_tw {r m : T} {p : Nat} (hm : m = (r.drop p).takeWhile tokC) (q : Nat) (hq : q = p + m.length) : (r.take q).drop p = m := by
  refine slice_pre (b := (r.drop p).drop m.length) ?_ q hq
  rw [hm]; exact (take_while_pre _ _).symm
theorem key_ok {v r m : T} {p : Nat} {o1 o7 o8 o9 o10 : Option AV} {D : List (T × T)} (hr : r.length ≤ 1000) (hp : p ≤ r.length) (hDl : D.length ≤ 900) (hm : m = (r.drop p).takeWhile tokC) (hp1 : p + m.length + 1 ≤ r.length)
    (hA : ∀ m1 o8, m1 = (r.drop (p + m.length + 1)).takeWhile tokC → m1 ≠ [] → K .next (loP v r (p + m.length + 1) o1 (some (.mt r [(p : Int), p + m.length + 1, p, p + m.length])) (some (.str (m.map lowC))) o8 o9 o10) (bPT (D ++ [(m.map lowC, m1)])))
    (hB : (r.drop (p + m.length + 1)).takeWhile tokC = [] → (r.drop (p + m.length + 1)).head? = some 34 → ∀ q rr pos2 o8 o9, qscan ((r.drop (p + m.length + 1)).drop 1) = some (q, rr) → r.drop pos2 = rr → p + m.length + 1 < pos2 → pos2 ≤ r.length → K .next (loP v r pos2 o1 (some (.mt r [(p : Int), p + m.length + 1, p, p + m.length])) (some (.str (m.map lowC))) o8 o9 o10) (bPT (D ++ [(m.map lowC, 34 :: q)])))
    (hC : (r.drop (p + m.length + 1)).takeWhile tokC = [] → (r.drop (p + m.length + 1)).head? = some 34 → ∀ o8 o9, qscan ((r.drop (p + m.length + 1)).drop 1) = none → K .brk (loP v r (p + m.length + 1) o1 (some (.mt r [(p : Int), p + m.length + 1, p, p + m.length])) (some (.str (m.map lowC))) o8 o9 o10) (bPT D))
    (hD : (r.drop (p + m.length + 1)).takeWhile tokC = [] → (r.drop (p + m.length + 1)).head? ≠ some 34 → ∀ o8, K .next (loP v r (p + m.length + 1) o1 (some (.mt r [(p : Int), p + m.length + 1, p, p + m.length])) (some (.str (m.map lowC))) o8 o9 o10) (bPT D)) :
    aS ns bp_key (loP v r p o1 (some (.mt r [(p : Int), p + m.length + 1, p, p + m.length])) o7 o8 o9 o10) (bPT D) K := by
  unfold bp_key loP
  repeat walk_at "st"
  refine m_groupI (by decide) (by decide) rfl rfl (by omega) ?_
  rw [if_neg (by omega), show ((p : Int) + m.length).toNat = p + m.length by omega, Int.toNat_natCast, slice_tw hm _ rfl]
  repeat walk_at "st"
  have hml : m.length ≤ 1000 := by omega
  have hmc : ∀ c ∈ m, c < 128 := fun c hc => by
    rw [hm] at hc
    exact btok_lt (List.all_eq_true.mp (List.all_takeWhile ..) c hc)
  refine bm_lower (by omega) hmc ?_
  repeat walk_at "st"
  refine bm_end rfl ?_
  repeat walk_at "st"
  generalize hp' : p + m.length + 1 = p1 at hp1 hA hB hC hD
  have hpi : ((p : Int) + m.length + 1) = (p1 : Int) := by omega
  rw [hpi] at hA hB hC hD ⊢
  refine s_ife ?_
  repeat walk_at "st"
  refine m_con (by omega) (by omega) (by omega) ?_
  rw [Int.toNat_natCast]
  refine r_tok (fun m1 hm1 hne => ?_) (fun hne => ?_)
  · have hl1 : p1 + m1.length ≤ r.length := by
      have : m1.length ≤ (r.drop p1).length := by rw [hm1]; exact (List.takeWhile_sublist _).length_le
      rw [List.length_drop] at this
      omega
    repeat walk_at "st"
    refine ⟨fun _ => ?_, fun h => (by cases h)⟩
    repeat walk_at "st"
    refine bm_group0 rfl rfl (by omega) (by omega) (by omega) ?_
    rw [show ((p1 : Int) + m1.length).toNat = p1 + m1.length by omega, Int.toNat_natCast, slice_tw hm1 _ rfl]
    repeat walk_at "st"
    refine ⟨by simp, ?_⟩
    repeat walk_at "st"
    refine bm_append rfl (by rw [List.length_map]; omega) ?_
    repeat walk_at "st"
    have z := hA m1 (some (.mt r [(p1 : Int), p1 + m1.length])) hm1 hne
    unfold bPT at z
    rw [List.map_append] at z
    exact z
  · repeat walk_at "st"
    refine ⟨fun h => (by cases h), fun _ => ?_⟩
    repeat walk_at "st"
    refine s_if (z := (r[p1]? == some 34)) ?_ (fun h2 => ?_) (fun h2 => ?_)
    · intro k hk; repeat walk_at "st"
      refine m_startp (by omega) (by omega) (by omega) ?_
      repeat walk_at "st"
      exact hk
    · have h2 : (r.drop p1).head? = some 34 := by rw [List.head?_drop]; simpa using h2
      have z := quote_ok (ns := ns) (v := v) (pk := m.map lowC) (o1 := o1) (o6 := some (.mt r [(p : Int), (p1 : Int), p, p + m.length])) (o8 := some .none) (o9 := o9) (o10 := o10) (D := D) (K := K) hr hp1 h2 hDl
        (fun q rr pos2 o9 e1 e2 e3 e4 => hB hne h2 q rr pos2 _ _ e1 e2 e3 e4) (fun o9 e => hC hne h2 _ _ e)
      repeat walk_at "st"
      exact z
    · have h2 : (r.drop p1).head? ≠ some 34 := by rw [List.head?_drop]; intro e; rw [e] at h2; simp at h2
      repeat walk_at "st"
      exact hD hne h2 _
end Mine
end
section
open PySem PySem.Spec PySem.Calls PyProof.Rows PySem.W PySem.Builtin
set_option maxRecDepth 100000
namespace Mine
local macro_rules | `(tactic| walk_at "st") => `(tactic| first
  | with_reducible refine e_loc (by with_unfolding_all rfl) ?_ | with_reducible refine e_cstr ?_ | with_reducible refine e_cint ?_ | with_reducible refine e_cnone ?_ | with_reducible refine e_cbool ?_ | with_reducible refine e_cbytes ?_ | with_reducible refine e_glob ?_
  | with_reducible refine e_bin ?_ | with_reducible refine e_cmp ?_ | with_reducible refine e_not ?_ | with_reducible refine e_idx ?_ | with_reducible refine e_slAB ?_ | with_reducible refine e_slA ?_ | with_reducible refine e_slB ?_
  | with_reducible refine e_call ?_ | with_reducible refine e_ucall ?_ | with_reducible refine e_ucallK ?_ | with_reducible refine e_meth ?_ | with_reducible refine e_repl ?_ | with_reducible refine e_wal ?_ | with_reducible refine e_tup ?_ | with_reducible refine e_list ?_
  | with_reducible refine e_bytes1 ?_ | with_reducible refine e_sorted2 ?_ | with_reducible refine e_neNil ?_ | with_reducible refine e_dict0 ?_ | with_reducible refine e_fmt ?_ | with_reducible refine e_fstr (by with_unfolding_all rfl) ?_ | with_reducible refine e_sp ?_
  | with_reducible refine el_nil ?_ | with_reducible refine el_cons ?_ | with_reducible refine j_nil ?_ | with_reducible refine j_cons ?_ | with_reducible refine t_not ?_ | with_reducible refine t_cmp ?_ | with_reducible refine t_val (by with_unfolding_all rfl) ?_
  | with_reducible refine s_nil ?_ | with_reducible refine s_asg ?_ | with_reducible refine s_asg2 ?_ | with_reducible refine s_tupS ?_ | with_reducible refine s_tupK ?_ | with_reducible refine s_unp ?_ | with_reducible refine s_setI ?_ | with_reducible refine s_aug (by with_unfolding_all rfl) ?_ | with_reducible refine s_ex ?_
  | with_reducible refine s_forS ?_ | with_reducible refine s_forR ?_ | with_reducible refine s_forT ?_ | with_reducible refine s_forD ?_ | with_reducible refine s_sp ?_ | with_reducible refine s_ret ?_ | with_reducible refine s_brk ?_ | with_reducible refine s_cnt ?_ | with_reducible refine q_next ?_ | with_reducible refine q_brk ?_ | with_reducible refine q_cont ?_ | with_reducible refine q_ret ?_
  | with_reducible refine b_addI ?_ | with_reducible refine b_subI ?_ | with_reducible refine g_addI ?_ | with_reducible refine c_eqI ?_ | with_reducible refine c_eqS ?_ | with_reducible refine c_neS ?_ | with_reducible refine c_lt ?_ | with_reducible refine c_gt ?_ | with_reducible refine c_ge ?_ | with_reducible refine c_inS ?_
  | with_reducible refine c_is (by with_unfolding_all rfl) ?_ | with_reducible refine c_isn (by with_unfolding_all rfl) ?_ | with_reducible refine u_none ?_ | with_reducible refine u_bool ?_ | with_reducible refine u_mt ?_ | with_reducible refine f_ord ?_ | with_reducible refine f_strS ?_
  | with_reducible refine ⟨_, (by with_unfolding_all rfl : rcv _ _ _ = some _), ?_⟩ | with_reducible refine And.intro (by with_unfolding_all rfl : rcv _ _ _ = some _) ?_)
variable {ns : List Int} {ah : AH} {ka : KA} {ks : KS}
def goOn (n : Nat) (d : T) : List (T × T) := match delim d with
  | some d2 => scan n d2
  | none => []
theorem scan_nil (n : Nat) : scan n [] = [] := by cases n <;> rfl
theorem scan_tok {n : Nat} {d m m1 : T} (hd : d ≠ []) (hm : m = d.takeWhile tokC) (h1 : m ≠ []) (h2 : (d.drop m.length).head? = some 61) (hm1 : m1 = (d.drop (m.length + 1)).takeWhile tokC) (h3 : m1 ≠ []) :
    scan (n + 1) d = (m.map lowC, m1) :: goOn n (d.drop (m.length + 1)) := by
  subst hm hm1
  simp only [scan]
  rw [if_neg hd, if_pos ⟨h1, h2⟩, if_pos h3]
  rfl
theorem scan_quo {n : Nat} {d m q rr : T} (hd : d ≠ []) (hm : m = d.takeWhile tokC) (h1 : m ≠ []) (h2 : (d.drop m.length).head? = some 61) (h3 : (d.drop (m.length + 1)).takeWhile tokC = []) (h4 : (d.drop (m.length + 1)).head? = some 34) (h5 : qscan ((d.drop (m.length + 1)).drop 1) = some (q, rr)) :
    scan (n + 1) d = (m.map lowC, 34 :: q) :: goOn n rr := by
  subst hm
  simp only [scan]
  rw [if_neg hd, if_pos ⟨h1, h2⟩, if_neg (fun h => h h3), if_pos h4, h5]
  rfl
theorem scan_open {n : Nat} {d m : T} (hd : d ≠ []) (hm : m = d.takeWhile tokC) (h1 : m ≠ []) (h2 : (d.drop m.length).head? = some 61) (h3 : (d.drop (m.length + 1)).takeWhile tokC = []) (h4 : (d.drop (m.length + 1)).head? = some 34) (h5 : qscan ((d.drop (m.length + 1)).drop 1) = none) :
    scan (n + 1) d = [] := by
  subst hm
  simp only [scan]
  rw [if_neg hd, if_pos ⟨h1, h2⟩, if_neg (fun h => h h3), if_pos h4, h5]
  rfl
theorem scan_else {n : Nat} {d m : T} (hd : d ≠ []) (hm : m = d.takeWhile tokC) (h1 : m ≠ []) (h2 : (d.drop m.length).head? = some 61) (h3 : (d.drop (m.length + 1)).takeWhile tokC = []) (h4 : (d.drop (m.length + 1)).head? ≠ some 34) :
    scan (n + 1) d = goOn n (d.drop (m.length + 1)) := by
  subst hm
  simp only [scan]
  rw [if_neg hd, if_pos ⟨h1, h2⟩, if_neg (fun h => h h3), if_neg h4]
  rfl
theorem scan_no {n : Nat} {d : T} (hd : d ≠ []) (h1 : ¬ (d.takeWhile tokC ≠ [] ∧ (d.drop (d.takeWhile tokC).length).head? = some 61)) : scan (n + 1) d = goOn n d := by
  simp only [scan]
  rw [if_neg hd, if_neg h1]
  rfl
theorem scan_ok {v r : T} {o1 o6 o7 o8 o9 o10 : Option AV} {Pt : List (T × T)} {q1 q2 q3 q4 : Pos} (hr : r.length ≤ 1000) (hPt : Pt = scan r.length r) (hl : Pt.length ≤ 900) (after : ∀ pos o6 o7 o8 o9 o10, aS ns bp_tail (loP v r pos o1 o6 o7 o8 o9 o10) (bPT Pt) ks) :
    aS ns (.whl (.cmp (.loc 4 q1) .Lt (.loc 5 q2) q3) bp_scan .nil q4 bp_tail) (loP v r 0 o1 o6 o7 o8 o9 o10) (bPT []) ks := by
  intro P hP
  have key : ∀ (n pos : Nat) (D : List (T × T)) (o6 o7 o8 o9 o10 : Option AV), r.length - pos ≤ n → pos ≤ r.length → D ++ scan n (r.drop pos) = Pt → P (loP v r pos o1 o6 o7 o8 o9 o10) (bPT D) := by
    intro n
    induction n with
    | zero =>
      intro pos D o6 o7 o8 o9 o10 hn hp hD
      have hz : pos = r.length := by omega
      apply hP
      unfold loP
      repeat walk_at "st"
      refine ⟨fun h => absurd (of_decide_eq_true h) (by omega), fun _ => ?_⟩
      rw [show scan 0 (r.drop pos) = [] from rfl, List.append_nil] at hD
      subst hD
      repeat walk_at "st"
      exact after ..
    | succ n ih =>
      intro pos D o6 o7 o8 o9 o10 hn hp hD
      apply hP
      unfold loP
      repeat walk_at "st"
      refine ⟨fun hz => ?_, fun hz => ?_⟩
      · have hz : pos < r.length := by have := of_decide_eq_true hz; omega
        have hd : r.drop pos ≠ [] := fun e => by rw [List.drop_eq_nil_iff] at e; omega
        have hDl : D.length ≤ 900 := by rw [← hD, List.length_append] at hl; omega
        unfold bp_scan
        refine s_ife ?_
        repeat walk_at "st"
        refine m_con (by omega) (by omega) (by omega) ?_
        rw [Int.toNat_natCast]
        refine r_key (fun m hm h1 h2 => ?_) (fun hno => ?_)
        · have hp1 : pos + m.length + 1 ≤ r.length := by
            rcases Nat.lt_or_ge (pos + m.length) r.length with h | h
            · exact h
            · rw [List.drop_drop, List.drop_eq_nil_of_le h] at h2; cases h2
          have ed : (r.drop pos).drop (m.length + 1) = r.drop (pos + m.length + 1) := by rw [List.drop_drop, Nat.add_assoc]
          repeat walk_at "st"
          refine ⟨fun _ => ?_, fun h => (by cases h)⟩
          refine key_ok hr hp hDl hm hp1 ?_ ?_ ?_ ?_
          · intro m1 o8 hm1 h3
            rw [scan_tok hd hm h1 h2 (by rw [ed]; exact hm1) h3, ed, List.append_cons] at hD
            refine q_next (delim_ok (n := n) hr hp1 hD (fun pos2 o10 h8 h4 h5 => ?_) fun h4 o10 => ?_)
            · exact ih pos2 _ _ _ _ _ _ (by omega) h4 h5
            · subst h4; exact after ..
          · intro h3 h4 q rr pos2 o8 o9 h5 h6 h9 h7
            rw [scan_quo hd hm h1 h2 (by rw [ed]; exact h3) (by rw [ed]; exact h4) (by rw [ed]; exact h5), ← h6, List.append_cons] at hD
            refine q_next (delim_ok (n := n) hr h7 hD (fun pos2 o10 h8 h4 h5 => ?_) fun h4 o10 => ?_)
            · exact ih pos2 _ _ _ _ _ _ (by omega) h4 h5
            · subst h4; exact after ..
          · intro h3 h4 o8 o9 h5
            rw [scan_open hd hm h1 h2 (by rw [ed]; exact h3) (by rw [ed]; exact h4) (by rw [ed]; exact h5), List.append_nil] at hD
            subst hD
            exact after ..
          · intro h3 h4 o8
            rw [scan_else hd hm h1 h2 (by rw [ed]; exact h3) (by rw [ed]; exact h4), ed] at hD
            refine q_next (delim_ok (n := n) hr hp1 hD (fun pos2 o10 h8 h4 h5 => ?_) fun h4 o10 => ?_)
            · exact ih pos2 _ _ _ _ _ _ (by omega) h4 h5
            · subst h4; exact after ..
        · repeat walk_at "st"
          refine ⟨fun h => (by cases h), fun _ => ?_⟩
          repeat walk_at "st"
          rw [scan_no hd hno] at hD
          have hp' := hp
          refine delim_ok (n := n) (v := v) (r := r) (pos := pos) (o1 := o1) (o6 := some .none) (o7 := o7) (o8 := o8) (o9 := o9) (o10 := o10) (D := D) hr hp hD (fun pos2 o10 h8 h4 h5 => ?_) fun h4 o10 => ?_
          · exact ih pos2 _ _ _ _ _ _ (by omega) h4 h5
          · subst h4; exact after ..
      · have hz : pos = r.length := by have := of_decide_eq_false hz; omega
        rw [hz, List.drop_length, scan_nil, List.append_nil] at hD
        subst hD
        repeat walk_at "st"
        exact after ..
  exact key r.length 0 [] _ _ _ _ _ (by omega) (Nat.zero_le _) (by rw [hPt]; rfl)
end Mine
end
section
open PySem PySem.Spec PySem.Calls PyProof.Rows PySem.W PySem.Builtin
set_option maxRecDepth 100000
namespace Mine
local macro_rules | `(tactic| walk_at "st") => `(tactic| first
  | with_reducible refine e_loc (by with_unfolding_all rfl) ?_ | with_reducible refine e_cstr ?_ | with_reducible refine e_cint ?_ | with_reducible refine e_cnone ?_ | with_reducible refine e_cbool ?_ | with_reducible refine e_cbytes ?_ | with_reducible refine e_glob ?_
  | with_reducible refine e_bin ?_ | with_reducible refine e_cmp ?_ | with_reducible refine e_not ?_ | with_reducible refine e_idx ?_ | with_reducible refine e_slAB ?_ | with_reducible refine e_slA ?_ | with_reducible refine e_slB ?_
  | with_reducible refine e_call ?_ | with_reducible refine e_ucall ?_ | with_reducible refine e_ucallK ?_ | with_reducible refine e_meth ?_ | with_reducible refine e_repl ?_ | with_reducible refine e_wal ?_ | with_reducible refine e_tup ?_ | with_reducible refine e_list ?_
  | with_reducible refine e_bytes1 ?_ | with_reducible refine e_sorted2 ?_ | with_reducible refine e_neNil ?_ | with_reducible refine e_dict0 ?_ | with_reducible refine e_fmt ?_ | with_reducible refine e_fstr (by with_unfolding_all rfl) ?_ | with_reducible refine e_sp ?_
  | with_reducible refine el_nil ?_ | with_reducible refine el_cons ?_ | with_reducible refine j_nil ?_ | with_reducible refine j_cons ?_ | with_reducible refine t_not ?_ | with_reducible refine t_cmp ?_ | with_reducible refine t_val (by with_unfolding_all rfl) ?_
  | with_reducible refine s_nil ?_ | with_reducible refine s_asg ?_ | with_reducible refine s_asg2 ?_ | with_reducible refine s_tupS ?_ | with_reducible refine s_tupK ?_ | with_reducible refine s_unp ?_ | with_reducible refine s_setI ?_ | with_reducible refine s_aug (by with_unfolding_all rfl) ?_ | with_reducible refine s_ex ?_
  | with_reducible refine s_forS ?_ | with_reducible refine s_forR ?_ | with_reducible refine s_forT ?_ | with_reducible refine s_forD ?_ | with_reducible refine s_sp ?_ | with_reducible refine s_ret ?_ | with_reducible refine s_brk ?_ | with_reducible refine s_cnt ?_ | with_reducible refine q_next ?_ | with_reducible refine q_brk ?_ | with_reducible refine q_cont ?_ | with_reducible refine q_ret ?_
  | with_reducible refine b_addI ?_ | with_reducible refine b_subI ?_ | with_reducible refine g_addI ?_ | with_reducible refine c_eqI ?_ | with_reducible refine c_eqS ?_ | with_reducible refine c_neS ?_ | with_reducible refine c_lt ?_ | with_reducible refine c_gt ?_ | with_reducible refine c_ge ?_ | with_reducible refine c_inS ?_
  | with_reducible refine c_is (by with_unfolding_all rfl) ?_ | with_reducible refine c_isn (by with_unfolding_all rfl) ?_ | with_reducible refine u_none ?_ | with_reducible refine u_bool ?_ | with_reducible refine u_mt ?_ | with_reducible refine f_ord ?_ | with_reducible refine f_strS ?_
  | with_reducible refine ⟨_, (by with_unfolding_all rfl : rcv _ _ _ = some _), ?_⟩ | with_reducible refine And.intro (by with_unfolding_all rfl : rcv _ _ _ = some _) ?_)
/-! ## one part is taken up -/
variable {ns : List Int} {ah : AH} {ka : KA} {K : KS}
def vS (e : T × T) : T × AV := (e.1, .str e.2)
def conD : Nat → List (T × List T) → List (T × AV)
  | _, [] => []
  | n, (k, _) :: r => (k, .ref n) :: conD (n + 1) r
def conX (c : List (T × List T)) : AH := c.map fun x => .list (x.2.map .str)
def eV : Option T → AV
  | none => .none
  | some x => .str x
theorem dget_vS : ∀ (l : List (T × T)) (x : T), dget (l.map vS) x = (dget l x).map AV.str
  | [], _ => rfl
  | (k, v) :: r, x => by
    show (if k = x then some (AV.str v) else dget (r.map vS) x) = (if k = x then some v else dget r x).map AV.str
    split
    · rfl
    · exact dget_vS r x
theorem dput_vS : ∀ (l : List (T × T)) (x y : T), dput (l.map vS) x (.str y) = (dput l x y).map vS
  | [], _, _ => rfl
  | (k, v) :: r, x, y => by
    show (if k = x then (k, AV.str y) :: r.map vS else (k, AV.str v) :: dput (r.map vS) x (.str y)) = (if k = x then (k, y) :: r else (k, v) :: dput r x y).map vS
    split
    · rfl
    · rw [dput_vS r x y]; rfl
theorem dput_len {α : Type} : ∀ (l : List (T × α)) (x : T) (y : α), (dput l x y).length ≤ l.length + 1
  | [], _, _ => Nat.le_refl _
  | (k, v) :: r, x, y => by
    show (if k = x then (k, y) :: r else (k, v) :: dput r x y).length ≤ _
    split
    · simp
    · have := dput_len r x y; simp only [List.length_cons]; omega
theorem dput_new {α : Type} : ∀ (l : List (T × α)) (x : T) (y : α), dget l x = none → dput l x y = l ++ [(x, y)]
  | [], _, _, _ => rfl
  | (k, v) :: r, x, y, h => by
    have h : (if k = x then some v else dget r x) = none := h
    show (if k = x then (k, y) :: r else (k, v) :: dput r x y) = _
    split at h
    · cases h
    · rename_i h2
      rw [if_neg h2, dput_new r x y h]; rfl
theorem conD_none : ∀ (n : Nat) (c : List (T × List T)) (x : T), dget c x = none → dget (conD n c) x = none
  | _, [], _, _ => rfl
  | n, (k, v) :: r, x, h => by
    have h : (if k = x then some v else dget r x) = none := h
    show (if k = x then some (AV.ref n) else dget (conD (n + 1) r) x) = none
    split at h
    · cases h
    · rename_i h2
      rw [if_neg h2]; exact conD_none (n + 1) r x h
theorem conD_some : ∀ (n : Nat) (c : List (T × List T)) (x : T) (ts : List T), dget c x = some ts → ∃ j, c[j]? = some (x, ts) ∧ dget (conD n c) x = some (.ref (n + j)) ∧ ∀ y, dput c x y = c.set j (x, y)
  | _, [], _, _, h => by cases h
  | n, (k, v) :: r, x, ts, h => by
    have h : (if k = x then some v else dget r x) = some ts := h
    by_cases h2 : k = x
    · rw [if_pos h2] at h; cases h
      subst h2
      refine ⟨0, rfl, ?_, fun y => ?_⟩
      · show (if k = k then some (AV.ref n) else _) = _; rw [if_pos rfl]; rfl
      · show (if k = k then (k, y) :: r else _) = _; rw [if_pos rfl]; rfl
    · rw [if_neg h2] at h
      obtain ⟨j, h3, h4, h5⟩ := conD_some (n + 1) r x ts h
      refine ⟨j + 1, by simpa using h3, ?_, fun y => ?_⟩
      · show (if k = x then _ else dget (conD (n + 1) r) x) = _
        rw [if_neg h2, h4, show n + 1 + j = n + (j + 1) by omega]
      · show (if k = x then _ else (k, v) :: dput r x y) = _
        rw [if_neg h2, h5]; rfl
theorem conD_app : ∀ (n : Nat) (c : List (T × List T)) (x : T) (ts : List T), conD n (c ++ [(x, ts)]) = conD n c ++ [(x, .ref (n + c.length))]
  | _, [], _, _ => rfl
  | n, (k, v) :: r, x, ts => by
    show (k, AV.ref n) :: conD (n + 1) (r ++ [(x, ts)]) = _
    rw [conD_app (n + 1) r x ts, List.length_cons, show n + 1 + r.length = n + (r.length + 1) by omega]; rfl
theorem conD_set : ∀ (n : Nat) (c : List (T × List T)) (j : Nat) (x : T) (ts y : List T), c[j]? = some (x, ts) → conD n (c.set j (x, y)) = conD n c
  | _, [], _, _, _, _, h => by cases h
  | _, (_, _) :: _, 0, _, _, _, h => by cases h; rfl
  | n, (k, v) :: r, j + 1, x, ts, y, h => by
    show (k, AV.ref n) :: conD (n + 1) (r.set j (x, y)) = _
    rw [conD_set (n + 1) r j x ts y (by simpa using h)]; rfl
theorem conD_len : ∀ (n : Nat) (c : List (T × List T)), (conD n c).length = c.length
  | _, [] => rfl
  | n, (_, _) :: r => by show (conD (n + 1) r).length + 1 = _; rw [conD_len]; rfl
theorem cons_conD : ∀ (pre : AH) (c : List (T × List T)), consOf (pre ++ conX c) (conD pre.length c) = some c
  | _, [] => rfl
  | pre, (k, ts) :: r => by
    have e : pre ++ conX ((k, ts) :: r) = (pre ++ [.list (ts.map .str)]) ++ conX r := by rw [List.append_assoc]; rfl
    have g : getO (pre ++ conX ((k, ts) :: r)) pre.length = some (.list (ts.map .str)) := by
      rw [getO_eq, List.getElem?_append_right (Nat.le_refl _), Nat.sub_self]; rfl
    have ih := cons_conD (pre ++ [.list (ts.map .str)]) r
    rw [List.length_append, List.length_singleton, ← e] at ih
    simp only [conD, consOf, g, strsOf_map, Option.bind_some]
    rw [ih]; rfl
theorem c_inD {x : T} {i : Nat} {es : List (T × AV)} {ep : Nat} {q : Bool → Prop} (e : getO ah i = some (.dict es ep)) (h : q ((dget es x).isSome)) : aCmp .In (.str x) (.ref i) ah q := by
  match x, h with
  | [], h => exact ⟨es, ep, e, h⟩
  | [_], h => exact ⟨es, ep, e, h⟩
  | _ :: _ :: _, h => exact ⟨es, ep, e, h⟩
theorem rcv_app {o : Nat} {xs : List AV} (e : getO ah o = some (.list xs)) : rcv (.ref o) .append ah = some ("list", "list.append") := by
  show (match getO ah o with
    | some (.list _) => some ("list", "list.append")
    | _ => none) = _
  rw [e]
def stAH (L : AO) (st : St) (e1 e2 e3 : Nat) : AH := L :: .dict (st.opt.map vS) e1 :: .dict (conD 4 st.con) e2 :: .dict (st.enc.map vS) e3 :: conX st.con
def loQ (v r : T) (o1 o4 o5 o6 : Option AV) (nm : T) (o8 o9 o10 : Option AV) (pv : T) (e : Option T) (hc hs : Bool) (o18 o19 : Option AV) : Lo :=
  [some (.str v), o1, some (.str r), some (.ref 0), o4, o5, o6, some (.str nm), o8, o9, o10, some (.ref 1), some (.ref 2), some (.ref 3), some (.str pv), some (eV e), some (.bool hc), some (.bool hs), o18, o19]
theorem getO_con {L : AO} {st : St} {e1 e2 e3 j : Nat} {x : T} {ts : List T} (h : st.con[j]? = some (x, ts)) : getO (stAH L st e1 e2 e3) (4 + j) = some (.list (ts.map .str)) := by
  rw [Nat.add_comm, getO_eq]
  show (conX st.con)[j]? = _
  unfold conX
  rw [List.getElem?_map, h]; rfl
theorem setO_con {L : AO} {st : St} {e1 e2 e3 j : Nat} {x : T} {ts ts' : List T} (h : st.con[j]? = some (x, ts)) : setO (stAH L st e1 e2 e3) (4 + j) (.list (ts'.map .str)) = stAH L ⟨st.opt, st.con.set j (x, ts'), st.enc⟩ e1 e2 e3 := by
  rw [Nat.add_comm, setO_eq]
  unfold stAH
  rw [conD_set 4 st.con j x ts ts' h]
  show L :: _ :: _ :: _ :: (conX st.con).set j _ = L :: _ :: _ :: _ :: conX (st.con.set j (x, ts'))
  unfold conX
  rw [List.map_set]
def putF (st : St) (nm v : T) (e : Option T) (hc : Bool) : Option St :=
  if hc then
    if (dget st.opt nm).isSome then none else
    some ⟨st.opt, dput st.con nm ((dget st.con nm).getD [] ++ [v]), match e with | some (c :: r) => dput st.enc nm (c :: r) | _ => st.enc⟩
  else if (dget st.con nm).isSome then none else some ⟨dput st.opt nm v, st.con, st.enc⟩
theorem put_enc {v r nm pv : T} {o1 o4 o5 o6 o8 o9 o10 o18 o19 : Option AV} {e : Option T} {hc hs : Bool} {L : AO} {st : St} {e1 e2 e3 : Nat} {q1 q2 q3 q4 q5 q6 : Pos} {rr : CS} (he : st.enc.length ≤ 900) (hel : (e.getD []).length ≤ 1000)
    (h : ∀ e3, aS ns rr (loQ v r o1 o4 o5 o6 nm o8 o9 o10 pv e hc hs o18 o19) (stAH L ⟨st.opt, st.con, match e with | some (c :: r) => dput st.enc nm (c :: r) | _ => st.enc⟩ e1 e2 e3) K) :
    aS ns (.ife (.loc 15 q1) (.setI (.loc 13 q2) (.loc 7 q3) (.loc 15 q4) q5 q6 .nil) .nil q6 rr) (loQ v r o1 o4 o5 o6 nm o8 o9 o10 pv e hc hs o18 o19) (stAH L st e1 e2 e3) K := by
  unfold loQ
  match e, hel, h with
  | none, hel, h =>
    refine s_if (z := false) ?_ (fun h => by cases h) (fun _ => ?_)
    · intro k hk; repeat walk_at "st"
      exact hk
    · repeat walk_at "st"
      exact h e3
  | some [], hel, h =>
    refine s_if (z := false) ?_ (fun h => by cases h) (fun _ => ?_)
    · intro k hk; repeat walk_at "st"
      refine u_str (by simp) ?_
      exact hk
    · repeat walk_at "st"
      exact h e3
  | some (c :: r'), hel, h =>
    refine s_if (z := true) ?_ (fun _ => ?_) (fun h => by cases h)
    · intro k hk; repeat walk_at "st"
      refine u_str (l := c :: r') (by have : (c :: r').length ≤ 1000 := hel; omega) ?_
      exact hk
    · repeat walk_at "st"
      refine ⟨_, _, rfl, by rw [List.length_map]; omega, fun ep' => ?_⟩
      repeat walk_at "st"
      have z := h ep'
      unfold stAH at z ⊢
      rw [← dput_vS] at z
      exact z
theorem put_ok {v r nm pv : T} {o1 o4 o5 o6 o8 o9 o10 o18 o19 : Option AV} {e : Option T} {hc hs : Bool} {L : AO} {st st' : St} {e1 e2 e3 : Nat} (hst : putF st nm pv e hc = some st') (ho : st.opt.length ≤ 900) (hcl : st.con.length ≤ 900) (hcc : ∀ c ∈ st.con, c.2.length ≤ 900) (he : st.enc.length ≤ 900) (hel : (e.getD []).length ≤ 1000)
    (h : ∀ o18 e1 e2 e3, K .next (loQ v r o1 o4 o5 o6 nm o8 o9 o10 pv e hc hs o18 o19) (stAH L st' e1 e2 e3)) : aS ns bp_put (loQ v r o1 o4 o5 o6 nm o8 o9 o10 pv e hc hs o18 o19) (stAH L st e1 e2 e3) K := by
  unfold bp_put
  unfold putF at hst
  cases hc with
  | true =>
    rw [if_pos rfl] at hst
    split at hst
    · cases hst
    · rename_i hno
      cases hst
      refine s_if (z := true) ?_ (fun _ => ?_) (fun h => by cases h)
      · unfold loQ; intro k hk; repeat walk_at "st"
        exact hk
      · refine s_if (z := false) ?_ (fun h => by cases h) (fun _ => ?_)
        · unfold loQ; intro k hk; repeat walk_at "st"
          refine c_inD (i := 1) rfl ?_
          rw [dget_vS, Option.isSome_map, show (dget st.opt nm).isSome = false by simpa using hno]
          exact hk
        · repeat walk_at "st"
          refine s_if (z := (dget st.con nm).isSome) ?_ (fun hz => ?_) (fun hz => ?_)
          · unfold loQ; intro k hk; repeat walk_at "st"
            refine c_inD (i := 2) rfl ?_
            cases q : dget st.con nm with
            | none => rw [conD_none 4 _ _ q]; rw [q] at hk; exact hk
            | some ts => obtain ⟨j, _, h2, _⟩ := conD_some 4 _ _ _ q; rw [h2]; rw [q] at hk; exact hk
          · obtain ⟨ts, q⟩ := Option.isSome_iff_exists.mp hz
            obtain ⟨j, h1, h2, h3⟩ := conD_some 4 _ _ _ q
            have gc := getO_con (L := L) (e1 := e1) (e2 := e2) (e3 := e3) h1
            have hts := hcc _ (List.mem_of_getElem? h1)
            rw [q] at h
            simp only [Option.getD_some, h3] at h
            unfold loQ
            repeat walk_at "st"
            refine ⟨_, _, .ref (4 + j), rfl, h2, ?_⟩
            refine ⟨_, rcv_app gc, ?_⟩
            repeat walk_at "st"
            refine ⟨rcv_app gc, ?_⟩
            refine bm_append gc (by rw [List.length_map]; have : ts.length ≤ 900 := hts; omega) ?_
            rw [show (ts.map AV.str ++ [AV.str pv]) = (ts ++ [pv]).map AV.str by rw [List.map_append]; rfl, setO_con h1]
            repeat walk_at "st"
            refine put_enc (st := ⟨st.opt, st.con.set j (nm, ts ++ [pv]), st.enc⟩) he hel fun e3 => ?_
            repeat walk_at "st"
            exact h _ _ _ _
          · have q : dget st.con nm = none := by simpa using hz
            rw [q] at h
            simp only [Option.getD_none, List.nil_append, dput_new _ _ _ q] at h
            unfold loQ
            repeat walk_at "st"
            refine ⟨by simp, ?_⟩
            repeat walk_at "st"
            refine ⟨_, _, rfl, by rw [conD_len]; omega, fun ep' => ?_⟩
            repeat walk_at "st"
            have e5 : setO (stAH L st e1 e2 e3 ++ [.list [.str pv]]) 2 (.dict (dput (conD 4 st.con) nm (.ref (stAH L st e1 e2 e3).length)) ep') = stAH L ⟨st.opt, st.con ++ [(nm, [pv])], st.enc⟩ e1 ep' e3 := by
              unfold stAH
              rw [conD_app, dput_new _ _ _ (conD_none 4 _ _ q)]
              have : (L :: .dict (st.opt.map vS) e1 :: .dict (conD 4 st.con) e2 :: .dict (st.enc.map vS) e3 :: conX st.con : AH).length = 4 + st.con.length := by
                simp only [List.length_cons, conX, List.length_map]; omega
              rw [this]
              have : conX (st.con ++ [(nm, [pv])]) = conX st.con ++ [.list [.str pv]] := by unfold conX; rw [List.map_append]; rfl
              rw [this]
              rfl
            rw [e5]
            refine put_enc (st := ⟨st.opt, st.con ++ [(nm, [pv])], st.enc⟩) he hel fun e3 => ?_
            repeat walk_at "st"
            exact h _ _ _ _
  | false =>
    rw [if_neg (by decide)] at hst
    split at hst
    · cases hst
    · rename_i hno
      cases hst
      have q : dget st.con nm = none := by simpa using hno
      refine s_if (z := false) ?_ (fun h => by cases h) (fun _ => ?_)
      · unfold loQ; intro k hk; repeat walk_at "st"
        exact hk
      · refine s_if (z := false) ?_ (fun h => by cases h) (fun _ => ?_)
        · unfold loQ; intro k hk; repeat walk_at "st"
          refine c_inD (i := 2) rfl ?_
          rw [conD_none 4 _ _ q]
          exact hk
        · unfold loQ
          repeat walk_at "st"
          refine ⟨_, _, rfl, by rw [List.length_map]; omega, fun ep' => ?_⟩
          repeat walk_at "st"
          have z := h o18 ep' e2 e3
          unfold stAH at z ⊢
          rw [← dput_vS] at z
          exact z
end Mine
end
section
open PySem PySem.Spec PySem.Calls PyProof.Rows PySem.W PySem.Builtin
set_option maxRecDepth 100000
namespace Mine
local macro_rules | `(tactic| walk_at "st") => `(tactic| first
  | with_reducible refine e_loc (by with_unfolding_all rfl) ?_ | with_reducible refine e_cstr ?_ | with_reducible refine e_cint ?_ | with_reducible refine e_cnone ?_ | with_reducible refine e_cbool ?_ | with_reducible refine e_cbytes ?_ | with_reducible refine e_glob ?_
  | with_reducible refine e_bin ?_ | with_reducible refine e_cmp ?_ | with_reducible refine e_not ?_ | with_reducible refine e_idx ?_ | with_reducible refine e_slAB ?_ | with_reducible refine e_slA ?_ | with_reducible refine e_slB ?_
  | with_reducible refine e_call ?_ | with_reducible refine e_ucall ?_ | with_reducible refine e_ucallK ?_ | with_reducible refine e_meth ?_ | with_reducible refine e_repl ?_ | with_reducible refine e_wal ?_ | with_reducible refine e_tup ?_ | with_reducible refine e_list ?_
  | with_reducible refine e_bytes1 ?_ | with_reducible refine e_sorted2 ?_ | with_reducible refine e_neNil ?_ | with_reducible refine e_dict0 ?_ | with_reducible refine e_fmt ?_ | with_reducible refine e_fstr (by with_unfolding_all rfl) ?_ | with_reducible refine e_sp ?_
  | with_reducible refine el_nil ?_ | with_reducible refine el_cons ?_ | with_reducible refine j_nil ?_ | with_reducible refine j_cons ?_ | with_reducible refine t_not ?_ | with_reducible refine t_cmp ?_ | with_reducible refine t_val (by with_unfolding_all rfl) ?_
  | with_reducible refine s_nil ?_ | with_reducible refine s_asg ?_ | with_reducible refine s_asg2 ?_ | with_reducible refine s_tupS ?_ | with_reducible refine s_tupK ?_ | with_reducible refine s_unp ?_ | with_reducible refine s_setI ?_ | with_reducible refine s_aug (by with_unfolding_all rfl) ?_ | with_reducible refine s_ex ?_
  | with_reducible refine s_forS ?_ | with_reducible refine s_forR ?_ | with_reducible refine s_forT ?_ | with_reducible refine s_forD ?_ | with_reducible refine s_sp ?_ | with_reducible refine s_ret ?_ | with_reducible refine s_brk ?_ | with_reducible refine s_cnt ?_ | with_reducible refine q_next ?_ | with_reducible refine q_brk ?_ | with_reducible refine q_cont ?_ | with_reducible refine q_ret ?_
  | with_reducible refine b_addI ?_ | with_reducible refine b_subI ?_ | with_reducible refine g_addI ?_ | with_reducible refine c_eqI ?_ | with_reducible refine c_eqS ?_ | with_reducible refine c_neS ?_ | with_reducible refine c_lt ?_ | with_reducible refine c_gt ?_ | with_reducible refine c_ge ?_ | with_reducible refine c_inS ?_
  | with_reducible refine c_is (by with_unfolding_all rfl) ?_ | with_reducible refine c_isn (by with_unfolding_all rfl) ?_ | with_reducible refine u_none ?_ | with_reducible refine u_bool ?_ | with_reducible refine u_mt ?_ | with_reducible refine f_ord ?_ | with_reducible refine f_strS ?_
  | with_reducible refine ⟨_, (by with_unfolding_all rfl : rcv _ _ _ = some _), ?_⟩ | with_reducible refine And.intro (by with_unfolding_all rfl : rcv _ _ _ = some _) ?_)
variable {ns : List Int} {ah : AH} {ka : KA} {K : KS}
def encE (st : St) (nm : T) (hc : Bool) (e0 : Option T) : Option T := if hc = true ∧ (e0 = none ∨ e0 = some []) then dget st.enc nm else e0
def encV (pv : T) (e : Option T) : Option T := match e with
  | some x => if x = sAscii ∨ x = sUs ∨ x = sUtf8 ∨ x = sIso then unqF pv x else some pv
  | none => none
def encF (st : St) (nm pv : T) (hc hs : Bool) : Option (T × Option T) :=
  if hs then
    if pv.all chsC = false ∧ chsF pv = none then none else match chsF pv with
      | some (cs, v) => (encV v (encE st nm hc (some (cs.map lowC)))).map (·, encE st nm hc (some (cs.map lowC)))
      | none => (encV pv (encE st nm hc none)).map (·, encE st nm hc none)
  else if 37 ∈ uqF pv then none else some (uqF pv, none)
theorem step_parts {st st' : St} {p : T × T} (h : stepF st p = some st') : ∃ nm hc hs v e, p.1 ∈ keyL ∧ markF p.1 = some (nm, hc, hs) ∧ encF st nm p.2 hc hs = some (v, e) ∧ putF st nm v e hc = some st' := by
  unfold stepF at h
  by_cases hk : p.1 ∈ keyL
  · rw [if_pos hk] at h
    cases hm : markF p.1 with
    | none => rw [hm] at h; cases h
    | some x =>
      obtain ⟨nm, hc, hs⟩ := x
      rw [hm] at h
      dsimp only at h
      suffices hsuf : ∃ v e, encF st nm p.2 hc hs = some (v, e) ∧ putF st nm v e hc = some st' by
        obtain ⟨v, e, h1, h2⟩ := hsuf
        exact ⟨nm, hc, hs, v, e, hk, rfl, h1, h2⟩
      clear hm hk
      unfold encF
      cases hs with
      | false =>
        simp only [Bool.false_eq_true, false_and, if_false] at h ⊢
        split at h
        · cases h
        · rename_i v hv
          split at hv
          · cases hv
          · rename_i h37
            cases hv
            exact ⟨_, none, if_neg h37, h⟩
      | true =>
        rw [if_pos rfl]
        split at h
        · cases h
        · rename_i hno
          rw [if_neg (fun x => hno ⟨rfl, x.1, x.2⟩)]
          have fin : ∀ (v0 : T) (e : Option T), (match encV v0 e with | none => none | some v => putF st nm v e hc) = some st' → ∃ v e', (encV v0 e).map (·, e) = some (v, e') ∧ putF st nm v e' hc = some st' := by
            intro v0 e h
            cases q : encV v0 e with
            | none => rw [q] at h; cases h
            | some v => rw [q] at h; exact ⟨v, e, rfl, h⟩
          cases hx : chsF p.2 with
          | none =>
            rw [hx] at h
            refine fin p.2 (encE st nm hc none) ?_
            unfold encE encV putF
            simp only [true_and, if_true] at h ⊢
            exact h
          | some y =>
            obtain ⟨cs, v⟩ := y
            rw [hx] at h
            refine fin v (encE st nm hc (some (cs.map lowC))) ?_
            unfold encE encV putF
            simp only [true_and, if_true] at h ⊢
            exact h
  · rw [if_neg hk] at h; cases h
theorem chs_parts {l cs v : T} (h : chsF l = some (cs, v)) : l.take cs.length = cs ∧ l.drop (l.length - v.length) = v ∧ (∀ c ∈ cs, chsC c = true) ∧ v.length ≤ l.length ∧ cs.length ≤ l.length := by
  unfold chsF at h
  simp only at h
  split at h
  · rename_i r hr
    split at h
    · rename_i v' hv
      split at h
      · rename_i hvv
        cases h
        have e1 := take_while_pre chsC l
        rw [hr] at e1
        have e2 := take_while_pre chsC r
        rw [hv] at e2
        have el : l = (l.takeWhile chsC ++ 39 :: (r.takeWhile chsC ++ [39])) ++ v := by
          conv => lhs; rw [← e1, ← e2]
          simp
        have hlen := congrArg List.length el
        simp only [List.length_append, List.length_cons, List.length_nil] at hlen
        refine ⟨?_, ?_, fun c hc => List.all_eq_true.mp (List.all_takeWhile ..) c hc, by omega, (List.takeWhile_sublist _).length_le⟩
        · have := congrArg (List.take (l.takeWhile chsC).length) e1
          rw [List.take_left] at this
          exact this.symm
        · have := congrArg (List.drop (l.length - v.length)) el
          rw [List.drop_left' (by simp only [List.length_append, List.length_cons, List.length_nil]; omega)] at this
          exact this
      · cases h
    · cases h
  · cases h
theorem bchs_lt {c : Nat} (h : chsC c = true) : c < 128 := by
  have : tokC c = true := by
    unfold chsC at h
    unfold tokC
    rw [Bool.or_eq_true] at h ⊢
    rcases h with h | h
    · exact .inl h
    · right
      rw [List.contains_iff_mem] at h ⊢
      simp at h ⊢
      omega
  exact btok_lt this
theorem m_con1 {a : Addr} {m : M} {l : T} (h1 : l.length ≤ 1000000) (h : reM a m l 0 fun r => ka (match r with | some sp => .mt l sp | none => .none) ah) : aMeth (.con (.ref a)) m [.str l] ah ka := ⟨h1, h⟩
theorem unesc_len : ∀ l : T, (unesc l).length ≤ l.length
  | [] => Nat.le_refl _
  | [_] => Nat.le_refl _
  | c :: d :: r => by
    rw [unesc]
    split
    · have := unesc_len r; simp only [List.length_cons]; omega
    · have := unesc_len (d :: r); simp only [List.length_cons] at this ⊢; omega
theorem uq_len (l : T) : (uqF l).length ≤ l.length := by
  unfold uqF
  split
  · have := unesc_len (l.drop 1).dropLast
    rw [List.length_dropLast, List.length_drop] at this
    omega
  · exact Nat.le_refl _
/-- the tail of the coded branch: the charset is at hand -/
theorem enc_end {v r nm pv : T} {o1 o4 o5 o6 o8 o9 o10 o18 o19 : Option AV} {e : Option T} {hc hs : Bool} {v' : T} {q1 q2 q3 q4 q5 q6 q7 q8 : Pos} {rr : CS} (hl : pv.length ≤ 100000)
    (hv : encV pv e = some v')
    (h : aS ns rr (loQ v r o1 o4 o5 o6 nm o8 o9 o10 v' e hc hs o18 o19) ah K) :
    aS ns (.ife (.sp 0) (.asg 14 (.ucallK .unquote (.loc 14 q1) (Str.ofString "encoding") (.loc 15 q2) q3 q4 q5) q6 q7 .nil) .nil q8 rr) (loQ v r o1 o4 o5 o6 nm o8 o9 o10 pv e hc hs o18 o19) ah K := by
  unfold loQ
  match e, hv, h with
  | none, hv, h => cases hv
  | some x, hv, h =>
    refine s_if (z := decide (x = sAscii ∨ x = sUs ∨ x = sUtf8 ∨ x = sIso)) ?_ (fun hz => ?_) (fun hz => ?_)
    · intro k hk; repeat walk_at "st"
      exact hk
    · have hz := of_decide_eq_true hz
      have hv : (if x = sAscii ∨ x = sUs ∨ x = sUtf8 ∨ x = sIso then unqF pv x else some pv) = some v' := hv
      rw [if_pos hz] at hv
      repeat walk_at "st"
      refine ⟨hl, ?_, v', hv, ?_⟩
      · rcases hz with h | h | h | h
        · exact .inr (.inr (.inl h))
        · exact .inr (.inr (.inr h))
        · exact .inl h
        · exact .inr (.inl h)
      · repeat walk_at "st"
        exact h
    · have hz := of_decide_eq_false hz
      have hv : (if x = sAscii ∨ x = sUs ∨ x = sUtf8 ∨ x = sIso then unqF pv x else some pv) = some v' := hv
      rw [if_neg hz] at hv
      cases hv
      repeat walk_at "st"
      exact h
theorem enc_get {v r nm pv : T} {o1 o4 o5 o6 o8 o9 o10 o18 o19 : Option AV} {e0 : Option T} {hc hs : Bool} {L : AO} {st : St} {e1 e2 e3 : Nat} {q1 q2 q3 q4 q5 q6 q7 q8 q9 q10 q11 : Pos} {rr : CS} (hel : (e0.getD []).length ≤ 1000)
    (h : aS ns rr (loQ v r o1 o4 o5 o6 nm o8 o9 o10 pv (encE st nm hc e0) hc hs o18 o19) (stAH L st e1 e2 e3) K) :
    aS ns (.ife (.bop .And (.cons (.not (.loc 15 q1) q2) (.cons (.loc 16 q3) .nil)) q4) (.asg 15 (.meth (.loc 13 q5) .get (.cons (.loc 7 q6) .nil) q7 q8) q9 q10 .nil) .nil q11 rr) (loQ v r o1 o4 o5 o6 nm o8 o9 o10 pv e0 hc hs o18 o19) (stAH L st e1 e2 e3) K := by
  unfold encE at h
  have hz1 : ∀ k : Bool → Prop, k (decide (e0 = none ∨ e0 = some [])) → tru (eV e0) fun b => k (!b) := by
    intro k hk
    match e0, hel, hk with
    | none, _, hk => exact hk
    | some [], _, hk => exact u_str (by simp) hk
    | some (c :: r'), hel, hk =>
      rw [decide_eq_false (by simp)] at hk
      exact u_str (l := c :: r') (by have : (c :: r').length ≤ 1000 := hel; omega) hk
  refine s_if (z := decide (e0 = none ∨ e0 = some []) && (hc && true)) ?_ (fun hz => ?_) (fun hz => ?_)
  · unfold loQ
    refine ev_bop (ev_and ?_ fun _ => ev_and ?_ fun _ => ev_andN)
    · intro k hk; repeat walk_at "st"
      exact hz1 (fun b => k b _ _) hk
    · intro k hk; repeat walk_at "st"
      exact hk
  · have hz : (e0 = none ∨ e0 = some []) ∧ hc = true := by simpa using hz
    rw [if_pos ⟨hz.2, hz.1⟩] at h
    unfold loQ at h ⊢
    repeat walk_at "st"
    refine ⟨_, _, rfl, ?_⟩
    repeat walk_at "st"
    rw [dget_vS]
    cases q : dget st.enc nm with
    | none => rw [q] at h; exact h
    | some x => rw [q] at h; exact h
  · have hz : ¬ (hc = true ∧ (e0 = none ∨ e0 = some [])) := fun x => by rw [decide_eq_true x.2, x.1] at hz; cases hz
    rw [if_neg hz] at h
    unfold loQ at h ⊢
    repeat walk_at "st"
    exact h
theorem enc_ok {v r nm pv : T} {o1 o4 o5 o6 o8 o9 o10 o18 o19 : Option AV} {hc hs : Bool} {L : AO} {st : St} {e1 e2 e3 : Nat} {v' : T} {e : Option T} (he : encF st nm pv hc hs = some (v', e)) (hl : pv.length ≤ 1000)
    (h : ∀ o19, aS ns bp_put (loQ v r o1 o4 o5 o6 nm o8 o9 o10 v' e hc hs o18 o19) (stAH L st e1 e2 e3) K) : aS ns bp_enc (loQ v r o1 o4 o5 o6 nm o8 o9 o10 pv none hc hs o18 o19) (stAH L st e1 e2 e3) K := by
  unfold bp_enc
  unfold encF at he
  cases hs with
  | false =>
    simp only [Bool.false_eq_true, if_false] at he
    split at he
    · cases he
    · rename_i h37
      cases he
      refine s_if (z := false) ?_ (fun h => by cases h) (fun _ => ?_)
      · unfold loQ; intro k hk; repeat walk_at "st"
        exact hk
      · unfold loQ
        repeat walk_at "st"
        refine ⟨by omega, ?_⟩
        have := uq_len pv
        refine ⟨by omega, h37, by decide, by decide, ?_⟩
        repeat walk_at "st"
        exact h o19
  | true =>
    simp only [if_true] at he
    split at he
    · cases he
    · rename_i hno
      refine s_if (z := true) ?_ (fun _ => ?_) (fun h => by cases h)
      · unfold loQ; intro k hk; repeat walk_at "st"
        exact hk
      · have hre : pv.all chsC = true ∨ (chsF pv).isSome = true := by
          cases q : pv.all chsC with
          | true => exact .inl rfl
          | false =>
            right
            cases q2 : chsF pv with
            | none => exact absurd ⟨q, q2⟩ hno
            | some _ => rfl
        unfold loQ
        refine s_ife ?_
        repeat walk_at "st"
        refine m_con1 (by omega) ⟨hre, ?_⟩
        cases q : chsF pv with
        | none =>
          rw [q] at he
          obtain ⟨he1, he2⟩ : encV pv (encE st nm hc none) = some v' ∧ encE st nm hc none = e := by
            cases q3 : encV pv (encE st nm hc none) with
            | none => rw [q3] at he; cases he
            | some y => rw [q3] at he; cases he; exact ⟨rfl, rfl⟩
          simp only [Option.map_none]
          repeat walk_at "st"
          refine ⟨fun h => (by cases h), fun _ => ?_⟩
          repeat walk_at "st"
          refine enc_get (e0 := none) (pv := pv) (hc := hc) (hs := true) (nm := nm) (v := v) (r := r) (o19 := some .none) (by simp) ?_
          rw [he2] at he1 ⊢
          refine enc_end (v' := v') (by omega) he1 ?_
          repeat walk_at "st"
          exact h _
        | some y =>
          obtain ⟨cs, v0⟩ := y
          obtain ⟨c1, c2, c3, c4, c5⟩ := chs_parts q
          rw [q] at he
          obtain ⟨he1, he2⟩ : encV v0 (encE st nm hc (some (cs.map lowC))) = some v' ∧ encE st nm hc (some (cs.map lowC)) = e := by
            cases q3 : encV v0 (encE st nm hc (some (cs.map lowC))) with
            | none => simp only [q3] at he; cases he
            | some y => simp only [q3] at he; cases he; exact ⟨rfl, rfl⟩
          simp only [Option.map_some]
          repeat walk_at "st"
          refine ⟨fun _ => ?_, fun h => (by cases h)⟩
          repeat walk_at "st"
          refine ⟨by omega, by omega, by omega, by omega, by omega, ?_⟩
          rw [show ((0 : Int)).toNat = 0 from rfl, List.drop_zero, Int.toNat_natCast, Int.toNat_natCast, Int.toNat_natCast, c1, List.take_length, c2]
          refine ⟨rfl, ?_⟩
          repeat walk_at "st"
          refine bm_lower (by omega) (fun c hc => bchs_lt (c3 c hc)) ?_
          repeat walk_at "st"
          refine enc_get (e0 := some (cs.map lowC)) (pv := v0) (hc := hc) (hs := true) (nm := nm) (v := v) (r := r) (by show (cs.map lowC).length ≤ _; rw [List.length_map]; omega) ?_
          rw [he2] at he1 ⊢
          refine enc_end (v' := v') (by omega) he1 ?_
          repeat walk_at "st"
          exact h _
end Mine
end
section
open PySem PySem.Spec PySem.Calls PyProof.Rows PySem.W PySem.Builtin
set_option maxRecDepth 100000
namespace Mine
local macro_rules | `(tactic| walk_at "st") => `(tactic| first
  | with_reducible refine e_loc (by with_unfolding_all rfl) ?_ | with_reducible refine e_cstr ?_ | with_reducible refine e_cint ?_ | with_reducible refine e_cnone ?_ | with_reducible refine e_cbool ?_ | with_reducible refine e_cbytes ?_ | with_reducible refine e_glob ?_
  | with_reducible refine e_bin ?_ | with_reducible refine e_cmp ?_ | with_reducible refine e_not ?_ | with_reducible refine e_idx ?_ | with_reducible refine e_slAB ?_ | with_reducible refine e_slA ?_ | with_reducible refine e_slB ?_
  | with_reducible refine e_call ?_ | with_reducible refine e_ucall ?_ | with_reducible refine e_ucallK ?_ | with_reducible refine e_meth ?_ | with_reducible refine e_repl ?_ | with_reducible refine e_wal ?_ | with_reducible refine e_tup ?_ | with_reducible refine e_list ?_
  | with_reducible refine e_bytes1 ?_ | with_reducible refine e_sorted2 ?_ | with_reducible refine e_neNil ?_ | with_reducible refine e_dict0 ?_ | with_reducible refine e_fmt ?_ | with_reducible refine e_fstr (by with_unfolding_all rfl) ?_ | with_reducible refine e_sp ?_
  | with_reducible refine el_nil ?_ | with_reducible refine el_cons ?_ | with_reducible refine j_nil ?_ | with_reducible refine j_cons ?_ | with_reducible refine t_not ?_ | with_reducible refine t_cmp ?_ | with_reducible refine t_val (by with_unfolding_all rfl) ?_
  | with_reducible refine s_nil ?_ | with_reducible refine s_asg ?_ | with_reducible refine s_asg2 ?_ | with_reducible refine s_tupS ?_ | with_reducible refine s_tupK ?_ | with_reducible refine s_unp ?_ | with_reducible refine s_setI ?_ | with_reducible refine s_aug (by with_unfolding_all rfl) ?_ | with_reducible refine s_ex ?_
  | with_reducible refine s_forS ?_ | with_reducible refine s_forR ?_ | with_reducible refine s_forT ?_ | with_reducible refine s_forD ?_ | with_reducible refine s_sp ?_ | with_reducible refine s_ret ?_ | with_reducible refine s_brk ?_ | with_reducible refine s_cnt ?_ | with_reducible refine q_next ?_ | with_reducible refine q_brk ?_ | with_reducible refine q_cont ?_ | with_reducible refine q_ret ?_
  | with_reducible refine b_addI ?_ | with_reducible refine b_subI ?_ | with_reducible refine g_addI ?_ | with_reducible refine c_eqI ?_ | with_reducible refine c_eqS ?_ | with_reducible refine c_neS ?_ | with_reducible refine c_lt ?_ | with_reducible refine c_gt ?_ | with_reducible refine c_ge ?_ | with_reducible refine c_inS ?_
  | with_reducible refine c_is (by with_unfolding_all rfl) ?_ | with_reducible refine c_isn (by with_unfolding_all rfl) ?_ | with_reducible refine u_none ?_ | with_reducible refine u_bool ?_ | with_reducible refine u_mt ?_ | with_reducible refine f_ord ?_ | with_reducible refine f_strS ?_
  | with_reducible refine ⟨_, (by with_unfolding_all rfl : rcv _ _ _ = some _), ?_⟩ | with_reducible refine And.intro (by with_unfolding_all rfl : rcv _ _ _ = some _) ?_)
variable {ns : List Int} {ah : AH} {ka : KA} {K : KS}
def markChk (pk : T) : Bool := match markF pk, markSp pk with
  | some (nm, hc, hs), some [n, e, a, b, c, d] => decide (0 ≤ n ∧ n ≤ 100 ∧ 0 ≤ e ∧ e ≤ 100) && (decide (a < 0 ∨ b < 0) == !hc) && (decide (c < 0 ∨ d < 0) == !hs) && decide (pk.length ≤ 100) && (if e - n > 0 then pk.take n.toNat == nm else (nm == pk && !hc && !hs))
  | _, _ => false
theorem bmark_all : keyL.all markChk = true := by decide +kernel
theorem octs_len : ∀ (n : Nat) (s : T) (r : List UInt8), s.length ≤ n → octs s = some r → r.length ≤ s.length := by
  intro n
  induction n with
  | zero =>
    intro s r hn h
    have : s = [] := List.length_eq_zero_iff.mp (by omega)
    subst this
    rw [octs.eq_def] at h; cases h; exact Nat.le_refl _
  | succ n ih =>
    intro s r hn h
    cases s with
    | nil => rw [octs.eq_def] at h; cases h; exact Nat.le_refl _
    | cons c s =>
      simp only [List.length_cons] at hn
      by_cases hx : ∃ a b r', c = 37 ∧ s = a :: b :: r' ∧ a ∈ DIG ∧ b ∈ DIG
      · obtain ⟨a, b, r', rfl, rfl, ha, hb⟩ := hx
        obtain ⟨m, rest', _, h2, rfl⟩ := octs_hex ha hb h
        simp only [List.length_cons] at hn
        have := ih r' rest' (by omega) h2
        simp only [List.length_cons]
        omega
      · rw [octs_plain (fun a b r' h1 h2 h3 => hx ⟨a, b, r', h1, h2, h3⟩)] at h
        cases q : octs s with
        | none => rw [q] at h; cases h
        | some r' =>
          rw [q] at h; cases h
          have := ih s r' (by omega) q
          simp only [List.length_cons]
          omega
theorem unq_len {s e l : T} (h : unqF s e = some l) : l.length ≤ s.length := by
  unfold unqF at h
  split at h
  · cases q : octs s with
    | none => rw [q] at h; cases h
    | some r =>
      rw [q] at h
      have h1 := octs_len s.length s r (Nat.le_refl _) q
      have h2 := decF_len (show decF e r = some l from h)
      omega
  · cases h
theorem dget_mem {α : Type} : ∀ {l : List (T × α)} {x : T} {y : α}, dget l x = some y → (x, y) ∈ l
  | [], _, _, h => by cases h
  | (k, v) :: r, x, y, h => by
    have h : (if k = x then some v else dget r x) = some y := h
    split at h
    · rename_i e; cases h; rw [e]; exact List.mem_cons_self ..
    · exact List.mem_cons_of_mem _ (dget_mem h)
theorem dput_mem {α : Type} : ∀ {l : List (T × α)} {x : T} {y : α} {e : T × α}, e ∈ dput l x y → e = (x, y) ∨ e ∈ l
  | [], x, y, e, h => by
    have h : e ∈ [(x, y)] := h
    exact .inl (List.mem_singleton.mp h)
  | (k, v) :: r, x, y, e, h => by
    have h : e ∈ (if k = x then (k, y) :: r else (k, v) :: dput r x y) := h
    split at h
    · rename_i hk
      rcases List.mem_cons.mp h with h | h
      · exact .inl (by rw [h, hk])
      · exact .inr (List.mem_cons_of_mem _ h)
    · rcases List.mem_cons.mp h with h | h
      · exact .inr (by rw [h]; exact List.mem_cons_self ..)
      · rcases dput_mem h with h | h
        · exact .inl h
        · exact .inr (List.mem_cons_of_mem _ h)
structure Good (st : St) (n : Nat) : Prop where
  sum : st.opt.length + st.con.length ≤ n
  con : ∀ c ∈ st.con, c.2.length ≤ n ∧ ∀ p ∈ c.2, p.length ≤ 600
  enc : st.enc.length ≤ n
  encv : ∀ e ∈ st.enc, e.2.length ≤ 600
theorem dput_old {α : Type} : ∀ (l : List (T × α)) (x : T) (y z : α), dget l x = some z → (dput l x y).length = l.length
  | [], _, _, _, h => by cases h
  | (k, v) :: r, x, y, z, h => by
    have h : (if k = x then some v else dget r x) = some z := h
    show (if k = x then (k, y) :: r else (k, v) :: dput r x y).length = _
    split
    · rfl
    · rename_i hk
      rw [if_neg hk] at h
      rw [List.length_cons, dput_old r x y z h]; rfl
theorem enc_len {st : St} {nm pv v : T} {hc hs : Bool} {e : Option T} {n : Nat} (g : Good st n) (h : encF st nm pv hc hs = some (v, e)) (hl : pv.length ≤ 600) : v.length ≤ 600 ∧ (e.getD []).length ≤ 600 := by
  have hE : ∀ e0 : Option T, (e0.getD []).length ≤ 600 → ((encE st nm hc e0).getD []).length ≤ 600 := by
    intro e0 h0
    unfold encE
    split
    · cases q : dget st.enc nm with
      | none => simp
      | some y => exact g.encv _ (dget_mem q)
    · exact h0
  have hV : ∀ (v0 : T) (e : Option T) (v : T), v0.length ≤ 600 → encV v0 e = some v → v.length ≤ 600 := by
    intro v0 e v h0 h
    unfold encV at h
    split at h
    · split at h
      · have := unq_len h; omega
      · cases h; exact h0
    · cases h
  unfold encF at h
  split at h
  · split at h
    · cases h
    · cases hx : chsF pv with
      | none =>
        rw [hx] at h
        cases q : encV pv (encE st nm hc none) with
        | none => simp only [q] at h; cases h
        | some y => simp only [q] at h; cases h; exact ⟨hV _ _ _ hl q, hE none (by simp)⟩
      | some y =>
        obtain ⟨cs, v0⟩ := y
        obtain ⟨_, _, _, c4, c5⟩ := chs_parts hx
        rw [hx] at h
        cases q : encV v0 (encE st nm hc (some (cs.map lowC))) with
        | none => simp only [q] at h; cases h
        | some y => simp only [q] at h; cases h; exact ⟨hV _ _ _ (by omega) q, hE _ (by show (cs.map lowC).length ≤ _; rw [List.length_map]; omega)⟩
  · split at h
    · cases h
    · cases h
      have := uq_len pv
      exact ⟨by omega, by simp⟩
theorem put_good {st st' : St} {nm v : T} {hc : Bool} {e : Option T} {n : Nat} (g : Good st n) (h : putF st nm v e hc = some st') (hv : v.length ≤ 600) (he : (e.getD []).length ≤ 600) : Good st' (n + 1) := by
  unfold putF at h
  have gs := g.sum
  have ge := g.enc
  split at h
  · split at h
    · cases h
    · cases h
      have hcon : (dput st.con nm ((dget st.con nm).getD [] ++ [v])).length ≤ st.con.length + 1 := dput_len ..
      refine ⟨by simp only; omega, fun c hc => ?_, ?_, ?_⟩
      · rcases dput_mem hc with rfl | hc
        · cases q : dget st.con nm with
          | none => exact ⟨by simp, fun p hp => by simp at hp; rw [hp]; exact hv⟩
          | some ts =>
            have := g.con _ (dget_mem q)
            refine ⟨by simp only [Option.getD_some, List.length_append, List.length_cons, List.length_nil]; have := this.1; simp only at this; omega, fun p hp => ?_⟩
            simp only [Option.getD_some, List.mem_append, List.mem_singleton] at hp
            rcases hp with hp | rfl
            · exact this.2 p hp
            · exact hv
        · have := g.con c hc
          exact ⟨by omega, this.2⟩
      · simp only
        split
        · exact Nat.le_trans (dput_len ..) (by omega)
        · omega
      · simp only
        split
        · intro e' he'
          rcases dput_mem he' with rfl | he'
          · exact he
          · exact g.encv _ he'
        · exact g.encv
  · split at h
    · cases h
    · cases h
      have := dput_len st.opt nm v
      refine ⟨by simp only; omega, fun c hc => ?_, by simp only; omega, g.encv⟩
      have := g.con c hc
      exact ⟨by omega, this.2⟩
def loI (v r : T) (o1 o4 o5 o6 : Option AV) (pk : T) (o8 o9 o10 : Option AV) (pv : T) (o15 o16 o17 o18 o19 : Option AV) : Lo :=
  [some (.str v), o1, some (.str r), some (.ref 0), o4, o5, o6, some (.str pk), o8, o9, o10, some (.ref 1), some (.ref 2), some (.ref 3), some (.str pv), o15, o16, o17, o18, o19]
theorem r_mark {l : T} {q : Option (List Int) → Prop} {sp : List Int} (hk : l ∈ keyL) (hs : markSp l = some sp) (h : q (some sp)) : reM 82 .search l 0 q := ⟨hk, sp, hs, h⟩
theorem nonA {p : Prop} [Decidable p] {z : Bool} (h : decide p = z) (l : T) : isNoneA (if p then AV.none else .str l) = some z := by
  subst h
  by_cases hp : p
  · rw [if_pos hp, decide_eq_true hp]; rfl
  · rw [if_neg hp, decide_eq_false hp]; rfl
theorem turn_ok {v r pk pv : T} {o1 o4 o5 o6 o8 o9 o10 o15 o16 o17 o18 o19 : Option AV} {L : AO} {st st' : St} {e1 e2 e3 n : Nat} (hst : stepF st (pk, pv) = some st') (g : Good st n) (hn : n ≤ 20) (hl : pv.length ≤ 600)
    (h : ∀ pk pv o15 o16 o17 o18 o19 e1 e2 e3, K .next (loI v r o1 o4 o5 o6 pk o8 o9 o10 pv o15 o16 o17 o18 o19) (stAH L st' e1 e2 e3)) : aS ns bp_turn (loI v r o1 o4 o5 o6 pk o8 o9 o10 pv o15 o16 o17 o18 o19) (stAH L st e1 e2 e3) K := by
  obtain ⟨nm, hc, hs, v', e, hk, hm, he, hp⟩ := step_parts hst
  obtain ⟨hv', hel⟩ := enc_len g he hl
  have gs := g.sum
  have ge := g.enc
  have hmk := List.all_eq_true.mp bmark_all pk hk
  unfold markChk at hmk
  rw [hm] at hmk
  split at hmk
  · rename_i nm2 hc2 hs2 n2 e2' a b c d em es
    cases em
    simp only [Bool.and_eq_true, decide_eq_true_eq, beq_iff_eq] at hmk
    obtain ⟨⟨⟨⟨⟨m1, m2, m3, m4⟩, mc⟩, ms⟩, ml⟩, mz⟩ := hmk
    have fin : ∀ o18, aS ns bp_enc (loQ v r o1 o4 o5 o6 nm o8 o9 o10 pv none hc hs o18 o19) (stAH L st e1 e2 e3) K := fun o18 => by
      refine enc_ok he (by omega) fun o19 => ?_
      exact put_ok hp (by omega) (by omega) (fun c hc => by have := (g.con c hc).1; omega) (by omega) (by omega) fun o18 e1 e2 e3 => h _ _ _ _ _ _ _ _ _ _
    unfold bp_turn loI
    repeat walk_at "st"
    refine s_ife (t_bop (tl_and ?_))
    repeat walk_at "st"
    refine m_con1 (by omega) (r_mark hk es ?_)
    repeat walk_at "st"
    refine ⟨fun _ => tl_and ?_, fun h => (by cases h)⟩
    repeat walk_at "st"
    refine bm_end rfl ?_
    repeat walk_at "st"
    refine m_startM rfl ?_
    repeat walk_at "st"
    refine ⟨fun hz => tl_andN ⟨fun _ => ?_, fun h => (by cases h)⟩, fun hz => ⟨fun h => (by cases h), fun _ => ?_⟩⟩
    · have hz : e2' - n2 > 0 := of_decide_eq_true hz
      rw [if_pos hz] at mz
      have mz := eq_of_beq mz
      repeat walk_at "st"
      refine m_groupI (by decide) (by decide) rfl rfl (by omega) ?_
      refine e_cnone (c_isn (nonA mc _) ?_)
      rw [Bool.not_not]
      repeat walk_at "st"
      refine m_groupI (by decide) (by decide) rfl rfl (by omega) ?_
      refine e_cnone (c_isn (nonA ms _) ?_)
      rw [Bool.not_not]
      repeat walk_at "st"
      refine m_startM rfl ?_
      refine ⟨by omega, by omega, by omega, ?_⟩
      rw [mz]
      repeat walk_at "st"
      exact fin _
    · have hz : ¬ e2' - n2 > 0 := of_decide_eq_false hz
      rw [if_neg hz] at mz
      simp only [Bool.and_eq_true, beq_iff_eq, Bool.not_eq_true'] at mz
      obtain ⟨⟨z1, z2⟩, z3⟩ := mz
      subst z1 z2 z3
      repeat walk_at "st"
      exact fin _
  · cases hmk
/-- the rest of parse_options_header, behind the first loop -/
theorem fold_vS : ∀ (c : List (T × List T)) (o : List (T × T)), c.foldl (fun o c => dput o c.1 (.str c.2.flatten)) (o.map vS) = (c.foldl (fun o c => dput o c.1 c.2.flatten) o).map vS
  | [], _ => rfl
  | x :: r, o => by
    rw [List.foldl_cons, List.foldl_cons, dput_vS, fold_vS r]
theorem flat_le (B : Nat) : ∀ D : List T, (∀ p ∈ D, p.length ≤ B) → D.flatten.length ≤ D.length * B
  | [], _ => by simp
  | x :: r, h => by
    have h1 := h x (List.mem_cons_self ..)
    have h2 := flat_le B r fun p hp => h p (List.mem_cons_of_mem _ hp)
    rw [List.flatten_cons, List.length_append, List.length_cons, Nat.add_mul]
    omega
theorem cons_st {L : AO} {st : St} {e1 e2 e3 : Nat} : consOf (stAH L st e1 e2 e3) (conD 4 st.con) = some st.con := cons_conD [L, .dict (st.opt.map vS) e1, .dict (conD 4 st.con) e2, .dict (st.enc.map vS) e3] st.con
theorem tail_ok {v r : T} {pos : Nat} {o1 o6 o7 o8 o9 o10 : Option AV} {Pt : List (T × T)} {st : St} (hl : Pt.length ≤ 20) (hp : ∀ p ∈ Pt, p.2.length ≤ 600) (hst : stepsF ⟨[], [], []⟩ Pt = some st)
    (hk : ∀ lo ah j ep, getO ah j = some (.dict ((finF st).map vS) ep) → K (.ret (.tup [.str v, .ref j])) lo ah) : aS ns bp_tail (loP v r pos o1 o6 o7 o8 o9 o10) (bPT Pt) K := by
  unfold bp_tail loP
  repeat walk_at "st"
  refine ⟨_, rfl, by rw [List.length_map]; omega, ?_⟩
  refine loop_ind (fun xs lo ah => ∃ D st1 n o4 o5 o6 o7 o8 o9 o10 o14 o15 o16 o17 o18 o19 e1 e2 e3, xs = D.map (fun p : T × T => AV.tup [.str p.1, .str p.2]) ∧ stepsF st1 D = some st ∧ Good st1 n ∧ n + D.length ≤ 20 ∧ (∀ p ∈ D, p.2.length ≤ 600) ∧
      lo = [some (.str v), o1, some (.str r), some (.ref 0), o4, o5, o6, o7, o8, o9, o10, some (.ref 1), some (.ref 2), some (.ref 3), o14, o15, o16, o17, o18, o19] ∧ ah = stAH (.list (Pt.map fun p => .tup [.str p.1, .str p.2])) st1 e1 e2 e3) ?_ ?_ _ _ _
      ⟨Pt, ⟨[], [], []⟩, 0, _, _, _, _, _, _, _, _, _, _, _, _, _, 0, 0, 0, rfl, hst, ⟨Nat.le_refl _, fun _ h => (nomatch h), Nat.le_refl _, fun _ h => (nomatch h)⟩, by omega, hp, rfl, rfl⟩
  · rintro lo ah ⟨D, st1, n, o4, o5, o6, o7, o8, o9, o10, o14, o15, o16, o17, o18, o19, e1, e2, e3, hD, hs, g, hn, _, rfl, rfl⟩
    have hD : D = [] := by cases D with
      | nil => rfl
      | cons _ _ => cases hD
    subst hD
    cases hs
    have gs := g.sum
    repeat walk_at "st"
    refine ⟨_, _, _, _, st.con, rfl, rfl, cons_st, by rw [List.length_map, conD_len]; omega, fun x hx => ?_, fun ep' => ?_⟩
    · have := g.con x hx
      have h2 := flat_le 600 x.2 this.2
      have : x.2.length * 600 ≤ 20 * 600 := Nat.mul_le_mul_right _ (by omega)
      omega
    · repeat walk_at "st"
      refine ⟨by simp, ?_⟩
      rw [fold_vS]
      exact hk _ _ 1 ep' rfl
  · rintro x r' ih lo ah ⟨D, st1, n, o4, o5, o6, o7, o8, o9, o10, o14, o15, o16, o17, o18, o19, e1, e2, e3, hD, hs, g, hn, hpl, rfl, rfl⟩
    cases D with
    | nil => cases hD
    | cons p D =>
      injection hD with hx hr
      subst hx hr
      simp only [List.length_cons] at hn
      have hs3 : (stepF st1 p).bind (fun st' => stepsF st' D) = some st := hs
      cases q : stepF st1 p with
      | none => rw [q] at hs3; cases hs3
      | some st2 =>
        rw [q] at hs3
        have hpp := hpl p (List.mem_cons_self ..)
        refine ⟨rfl, ?_⟩
        obtain ⟨pk, pv⟩ := p
        have g2 : Good st2 (n + 1) := by
          obtain ⟨nm, hc, hs, v', e, _, _, he, hput⟩ := step_parts q
          obtain ⟨h1, h2⟩ := enc_len g he hpp
          exact put_good g hput h1 h2
        refine turn_ok q g (by omega) hpp ?_
        intro pk2 pv2 o15 o16 o17 o18 o19 e1 e2 e3
        exact ⟨fun _ => rfl, ih _ _ ⟨D, st2, n + 1, _, _, _, _, _, _, _, _, _, _, _, _, _, e1, e2, e3, rfl, hs3, g2, by omega, fun p hp => hpl p (List.mem_cons_of_mem _ hp), rfl, rfl⟩⟩
end Mine
end
section
open PySem PySem.Spec PySem.Calls PyProof.Rows PySem.W PySem.Builtin
set_option maxRecDepth 100000
namespace Mine
local macro_rules | `(tactic| walk_at "st") => `(tactic| first
  | with_reducible refine e_loc (by with_unfolding_all rfl) ?_ | with_reducible refine e_cstr ?_ | with_reducible refine e_cint ?_ | with_reducible refine e_cnone ?_ | with_reducible refine e_cbool ?_ | with_reducible refine e_cbytes ?_ | with_reducible refine e_glob ?_
  | with_reducible refine e_bin ?_ | with_reducible refine e_cmp ?_ | with_reducible refine e_not ?_ | with_reducible refine e_idx ?_ | with_reducible refine e_slAB ?_ | with_reducible refine e_slA ?_ | with_reducible refine e_slB ?_
  | with_reducible refine e_call ?_ | with_reducible refine e_ucall ?_ | with_reducible refine e_ucallK ?_ | with_reducible refine e_meth ?_ | with_reducible refine e_repl ?_ | with_reducible refine e_wal ?_ | with_reducible refine e_tup ?_ | with_reducible refine e_list ?_
  | with_reducible refine e_bytes1 ?_ | with_reducible refine e_sorted2 ?_ | with_reducible refine e_neNil ?_ | with_reducible refine e_dict0 ?_ | with_reducible refine e_fmt ?_ | with_reducible refine e_fstr (by with_unfolding_all rfl) ?_ | with_reducible refine e_sp ?_
  | with_reducible refine el_nil ?_ | with_reducible refine el_cons ?_ | with_reducible refine j_nil ?_ | with_reducible refine j_cons ?_ | with_reducible refine t_not ?_ | with_reducible refine t_cmp ?_ | with_reducible refine t_val (by with_unfolding_all rfl) ?_
  | with_reducible refine s_nil ?_ | with_reducible refine s_asg ?_ | with_reducible refine s_asg2 ?_ | with_reducible refine s_tupS ?_ | with_reducible refine s_tupK ?_ | with_reducible refine s_unp ?_ | with_reducible refine s_setI ?_ | with_reducible refine s_aug (by with_unfolding_all rfl) ?_ | with_reducible refine s_ex ?_
  | with_reducible refine s_forS ?_ | with_reducible refine s_forR ?_ | with_reducible refine s_forT ?_ | with_reducible refine s_forD ?_ | with_reducible refine s_sp ?_ | with_reducible refine s_ret ?_ | with_reducible refine s_brk ?_ | with_reducible refine s_cnt ?_ | with_reducible refine q_next ?_ | with_reducible refine q_brk ?_ | with_reducible refine q_cont ?_ | with_reducible refine q_ret ?_
  | with_reducible refine b_addI ?_ | with_reducible refine b_subI ?_ | with_reducible refine g_addI ?_ | with_reducible refine c_eqI ?_ | with_reducible refine c_eqS ?_ | with_reducible refine c_neS ?_ | with_reducible refine c_lt ?_ | with_reducible refine c_gt ?_ | with_reducible refine c_ge ?_ | with_reducible refine c_inS ?_
  | with_reducible refine c_is (by with_unfolding_all rfl) ?_ | with_reducible refine c_isn (by with_unfolding_all rfl) ?_ | with_reducible refine u_none ?_ | with_reducible refine u_bool ?_ | with_reducible refine u_mt ?_ | with_reducible refine f_ord ?_ | with_reducible refine f_strS ?_
  | with_reducible refine ⟨_, (by with_unfolding_all rfl : rcv _ _ _ = some _), ?_⟩ | with_reducible refine And.intro (by with_unfolding_all rfl : rcv _ _ _ = some _) ?_)
variable {ns : List Int} {ah : AH} {ka : KA} {K : KS}
theorem strip_len (l : T) : (stripF l).length ≤ l.length := by
  unfold stripF
  rw [List.length_reverse]
  have h1 := (List.dropWhile_sublist spt (l := (l.dropWhile spt).reverse)).length_le
  have h2 := (List.dropWhile_sublist spt (l := l)).length_le
  rw [List.length_reverse] at h1
  omega
theorem takeW_all (p : Nat → Bool) : ∀ l : T, (∀ x ∈ l, p x = true) → l.takeWhile p = l
  | [], _ => rfl
  | x :: r, h => by rw [List.takeWhile_cons_of_pos (h x (List.mem_cons_self ..)), takeW_all p r fun y hy => h y (List.mem_cons_of_mem _ hy)]
theorem m_part {l : T} {c : Nat} (h1 : l.length ≤ 1000000) (h2 : c ∈ l) (h : ka (.tup [.str (l.takeWhile (· != c)), .str [c], .str (l.drop ((l.takeWhile (· != c)).length + 1))]) ah) : aMeth (.str l) .partition [.str [c]] ah ka := ⟨h1, h2, h⟩
theorem bm_strip {l : T} (h1 : l.length ≤ 1000000) (h : ka (.str (stripF l)) ah) : aMeth (.str l) .strip [.str [32, 9]] ah ka := ⟨h1, h⟩
theorem bo_parse {l v : T} {es : List (T × T)} (hl : l.length ≤ 600) (hpf : parseF l = some (v, es)) (hk : ∀ lo ah j ep, getO ah j = some (.dict (es.map vS) ep) → K (.ret (.tup [.str v, .ref j])) lo ah) :
    aS ns b_parse_options_header [some (.str l), none, none, none, none, none, none, none, none, none, none, none, none, none, none, none, none, none, none, none] [] K := by
  unfold parseF at hpf
  simp only at hpf
  generalize hv : stripF (l.takeWhile (· != 59)) = v' at hpf
  generalize hr : stripF (l.drop ((l.takeWhile (· != 59)).length + 1)) = r at hpf
  split at hpf
  · cases hpf
  · rename_i hno
    simp only [not_or] at hno
    obtain ⟨n1, n2, n3, n4⟩ := hno
    cases hst : stepsF ⟨[], [], []⟩ (scan r.length r) with
    | none => rw [hst] at hpf; cases hpf
    | some st =>
      rw [hst] at hpf
      cases hpf
      have hmem : 59 ∈ l := by
        by_cases h : 59 ∈ l
        · exact h
        · exfalso
          have : l.takeWhile (· != 59) = l := by
            refine takeW_all _ l fun x hx => ?_
            simp only [bne_iff_ne, ne_eq]
            exact fun e => h (e ▸ hx)
          rw [this, List.drop_eq_nil_of_le (by omega)] at hr
          exact n2 hr.symm
      have hrl : r.length ≤ 600 := by
        have := strip_len (l.drop ((l.takeWhile (· != 59)).length + 1))
        rw [hr, List.length_drop] at this
        omega
      have hvl : v.length ≤ 600 := by
        have := strip_len (l.takeWhile (· != 59))
        rw [hv] at this
        have := (List.takeWhile_sublist (· != 59) (l := l)).length_le
        omega
      have n4 : ∀ p ∈ scan r.length r, p.2.length ≤ 600 := fun p hp => by
        cases q : (scan r.length r).all (fun p => decide (p.2.length ≤ 600)) with
        | false => exact absurd q n4
        | true => exact of_decide_eq_true (List.all_eq_true.mp q p hp)
      unfold b_parse_options_header
      refine s_if (z := false) ?_ (fun h => by cases h) (fun _ => ?_)
      · intro k hk; repeat walk_at "st"
        exact hk
      · repeat walk_at "st"
        refine m_part (by omega) hmem ?_
        refine ⟨rfl, ?_⟩
        repeat walk_at "st"
        have htw := (List.takeWhile_sublist (· != 59) (l := l)).length_le
        refine bm_strip (by omega) ?_
        rw [hv]
        repeat walk_at "st"
        refine bm_strip (by rw [List.length_drop]; omega) ?_
        rw [hr]
        repeat walk_at "st"
        refine s_if (z := v.isEmpty || (r.isEmpty || false)) ?_ (fun h => ?_) (fun _ => ?_)
        · refine ev_bop (ev_or ?_ fun _ => ev_or ?_ fun _ => ev_orN)
          · intro k hk; repeat walk_at "st"
            refine u_str (by omega) ?_
            rw [Bool.not_not]; exact hk
          · intro k hk; repeat walk_at "st"
            refine u_str (by omega) ?_
            rw [Bool.not_not]; exact hk
        · exfalso
          simp only [Bool.or_eq_true, List.isEmpty_iff, Bool.or_false] at h
          rcases h with h | h
          · exact n1 h
          · exact n2 h
        · repeat walk_at "st"
          refine ⟨by simp, ?_⟩
          repeat walk_at "st"
          refine f_len (by omega) ?_
          repeat walk_at "st"
          refine scan_ok (v := v) (r := r) (o1 := some (.str [59])) (o6 := none) (o7 := none) (o8 := none) (o9 := none) (o10 := none) (by omega) rfl (by omega) ?_
          intro pos o6 o7 o8 o9 o10
          exact tail_ok (by omega) n4 hst hk
end Mine
end
section
open PySem PySem.Spec PySem.Calls PyProof.Rows PySem.W PySem.Builtin
set_option maxRecDepth 100000
namespace Mine
local macro_rules | `(tactic| walk_at "st") => `(tactic| first
  | with_reducible refine e_loc (by with_unfolding_all rfl) ?_ | with_reducible refine e_cstr ?_ | with_reducible refine e_cint ?_ | with_reducible refine e_cnone ?_ | with_reducible refine e_cbool ?_ | with_reducible refine e_cbytes ?_ | with_reducible refine e_glob ?_
  | with_reducible refine e_bin ?_ | with_reducible refine e_cmp ?_ | with_reducible refine e_not ?_ | with_reducible refine e_idx ?_ | with_reducible refine e_slAB ?_ | with_reducible refine e_slA ?_ | with_reducible refine e_slB ?_
  | with_reducible refine e_call ?_ | with_reducible refine e_ucall ?_ | with_reducible refine e_ucallK ?_ | with_reducible refine e_meth ?_ | with_reducible refine e_repl ?_ | with_reducible refine e_wal ?_ | with_reducible refine e_tup ?_ | with_reducible refine e_list ?_
  | with_reducible refine e_bytes1 ?_ | with_reducible refine e_sorted2 ?_ | with_reducible refine e_neNil ?_ | with_reducible refine e_dict0 ?_ | with_reducible refine e_fmt ?_ | with_reducible refine e_fstr (by with_unfolding_all rfl) ?_ | with_reducible refine e_sp ?_
  | with_reducible refine el_nil ?_ | with_reducible refine el_cons ?_ | with_reducible refine j_nil ?_ | with_reducible refine j_cons ?_ | with_reducible refine t_not ?_ | with_reducible refine t_cmp ?_ | with_reducible refine t_val (by with_unfolding_all rfl) ?_
  | with_reducible refine s_nil ?_ | with_reducible refine s_asg ?_ | with_reducible refine s_asg2 ?_ | with_reducible refine s_tupS ?_ | with_reducible refine s_tupK ?_ | with_reducible refine s_unp ?_ | with_reducible refine s_setI ?_ | with_reducible refine s_aug (by with_unfolding_all rfl) ?_ | with_reducible refine s_ex ?_
  | with_reducible refine s_forS ?_ | with_reducible refine s_forR ?_ | with_reducible refine s_forT ?_ | with_reducible refine s_forD ?_ | with_reducible refine s_sp ?_ | with_reducible refine s_ret ?_ | with_reducible refine s_brk ?_ | with_reducible refine s_cnt ?_ | with_reducible refine q_next ?_ | with_reducible refine q_brk ?_ | with_reducible refine q_cont ?_ | with_reducible refine q_ret ?_
  | with_reducible refine b_addI ?_ | with_reducible refine b_subI ?_ | with_reducible refine g_addI ?_ | with_reducible refine c_eqI ?_ | with_reducible refine c_eqS ?_ | with_reducible refine c_neS ?_ | with_reducible refine c_lt ?_ | with_reducible refine c_gt ?_ | with_reducible refine c_ge ?_ | with_reducible refine c_inS ?_
  | with_reducible refine c_is (by with_unfolding_all rfl) ?_ | with_reducible refine c_isn (by with_unfolding_all rfl) ?_ | with_reducible refine u_none ?_ | with_reducible refine u_bool ?_ | with_reducible refine u_mt ?_ | with_reducible refine f_ord ?_ | with_reducible refine f_strS ?_
  | with_reducible refine ⟨_, (by with_unfolding_all rfl : rcv _ _ _ = some _), ?_⟩ | with_reducible refine And.intro (by with_unfolding_all rfl : rcv _ _ _ = some _) ?_)
/-! ## the law's own body -/
variable {ns : List Int} {ah : AH} {ka : KA} {K : KS}
def cellsF (ns : List Int) : List Int := (ns.take 8).map (fun n => n % 1000000000) ++ ([2, 123456789, 35, 90817263, 146, 40302010, 88, 5] : List Int).drop ((ns.take 8).map (fun n => n % 1000000000)).length
def drawF (c : List Int) (k : Nat) : Int := c.getD (1 + 2 * k) 0
def bitsF (c : List Int) (k : Nat) : Int := c.getD (2 + 2 * k) 0
def txtF (c : List Int) (k : Nat) : T := textF (drawF c k)
def nameF (c : List Int) (k : Nat) : T := if bitsF c k / 200 % 2 = 1 then (names.getD k []).map upC else names.getD k []
def rowF (c : List Int) (k : Nat) : List T := writtenF (nameF c k) (txtF c k) (drawF c k) (bitsF c k)
def rowsF (c : List Int) (n : Nat) : List (List T) := (List.range n).map (rowF c)
def wantF (c : List Int) (n : Nat) : List (T × T) := (List.range n).foldl (fun w k => dput w (names.getD k []) (txtF c k)) []
def cntF (c : List Int) : Nat := (1 + c.getD 0 0 % 3).toNat
def mains : List T := [[102, 111, 114, 109, 45, 100, 97, 116, 97], [116, 101, 120, 116, 47, 104, 116, 109, 108], [97, 32, 98]]
def mainF (c : List Int) : T := mains.getD (c.getD 0 0 / 3 % 3).toNat []
def betF (c : List Int) : T := spaces.getD (c.getD 0 0 / 9 % 5).toNat []
def weave : Nat → Int → T → List (List T) → T → T
  | 0, _, _, _, line => line
  | n + 1, turn, bet, rows, line => if rows = [] then line else
    weave n (turn / 3) bet ((rows.set (turn % (rows.length : Int)).toNat ((rows.getD (turn % (rows.length : Int)).toNat []).drop 1)).filter fun r => !r.isEmpty)
      (line ++ (bet ++ (rows.getD (turn % (rows.length : Int)).toNat []).headD []))
def lineF (c : List Int) : T := weave 10 (c.getD 7 0) (betF c) (rowsF c (cntF c)) (mainF c)
theorem cells_len (ns : List Int) : (cellsF ns).length = 8 := by
  unfold cellsF
  simp only [List.length_append, List.length_drop, List.length_map, List.length_take, List.length_cons, List.length_nil]
  omega
theorem cells_bd (ns : List Int) : ∀ x ∈ cellsF ns, 0 ≤ x ∧ x < 1000000000 := by
  intro x hx
  unfold cellsF at hx
  rw [List.mem_append] at hx
  rcases hx with hx | hx
  · obtain ⟨y, _, rfl⟩ := List.mem_map.mp hx
    exact ⟨Int.emod_nonneg _ (by decide), Int.emod_lt_of_pos _ (by decide)⟩
  · have := List.mem_of_mem_drop hx
    have all : ([2, 123456789, 35, 90817263, 146, 40302010, 88, 5] : List Int).all (fun x => decide (0 ≤ x ∧ x < 1000000000)) = true := by decide
    exact of_decide_eq_true (List.all_eq_true.mp all x this)
theorem getD_mem {c : List Int} {i : Nat} (h : i < c.length) : c.getD i 0 ∈ c := by
  rw [List.getD_eq_getElem?_getD, List.getElem?_eq_getElem h]; exact List.getElem_mem h
theorem getD_some {c : List Int} {i : Nat} (h : i < c.length) : c[i]? = some (c.getD i 0) := by
  rw [List.getD_eq_getElem?_getD, List.getElem?_eq_getElem h]; rfl
theorem text_ok (d : Int) : (textF d).length ≤ 6 ∧ ∀ c ∈ textF d, c < 256 ∨ c = 8364 := by
  unfold textF
  refine ⟨by rw [List.length_map, List.length_range]; omega, fun c hc => ?_⟩
  obtain ⟨n, _, rfl⟩ := List.mem_map.mp hc
  have h1 : (d / 14 ^ n % 14).toNat < 14 := by omega
  generalize (d / 14 ^ n % 14).toNat = m at h1
  have all : ∀ m : Fin 14, signs.getD m.val 0 < 256 ∨ signs.getD m.val 0 = 8364 := by decide +kernel
  exact all ⟨m, h1⟩
theorem nm_get {k : Nat} (h : k < 3) {q : AV → Prop} (hq : q (.str (names.getD k []))) : aIdx (.con (.ref 104)) (.int (k : Int)) ah q := by
  have : k = 0 ∨ k = 1 ∨ k = 2 := by omega
  rcases this with rfl | rfl | rfl <;> exact ⟨by decide, by decide, _, _, rfl, rfl, hq⟩
theorem nm_len (k : Nat) : (names.getD k []).length ≤ 6 ∧ ∀ c ∈ names.getD k [], c < 128 := by
  match k with
  | 0 => exact ⟨by decide, by decide⟩
  | 1 => exact ⟨by decide, by decide⟩
  | 2 => exact ⟨by decide, by decide⟩
  | _ + 3 => exact ⟨Nat.zero_le _, fun _ h => (nomatch h)⟩
theorem bm_upper {l : T} (h1 : l.length ≤ 1000000) (h2 : ∀ c ∈ l, c < 128) (h : ka (.str (l.map upC)) ah) : aMeth (.str l) .upper [] ah ka := ⟨h1, h2, h⟩
def rowO (D : List (List T)) : AH := D.map fun r => .list (r.map .str)
def rowR (n : Nat) : List AV := (List.range n).map fun i => .ref (6 + i)
def lawAH (c0 c1 c2 : AO) (c : List Int) (w : List (T × T)) (ep : Nat) (D : List (List T)) : AH := c0 :: c1 :: c2 :: .list (c.map .int) :: .dict (w.map vS) ep :: .list (rowR D.length) :: rowO D
def lawLo (sc : Option AV) (k draw bits text name : Option AV) : Lo := [sc, some (.ref 3), some (.ref 4), some (.ref 5), k, draw, bits, text, name, none, none, none, none, none, none, none]
theorem row_ok {sc o4 o5 o6 o7 o8 : Option AV} {c0 c1 c2 : AO} {c : List Int} {w : List (T × T)} {ep : Nat} {D : List (List T)} {k : Nat} (hk : k < 3) (hD : D.length = k) (hw : w.length ≤ 100) (hc8 : c.length = 8) (hcb : ∀ x ∈ c, 0 ≤ x ∧ x < 1000000000)
    (h : ∀ o4 o5 o6 o7 o8 ep, K .next (lawLo sc o4 o5 o6 o7 o8) (lawAH c0 c1 c2 c (dput w (names.getD k []) (txtF c k)) ep (D ++ [rowF c k]))) : aS ns bl_row (setL (lawLo sc o4 o5 o6 o7 o8) 4 (.int (k : Int))) (lawAH c0 c1 c2 c w ep D) K := by
  unfold bl_row lawLo
  have hd := hcb _ (getD_mem (c := c) (i := 1 + 2 * k) (by omega))
  have hb := hcb _ (getD_mem (c := c) (i := 2 + 2 * k) (by omega))
  repeat walk_at "st"
  refine ⟨by decide, by decide, by omega, by omega, ?_⟩
  repeat walk_at "st"
  refine x_list (xs := c.map .int) (v := .int (drawF c k)) (by omega) rfl (by rw [List.length_map]; omega) (by rw [List.getElem?_map, show ((1 : Int) + 2 * (k : Int)).toNat = 1 + 2 * k by omega, getD_some (by omega)]; rfl) ?_
  repeat walk_at "st"
  refine ⟨by decide, by decide, by omega, by omega, ?_⟩
  repeat walk_at "st"
  refine x_list (xs := c.map .int) (v := .int (bitsF c k)) (by omega) rfl (by rw [List.length_map]; omega) (by rw [List.getElem?_map, show ((2 : Int) + 2 * (k : Int)).toNat = 2 + 2 * k by omega, getD_some (by omega)]; rfl) ?_
  repeat walk_at "st"
  refine ⟨rfl, ?_⟩
  repeat walk_at "st"
  refine And.intro hd.1 (And.intro hd.2 ?_)
  have htx := text_ok (drawF c k)
  have hnl := nm_len k
  repeat walk_at "st"
  refine nm_get hk ?_
  refine ⟨_, _, rfl, by rw [List.length_map]; omega, fun ep' => ?_⟩
  repeat walk_at "st"
  refine e_ev (v := .str (nameF c k)) (fun K hK => ?_) ?_
  · unfold nameF at hK
    refine e_if (z := decide (bitsF c k / 200 % 2 = 1)) ?_ (fun h => ?_) (fun h => ?_)
    · intro K hK; repeat walk_at "st"
      refine b_div (by decide) (by decide) ?_
      repeat walk_at "st"
      refine b_mod (by decide) ?_
      repeat walk_at "st"
      exact hK
    · rw [if_pos (of_decide_eq_true h)] at hK
      repeat walk_at "st"
      refine nm_get hk ?_
      repeat walk_at "st"
      refine bm_upper (by omega) hnl.2 ?_
      exact hK
    · rw [if_neg (of_decide_eq_false h)] at hK
      repeat walk_at "st"
      exact nm_get hk hK
  have hnn : (nameF c k).length ≤ 6 := by
    unfold nameF; split
    · rw [List.length_map]; exact hnl.1
    · exact hnl.1
  repeat walk_at "st"
  refine ⟨by omega, by have := htx.1; show (textF (drawF c k)).length ≤ _; omega, htx.2, hd.1, hb.1, ?_⟩
  repeat walk_at "st"
  refine bm_append (xs := rowR D.length) rfl (by unfold rowR; rw [List.length_map, List.length_range]; omega) ?_
  repeat walk_at "st"
  have z := h (some (.int (k : Int))) (some (.int (drawF c k))) (some (.int (bitsF c k))) (some (.str (textF (drawF c k)))) (some (.str (nameF c k))) ep'
  have e1 : rowR (D ++ [rowF c k]).length = rowR D.length ++ [.ref (6 + D.length)] := by
    unfold rowR
    rw [List.length_append, List.length_singleton, List.range_succ, List.map_append]; rfl
  have e2 : rowO (D ++ [rowF c k]) = rowO D ++ [.list ((rowF c k).map .str)] := by unfold rowO; rw [List.map_append]; rfl
  unfold lawAH at z ⊢
  rw [e1, e2] at z
  have e3 : (setO (c0 :: c1 :: c2 :: .list (c.map .int) :: .dict (w.map vS) ep :: .list (rowR D.length) :: rowO D) 4 (.dict (dput (w.map vS) (names.getD k []) (.str (textF (drawF c k)))) ep')).length = 6 + D.length := by
    show ((rowO D).length + 1 + 1 + 1 + 1 + 1 + 1) = _
    unfold rowO; rw [List.length_map]; omega
  rw [e3, dput_vS]
  exact z
end Mine
end
section
open PySem PySem.Spec PySem.Calls PyProof.Rows PySem.W PySem.Builtin
set_option maxRecDepth 100000
namespace Mine
local macro_rules | `(tactic| walk_at "st") => `(tactic| first
  | with_reducible refine e_loc (by with_unfolding_all rfl) ?_ | with_reducible refine e_cstr ?_ | with_reducible refine e_cint ?_ | with_reducible refine e_cnone ?_ | with_reducible refine e_cbool ?_ | with_reducible refine e_cbytes ?_ | with_reducible refine e_glob ?_
  | with_reducible refine e_bin ?_ | with_reducible refine e_cmp ?_ | with_reducible refine e_not ?_ | with_reducible refine e_idx ?_ | with_reducible refine e_slAB ?_ | with_reducible refine e_slA ?_ | with_reducible refine e_slB ?_
  | with_reducible refine e_call ?_ | with_reducible refine e_ucall ?_ | with_reducible refine e_ucallK ?_ | with_reducible refine e_meth ?_ | with_reducible refine e_repl ?_ | with_reducible refine e_wal ?_ | with_reducible refine e_tup ?_ | with_reducible refine e_list ?_
  | with_reducible refine e_bytes1 ?_ | with_reducible refine e_sorted2 ?_ | with_reducible refine e_neNil ?_ | with_reducible refine e_dict0 ?_ | with_reducible refine e_fmt ?_ | with_reducible refine e_fstr (by with_unfolding_all rfl) ?_ | with_reducible refine e_sp ?_
  | with_reducible refine el_nil ?_ | with_reducible refine el_cons ?_ | with_reducible refine j_nil ?_ | with_reducible refine j_cons ?_ | with_reducible refine t_not ?_ | with_reducible refine t_cmp ?_ | with_reducible refine t_val (by with_unfolding_all rfl) ?_
  | with_reducible refine s_nil ?_ | with_reducible refine s_asg ?_ | with_reducible refine s_asg2 ?_ | with_reducible refine s_tupS ?_ | with_reducible refine s_tupK ?_ | with_reducible refine s_unp ?_ | with_reducible refine s_setI ?_ | with_reducible refine s_aug (by with_unfolding_all rfl) ?_ | with_reducible refine s_ex ?_
  | with_reducible refine s_forS ?_ | with_reducible refine s_forR ?_ | with_reducible refine s_forT ?_ | with_reducible refine s_forD ?_ | with_reducible refine s_sp ?_ | with_reducible refine s_ret ?_ | with_reducible refine s_brk ?_ | with_reducible refine s_cnt ?_ | with_reducible refine q_next ?_ | with_reducible refine q_brk ?_ | with_reducible refine q_cont ?_ | with_reducible refine q_ret ?_
  | with_reducible refine b_addI ?_ | with_reducible refine b_subI ?_ | with_reducible refine g_addI ?_ | with_reducible refine c_eqI ?_ | with_reducible refine c_eqS ?_ | with_reducible refine c_neS ?_ | with_reducible refine c_lt ?_ | with_reducible refine c_gt ?_ | with_reducible refine c_ge ?_ | with_reducible refine c_inS ?_
  | with_reducible refine c_is (by with_unfolding_all rfl) ?_ | with_reducible refine c_isn (by with_unfolding_all rfl) ?_ | with_reducible refine u_none ?_ | with_reducible refine u_bool ?_ | with_reducible refine u_mt ?_ | with_reducible refine f_ord ?_ | with_reducible refine f_strS ?_
  | with_reducible refine ⟨_, (by with_unfolding_all rfl : rcv _ _ _ = some _), ?_⟩ | with_reducible refine And.intro (by with_unfolding_all rfl : rcv _ _ _ = some _) ?_)
variable {ns : List Int} {ah : AH} {ka : KA} {ks : KS}
def Rel (ah : AH) : List Nat → List (List T) → Prop
  | [], [] => True
  | i :: is, r :: rs => getO ah i = some (.list (r.map .str)) ∧ Rel ah is rs
  | _, _ => False
theorem Rel.len : ∀ {is : List Nat} {rs : List (List T)}, Rel ah is rs → is.length = rs.length
  | [], [], _ => rfl
  | _ :: _, _ :: _, ⟨_, r⟩ => by rw [List.length_cons, List.length_cons, r.len]
  | [], _ :: _, h => h.elim
  | _ :: _, [], h => h.elim
theorem Rel.at : ∀ {is : List Nat} {rs : List (List T)}, Rel ah is rs → ∀ {p : Nat} {r : List T}, rs[p]? = some r → ∃ i, is[p]? = some i ∧ getO ah i = some (.list (r.map .str))
  | [], [], _, _, _, e => by cases e
  | i :: _, _ :: _, ⟨h, _⟩, 0, _, e => by cases e; exact ⟨i, rfl, h⟩
  | _ :: _, _ :: _, ⟨_, h⟩, p + 1, r, e => by
    obtain ⟨i, h1, h2⟩ := h.at (p := p) (r := r) (by simpa using e)
    exact ⟨i, by simpa using h1, h2⟩
  | [], _ :: _, h, _, _, _ => h.elim
  | _ :: _, [], h, _, _, _ => h.elim
theorem Rel.mem : ∀ {is : List Nat} {rs : List (List T)}, Rel ah is rs → ∀ i ∈ is, ∃ r ∈ rs, getO ah i = some (.list (r.map .str))
  | [], [], _, _, h => (nomatch h)
  | i :: _, r :: _, ⟨h, hr⟩, j, hj => by
    rcases List.mem_cons.mp hj with rfl | hj
    · exact ⟨r, List.mem_cons_self .., h⟩
    · obtain ⟨r', h1, h2⟩ := hr.mem j hj; exact ⟨r', List.mem_cons_of_mem _ h1, h2⟩
  | [], _ :: _, h, _, _ => h.elim
  | _ :: _, [], h, _, _ => h.elim
theorem Rel.to {ah' : AH} : ∀ {is : List Nat} {rs : List (List T)}, Rel ah is rs → (∀ i ∈ is, ∀ o, getO ah i = some o → getO ah' i = some o) → Rel ah' is rs
  | [], [], _, _ => trivial
  | i :: _, _ :: _, ⟨h, hr⟩, k => ⟨k i (List.mem_cons_self ..) _ h, hr.to fun j hj => k j (List.mem_cons_of_mem _ hj)⟩
  | [], _ :: _, h, _ => h.elim
  | _ :: _, [], h, _ => h.elim
theorem Rel.set : ∀ {is : List Nat} {rs : List (List T)}, Rel ah is rs → ∀ (p : Nat) {j : Nat} {r : List T}, getO ah j = some (.list (r.map .str)) → Rel ah (is.set p j) (rs.set p r)
  | [], [], _, _, _, _, _ => trivial
  | _ :: _, _ :: _, ⟨_, hr⟩, 0, _, _, e => ⟨e, hr⟩
  | _ :: _, _ :: _, ⟨h, hr⟩, p + 1, _, _, e => ⟨h, hr.set p e⟩
  | [], _ :: _, h, _, _, _, _ => h.elim
  | _ :: _, [], h, _, _, _, _ => h.elim
def fullO (ah : AH) (i : Nat) : Bool := match getO ah i with | some (.list ys) => !ys.isEmpty | _ => false
theorem Rel.filter : ∀ {is : List Nat} {rs : List (List T)}, Rel ah is rs → Rel ah (is.filter (fullO ah)) (rs.filter fun r => !r.isEmpty)
  | [], [], _ => trivial
  | i :: is, r :: rs, ⟨h, hr⟩ => by
    have e : fullO ah i = !r.isEmpty := by
      unfold fullO; rw [h]
      simp only [List.isEmpty_map]
    cases q : (!r.isEmpty) with
    | true => rw [List.filter_cons_of_pos (by rw [e, q]), List.filter_cons_of_pos (by exact q)]; exact ⟨h, hr.filter⟩
    | false => rw [List.filter_cons_of_neg (by rw [e, q]; decide), List.filter_cons_of_neg (by rw [q]; decide)]; exact hr.filter
  | [], _ :: _, h => h.elim
  | _ :: _, [], h => h.elim
def total (rs : List (List T)) : Nat := (rs.map List.length).sum
theorem total_filter : ∀ rs : List (List T), total (rs.filter fun r => !r.isEmpty) = total rs
  | [] => rfl
  | r :: rs => by
    have ih := total_filter rs
    cases r with
    | nil => rw [List.filter_cons_of_neg (by decide), ih]; unfold total; simp
    | cons x r => rw [List.filter_cons_of_pos (by rfl)]; unfold total at ih ⊢; rw [List.map_cons, List.map_cons, List.sum_cons, List.sum_cons, ih]
theorem total_set : ∀ (rs : List (List T)) (p : Nat) (r : List T), rs[p]? = some r → r ≠ [] → total (rs.set p (r.drop 1)) + 1 = total rs
  | [], _, _, h, _ => by cases h
  | x :: rs, 0, r, h, hr => by
    have h : x = r := by simpa using h
    subst h
    cases x with
    | nil => exact absurd rfl hr
    | cons y r => show ((r.length) + (rs.map List.length).sum) + 1 = (r.length + 1) + (rs.map List.length).sum; omega
  | x :: rs, p + 1, r, h, hr => by
    have := total_set rs p r (by simpa using h) hr
    unfold total at this ⊢
    show x.length + ((rs.set p (r.drop 1)).map List.length).sum + 1 = x.length + (rs.map List.length).sum
    omega
theorem refsOf_map : ∀ is : List Nat, refsOfA (is.map AV.ref) = some is
  | [] => rfl
  | i :: is => by show (refsOfA (is.map AV.ref)).map (i :: ·) = _; rw [refsOf_map is]; rfl
theorem getO_app {i : Nat} {o : AO} (x : AO) (h : getO ah i = some o) : getO (ah ++ [x]) i = some o := by
  rw [getO_eq] at h ⊢
  rw [List.getElem?_append_left (List.getElem?_eq_some_iff.mp h).1]; exact h
theorem getO_set_ne {i j : Nat} {o : AO} (x : AO) (hij : j ≠ i) (h : getO ah i = some o) : getO (setO ah j x) i = some o := by
  rw [getO_eq] at h ⊢
  rw [setO_eq, List.getElem?_set_ne hij]; exact h
theorem getO_set_eq {i : Nat} {o : AO} (x : AO) (h : getO ah i = some o) : getO (setO ah i x) i = some x := by
  rw [getO_eq] at h ⊢
  rw [setO_eq, List.getElem?_set_self (List.getElem?_eq_some_iff.mp h).1]
theorem setO_len (i : Nat) (x : AO) : (setO ah i x).length = ah.length := by rw [setO_eq, List.length_set]
def lawL2 (sc : Option AV) (jr : Nat) (o4 o5 o6 o7 o8 : Option AV) (main line : T) (turn : Int) (bet : T) (o13 o14 o15 : Option AV) : Lo :=
  [sc, some (.ref 3), some (.ref 4), some (.ref jr), o4, o5, o6, o7, o8, some (.str main), some (.str line), some (.int turn), some (.str bet), o13, o14, o15]
theorem weave_ok {sc o4 o5 o6 o7 o8 o13 : Option AV} {jr : Nat} {main bet line fin : T} {turn : Int} {w : List (T × AV)} {ep : Nat} {is : List Nat} {rows : List (List T)} {N : Nat} {q1 q2 q3 q4 : Pos} (hbet : bet.length ≤ 10)
    (hw : getO ah 4 = some (.dict w ep)) (hj : getO ah jr = some (.list (is.map .ref))) (hR : Rel ah is rows) (hne : ∀ r ∈ rows, r ≠ []) (hlen : rows.length ≤ 100) (hrl : ∀ r ∈ rows, r.length ≤ 100 ∧ ∀ p ∈ r, p.length ≤ 1000) (hN : total rows ≤ N) (hsz : line.length + 1010 * N ≤ 50000) (hfin : weave N turn bet rows line = fin)
    (after : ∀ jr turn o13 ah, getO ah 4 = some (.dict w ep) → aS ns bl_end (lawL2 sc jr o4 o5 o6 o7 o8 main fin turn bet o13 none none) ah ks) :
    aS ns (.whl (.neNil (.loc 3 q1) q2 q3) bl_turn .nil q4 bl_end) (lawL2 sc jr o4 o5 o6 o7 o8 main line turn bet o13 none none) ah ks := by
  intro P hP
  have key : ∀ (N : Nat) (ah : AH) (jr : Nat) (is : List Nat) (rows : List (List T)) (line : T) (turn : Int) (o13 : Option AV), getO ah 4 = some (.dict w ep) → getO ah jr = some (.list (is.map .ref)) → Rel ah is rows → (∀ r ∈ rows, r ≠ []) → rows.length ≤ 100 → (∀ r ∈ rows, r.length ≤ 100 ∧ ∀ p ∈ r, p.length ≤ 1000) → total rows ≤ N → line.length + 1010 * N ≤ 50000 → weave N turn bet rows line = fin →
      P (lawL2 sc jr o4 o5 o6 o7 o8 main line turn bet o13 none none) ah := by
    intro N
    induction N with
    | zero =>
      intro ah jr is rows line turn o13 hw hj hR hne hlen hrl hN hsz hfin
      have : rows = [] := by
        cases rows with
        | nil => rfl
        | cons r rs =>
          have := hne r (List.mem_cons_self ..)
          have h2 : 0 < r.length := List.length_pos_iff.mpr this
          unfold total at hN
          rw [List.map_cons, List.sum_cons] at hN
          omega
      subst this
      have hi : is = [] := List.length_eq_zero_iff.mp hR.len
      subst hi
      have hfin : line = fin := hfin
      subst hfin
      apply hP
      unfold lawL2
      repeat walk_at "st"
      refine ⟨_, hj, by simp, ?_⟩
      repeat walk_at "st"
      refine ⟨fun h => (by cases h), fun _ => ?_⟩
      repeat walk_at "st"
      exact after jr turn o13 ah hw
    | succ N ih =>
      intro ah jr is rows line turn o13 hw hj hR hne hlen hrl hN hsz hfin
      have hil := hR.len
      by_cases hrows : rows = []
      · subst hrows
        have hi : is = [] := List.length_eq_zero_iff.mp hil
        subst hi
        have hfin : line = fin := hfin
        subst hfin
        apply hP
        unfold lawL2
        repeat walk_at "st"
        refine ⟨_, hj, by simp, ?_⟩
        repeat walk_at "st"
        refine ⟨fun h => (by cases h), fun _ => ?_⟩
        repeat walk_at "st"
        exact after jr turn o13 ah hw
      · have hrp : 0 < rows.length := List.length_pos_iff.mpr hrows
        have hie : (is.map AV.ref).isEmpty = false := by
          cases is with
          | nil => rw [List.length_nil] at hil; omega
          | cons _ _ => rfl
        simp only [weave] at hfin
        rw [if_neg hrows] at hfin
        have hp0 : 0 ≤ turn % (rows.length : Int) := Int.emod_nonneg _ (by omega)
        have hp1 : turn % (rows.length : Int) < rows.length := Int.emod_lt_of_pos _ (by omega)
        have hml : ((is.map AV.ref).length : Int) = rows.length := by rw [List.length_map, hil]
        generalize hpl : (turn % (rows.length : Int)) = place at hp0 hp1 hfin
        have hpn : place.toNat < rows.length := by omega
        have hrow : rows[place.toNat]? = some (rows.getD place.toNat []) := by rw [List.getD_eq_getElem?_getD, List.getElem?_eq_getElem hpn]; rfl
        generalize rows.getD place.toNat [] = row at hrow hfin
        have hrm := List.mem_of_getElem? hrow
        have hrne := hne row hrm
        obtain ⟨hrl1, hrl2⟩ := hrl row hrm
        obtain ⟨i, hi1, hi2⟩ := hR.at hrow
        obtain ⟨p, row', hrow'⟩ : ∃ p row', row = p :: row' := by
          cases row with
          | nil => exact absurd rfl hrne
          | cons p r => exact ⟨p, r, rfl⟩
        have hpl2 := hrl2 p (by rw [hrow']; exact List.mem_cons_self ..)
        have hnj : ∀ i ∈ is, i ≠ jr := by
          intro i hi e
          obtain ⟨r, hr1, hr2⟩ := hR.mem i hi
          rw [e, hj] at hr2
          have hr3 := hne r hr1
          cases is with
          | nil => cases hi
          | cons a _ =>
            cases r with
            | nil => exact hr3 rfl
            | cons b _ => simp at hr2
        have hj4 : jr ≠ 4 := fun e => by rw [e, hw] at hj; cases hj
        apply hP
        unfold lawL2
        repeat walk_at "st"
        refine ⟨_, hj, by rw [List.length_map, hil]; omega, ?_⟩
        rw [hie]
        repeat walk_at "st"
        refine ⟨fun _ => ?_, fun h => (by cases h)⟩
        unfold bl_turn
        repeat walk_at "st"
        refine ⟨_, hj, by rw [List.length_map, hil]; omega, ?_⟩
        refine b_mod (by rw [hml]; omega) ?_
        rw [hml, hpl]
        repeat walk_at "st"
        have hx : (is.map AV.ref)[place.toNat]? = some (.ref i) := by rw [List.getElem?_map, hi1]; rfl
        have hlx : (is.map AV.ref).length ≤ 1000 := by rw [List.length_map, hil]; omega
        refine x_list hp0 hj hlx hx ?_
        repeat walk_at "st"
        refine x_list (v := .str p) (by decide) hi2 (by rw [List.length_map]; omega) (by rw [hrow']; rfl) ?_
        refine b_addS (by omega) ?_
        refine g_addS (by rw [List.length_append]; omega) ?_
        repeat walk_at "st"
        refine x_list hp0 hj hlx hx ?_
        repeat walk_at "st"
        refine ⟨by decide, by decide, _, hi2, by rw [List.length_map]; omega, ?_⟩
        repeat walk_at "st"
        refine ⟨hp0, _, getO_app _ hj, by rw [List.length_map, hil]; omega, hlx, ?_⟩
        repeat walk_at "st"
        have e1 : (is.map AV.ref).set place.toNat (.ref ah.length) = (is.set place.toNat ah.length).map AV.ref := by rw [List.map_set]
        rw [e1, show ((row.map AV.str).drop (1 : Int).toNat) = (row.drop 1).map AV.str by rw [List.map_drop]; rfl]
        generalize hah2 : setO (ah ++ [.list ((row.drop 1).map .str)]) jr (.list ((is.set place.toNat ah.length).map .ref)) = ah2
        have g1 : ∀ i ∈ is, ∀ o, getO ah i = some o → getO ah2 i = some o := fun i hi o h => by
          rw [← hah2]; exact getO_set_ne _ (fun e => hnj i hi e.symm) (getO_app _ h)
        have g2 : getO ah2 ah.length = some (.list ((row.drop 1).map .str)) := by
          rw [← hah2]
          refine getO_set_ne _ (fun e => ?_) (getO_last _ _)
          have : jr < ah.length := by rw [getO_eq] at hj; exact (List.getElem?_eq_some_iff.mp hj).1
          omega
        have g3 : getO ah2 jr = some (.list ((is.set place.toNat ah.length).map .ref)) := by rw [← hah2]; exact getO_set_eq _ (getO_app _ hj)
        have g4 : getO ah2 4 = some (.dict w ep) := by rw [← hah2]; exact getO_set_ne _ hj4 (getO_app _ hw)
        have hR2 : Rel ah2 (is.set place.toNat ah.length) (rows.set place.toNat (row.drop 1)) := (hR.to g1).set _ g2
        have hl2 := hR2.len
        rw [List.length_set, List.length_set] at hl2
        have hrl3 : ∀ r ∈ rows.set place.toNat (row.drop 1), r.length ≤ 100 ∧ ∀ p ∈ r, p.length ≤ 1000 := by
          intro r hr
          rcases List.mem_or_eq_of_mem_set hr with h | rfl
          · exact hrl r h
          · exact ⟨by rw [List.length_drop]; omega, fun p hp => hrl2 p (List.mem_of_mem_drop hp)⟩
        refine ⟨_, _, g3, by rw [List.length_map, List.length_set, hil]; omega, refsOf_map _, fun i hi => ?_, ?_⟩
        · obtain ⟨r, h1, h2⟩ := hR2.mem i hi
          exact ⟨_, h2, by rw [List.length_map]; exact (hrl3 r h1).1⟩
        · repeat walk_at "st"
          refine b_div (by decide) (by decide) ?_
          repeat walk_at "st"
          have hts := total_set rows place.toNat row hrow hrne
          have htf := total_filter (rows.set place.toNat (row.drop 1))
          refine ih _ _ _ ((rows.set place.toNat (row.drop 1)).filter fun r => !r.isEmpty) _ _ _ (getO_app _ g4) (getO_last _ _) (hR2.filter.to fun i _ o h => getO_app _ h) ?_ ?_ ?_ (by omega) ?_ ?_
          · intro r hr e
            have := (List.mem_filter.mp hr).2
            rw [e] at this; cases this
          · have := List.length_filter_le (fun r : List T => !r.isEmpty) (rows.set place.toNat (row.drop 1))
            rw [List.length_set] at this
            omega
          · intro r hr
            exact hrl3 r (List.mem_filter.mp hr).1
          · simp only [List.length_append]
            omega
          · rw [show row.headD [] = p by rw [hrow']; rfl] at hfin
            exact hfin
  exact key N ah jr is rows line turn o13 hw hj hR hne hlen hrl hN hsz hfin
/-- what is to be shown of the texts alone -/
structure PlainOk (c : List Int) : Prop where
  short : (lineF c).length ≤ 600
  first : ∃ es, parseF (lineF c) = some (mainF c, es) ∧ dEq es (wantF c (cntF c)) = true ∧ es.length ≤ 100 ∧ (∀ e ∈ es, e.1.length ≤ 1000 ∧ e.2.length ≤ 1000 ∧ e.1.getLast? ≠ some 42) ∧
    (dumpF (mainF c) es).length ≤ 600 ∧ ∃ es2, parseF (dumpF (mainF c) es) = some (mainF c, es2) ∧ dEq es2 (wantF c (cntF c)) = true ∧ es2.length ≤ 1000
theorem valsOf_vS : ∀ l : List (T × T), valsOf (l.map vS) = some l
  | [] => rfl
  | (k, v) :: r => by show (valsOf (r.map vS)).map ((k, v) :: ·) = _; rw [valsOf_vS r]; rfl
theorem main_get {m : Int} (h : m = 0 ∨ m = 1 ∨ m = 2) {o : Nat} (e : getO ah o = some (.list (mains.map .str))) {q : AV → Prop} (hq : q (.str (mains.getD m.toNat []))) : aIdx (.ref o) (.int m) ah q := by
  refine x_list (by omega) e (by decide) (v := .str (mains.getD m.toNat [])) ?_ hq
  rcases h with rfl | rfl | rfl <;> rfl
theorem sp_get {m : Int} (h : m = 0 ∨ m = 1 ∨ m = 2 ∨ m = 3 ∨ m = 4) {o : Nat} (e : getO ah o = some (.list (spaces.map .str))) {q : AV → Prop} (hq : q (.str (spaces.getD m.toNat []))) : aIdx (.ref o) (.int m) ah q := by
  refine x_list (by omega) e (by decide) (v := .str (spaces.getD m.toNat [])) ?_ hq
  rcases h with rfl | rfl | rfl | rfl | rfl <;> rfl
theorem u_spaces (h : ka (.ref ah.length) (ah ++ [.list (spaces.map .str)])) : aU .spaces [] ah ka := h
theorem want_len : ∀ (n : Nat) (c : List Int), (wantF c n).length ≤ n
  | 0, _ => Nat.le_refl _
  | n + 1, c => by
    have ih := want_len n c
    unfold wantF at ih ⊢
    rw [List.range_succ, List.foldl_append]
    exact Nat.le_trans (dput_len ..) (by omega)
theorem written_len {nm l : T} {d b : Int} : (writtenF nm l d b).length ≤ 3 := by
  have h : ∀ (ps : List T) (np n : Nat) (told : Bool), (writeL nm l d b np n told ps).length = ps.length := by
    intro ps
    induction ps with
    | nil => intros; rfl
    | cons p r ih => intro np n told; show (writeL nm l d b np (n + 1) _ r).length + 1 = _; rw [ih]; rfl
  unfold writtenF
  rw [h]
  exact (pieces_len l d b).2
end Mine
end
section
open PySem PySem.Spec PySem.Calls PyProof.Rows PySem.W PySem.Builtin
set_option maxRecDepth 100000
namespace Mine
local macro_rules | `(tactic| walk_at "st") => `(tactic| first
  | with_reducible refine e_loc (by with_unfolding_all rfl) ?_ | with_reducible refine e_cstr ?_ | with_reducible refine e_cint ?_ | with_reducible refine e_cnone ?_ | with_reducible refine e_cbool ?_ | with_reducible refine e_cbytes ?_ | with_reducible refine e_glob ?_
  | with_reducible refine e_bin ?_ | with_reducible refine e_cmp ?_ | with_reducible refine e_not ?_ | with_reducible refine e_idx ?_ | with_reducible refine e_slAB ?_ | with_reducible refine e_slA ?_ | with_reducible refine e_slB ?_
  | with_reducible refine e_call ?_ | with_reducible refine e_ucall ?_ | with_reducible refine e_ucallK ?_ | with_reducible refine e_meth ?_ | with_reducible refine e_repl ?_ | with_reducible refine e_wal ?_ | with_reducible refine e_tup ?_ | with_reducible refine e_list ?_
  | with_reducible refine e_bytes1 ?_ | with_reducible refine e_sorted2 ?_ | with_reducible refine e_neNil ?_ | with_reducible refine e_dict0 ?_ | with_reducible refine e_fmt ?_ | with_reducible refine e_fstr (by with_unfolding_all rfl) ?_ | with_reducible refine e_sp ?_
  | with_reducible refine el_nil ?_ | with_reducible refine el_cons ?_ | with_reducible refine j_nil ?_ | with_reducible refine j_cons ?_ | with_reducible refine t_not ?_ | with_reducible refine t_cmp ?_ | with_reducible refine t_val (by with_unfolding_all rfl) ?_
  | with_reducible refine s_nil ?_ | with_reducible refine s_asg ?_ | with_reducible refine s_asg2 ?_ | with_reducible refine s_tupS ?_ | with_reducible refine s_tupK ?_ | with_reducible refine s_unp ?_ | with_reducible refine s_setI ?_ | with_reducible refine s_aug (by with_unfolding_all rfl) ?_ | with_reducible refine s_ex ?_
  | with_reducible refine s_forS ?_ | with_reducible refine s_forR ?_ | with_reducible refine s_forT ?_ | with_reducible refine s_forD ?_ | with_reducible refine s_sp ?_ | with_reducible refine s_ret ?_ | with_reducible refine s_brk ?_ | with_reducible refine s_cnt ?_ | with_reducible refine q_next ?_ | with_reducible refine q_brk ?_ | with_reducible refine q_cont ?_ | with_reducible refine q_ret ?_
  | with_reducible refine b_addI ?_ | with_reducible refine b_subI ?_ | with_reducible refine g_addI ?_ | with_reducible refine c_eqI ?_ | with_reducible refine c_eqS ?_ | with_reducible refine c_neS ?_ | with_reducible refine c_lt ?_ | with_reducible refine c_gt ?_ | with_reducible refine c_ge ?_ | with_reducible refine c_inS ?_
  | with_reducible refine c_is (by with_unfolding_all rfl) ?_ | with_reducible refine c_isn (by with_unfolding_all rfl) ?_ | with_reducible refine u_none ?_ | with_reducible refine u_bool ?_ | with_reducible refine u_mt ?_ | with_reducible refine f_ord ?_ | with_reducible refine f_strS ?_
  | with_reducible refine ⟨_, (by with_unfolding_all rfl : rcv _ _ _ = some _), ?_⟩ | with_reducible refine And.intro (by with_unfolding_all rfl : rcv _ _ _ = some _) ?_)
variable {ns : List Int} {ah : AH} {ka : KA} {K : KS}
theorem write1_len {nm l : T} {d b : Int} {np n : Nat} {told : Bool} {p : T} (h1 : nm.length ≤ 6) (h2 : p.length ≤ 6) : (write1 nm l d b np told n p).1.length ≤ 100 := by
  have hm : (if np = 1 then nm else nm ++ [42] ++ [48 + n]).length ≤ 8 := by
    split
    · omega
    · simp only [List.length_append, List.length_cons, List.length_nil]; omega
  have hc := coded_len p (kindF l d) (decide (d / 3 % 2 = 0))
  have hq := quoted_len p
  have h3 := chs_len (kindF l d).toNat (d / 5 % 2).toNat
  have h4 := tg_len (d / 11 % 3).toNat
  unfold write1
  simp only
  generalize (if np = 1 then nm else nm ++ [42] ++ [48 + n]) = mk at hm
  split
  · split
    · simp only [List.length_append, List.length_cons, List.length_nil]; omega
    · simp only [List.length_append, List.length_cons, List.length_nil]; omega
  · split
    · simp only [List.length_append, List.length_cons, List.length_nil]; omega
    · simp only [List.length_append, List.length_cons, List.length_nil]; omega
theorem written_bd {nm l : T} {d b : Int} (h1 : nm.length ≤ 6) (h2 : l.length ≤ 6) : ∀ p ∈ writtenF nm l d b, p.length ≤ 100 := by
  have h : ∀ (ps : List T) (np n : Nat) (told : Bool), (∀ p ∈ ps, p.length ≤ 6) → ∀ p ∈ writeL nm l d b np n told ps, p.length ≤ 100 := by
    intro ps
    induction ps with
    | nil => intro np n told _ p hp; cases hp
    | cons x r ih =>
      intro np n told hps p hp
      have hp : p ∈ (write1 nm l d b np told n x).1 :: writeL nm l d b np (n + 1) (write1 nm l d b np told n x).2 r := hp
      rcases List.mem_cons.mp hp with rfl | hp
      · exact write1_len h1 (hps x (List.mem_cons_self ..))
      · exact ih _ _ _ (fun p hp => hps p (List.mem_cons_of_mem _ hp)) p hp
  unfold writtenF
  exact h _ _ _ _ fun p hp => by have := (pieces_sub hp).1; omega
theorem written_pos {nm l : T} {d b : Int} : writtenF nm l d b ≠ [] := by
  have h := (pieces_len l d b).1
  unfold writtenF
  cases hp : piecesF l d b with
  | nil => rw [hp] at h; simp at h
  | cons p r => intro e; cases e
theorem name_len (c : List Int) (k : Nat) : (nameF c k).length ≤ 6 := by
  have hnl := nm_len k
  unfold nameF; split
  · rw [List.length_map]; exact hnl.1
  · exact hnl.1
theorem rel_rows : ∀ (pre : AH) (D : List (List T)), Rel (pre ++ rowO D) ((List.range D.length).map fun i => pre.length + i) D
  | _, [] => trivial
  | pre, r :: D => by
    have e : pre ++ rowO (r :: D) = (pre ++ [.list (r.map .str)]) ++ rowO D := by rw [List.append_assoc]; rfl
    have ih := rel_rows (pre ++ [.list (r.map .str)]) D
    rw [← e] at ih
    rw [List.length_cons, List.range_succ_eq_map, List.map_cons, List.map_map]
    refine ⟨?_, ?_⟩
    · rw [getO_eq, List.getElem?_append_right (by omega), Nat.add_zero, Nat.sub_self]; rfl
    · have e2 : ((fun i => (pre ++ [AO.list (r.map .str)]).length + i) : Nat → Nat) = ((fun i => pre.length + i) ∘ Nat.succ) := by
        funext i
        simp only [List.length_append, List.length_cons, List.length_nil, Function.comp]
        omega
      rw [e2] at ih
      exact ih
theorem total_le : ∀ (B : Nat) (rs : List (List T)), (∀ r ∈ rs, r.length ≤ B) → total rs ≤ rs.length * B
  | _, [], _ => by unfold total; simp
  | B, r :: rs, h => by
    have h1 := h r (List.mem_cons_self ..)
    have h2 := total_le B rs fun r hr => h r (List.mem_cons_of_mem _ hr)
    unfold total at h2 ⊢
    rw [List.map_cons, List.sum_cons, List.length_cons, Nat.add_mul]
    omega
theorem end_ok {sc o4 o5 o6 o7 o8 o13 : Option AV} {jr : Nat} {bet : T} {turn : Int} {c : List Int} {ep : Nat} (X : PlainOk c) (hcn : cntF c ≤ 3) (hw : getO ah 4 = some (.dict ((wantF c (cntF c)).map vS) ep)) (hml : (mainF c).length ≤ 9)
    (hk : ∀ lo ah, K (.ret (.bool true)) lo ah) : aS ns bl_end (lawL2 sc jr o4 o5 o6 o7 o8 (mainF c) (lineF c) turn bet o13 none none) ah K := by
  obtain ⟨es, x1, x2, x3, x4, x5, es2, x6, x7, x8⟩ := X.first
  have hwl := want_len (cntF c) c
  unfold bl_end lawL2
  repeat walk_at "st"
  refine ⟨X.short, _, _, x1, fun ep1 => ?_⟩
  repeat walk_at "st"
  refine ⟨by decide, _, by simp, rfl, ?_⟩
  repeat walk_at "st"
  refine ⟨by decide, _, by simp, rfl, ?_⟩
  repeat walk_at "st"
  refine ⟨es.map vS, ep1, es, getO_last _ _, valsOf_vS es, x3, by omega, x4, ?_⟩
  repeat walk_at "st"
  refine ⟨x5, _, _, x6, fun ep2 => ?_⟩
  repeat walk_at "st"
  refine e_bop (bo_and ?_)
  repeat walk_at "st"
  refine ⟨by simp, ?_⟩
  refine ⟨_, _, _, _, _, _, getO_app _ (getO_last _ _), getO_app _ (getO_app _ hw), valsOf_vS es, valsOf_vS _, by rw [List.length_map]; omega, by rw [List.length_map]; omega, rfl, x2, ?_⟩
  repeat walk_at "st"
  refine ⟨fun _ => bo_one ?_, fun h => (by cases h)⟩
  repeat walk_at "st"
  refine ⟨by simp, ?_⟩
  refine ⟨_, _, _, _, _, _, getO_last _ _, getO_app _ (getO_app _ hw), valsOf_vS es2, valsOf_vS _, by rw [List.length_map]; omega, by rw [List.length_map]; omega, rfl, x7, ?_⟩
  exact hk _ _
theorem bo_law {sc : Option AV} (X : PlainOk (cellsF ns)) (hk : ∀ lo ah, K (.ret (.bool true)) lo ah) : aS ns b_law [sc, none, none, none, none, none, none, none, none, none, none, none, none, none, none, none] [] K := by
  have hc8 := cells_len ns
  have hcb := cells_bd ns
  unfold b_law
  have hcn : cntF (cellsF ns) ≤ 3 ∧ (1 + (cellsF ns).getD 0 0 % 3).toNat = cntF (cellsF ns) ∧ 0 ≤ 1 + (cellsF ns).getD 0 0 % 3 := by unfold cntF; omega
  have hcd : (cellsF ns).map AV.int = ((ns.take 8).map fun n => AV.int (n % 1000000000)) ++ ([.int 2, .int 123456789, .int 35, .int 90817263, .int 146, .int 40302010, .int 88, .int 5] : List AV).drop ((ns.take 8).map fun n => AV.int (n % 1000000000)).length := by
    unfold cellsF
    rw [List.map_append, List.map_drop, List.map_map, List.length_map, List.length_map]
    rfl
  have hl8 : ((ns.take 8).map fun n => AV.int (n % 1000000000)).length ≤ 8 := by rw [List.length_map, List.length_take]; omega
  repeat walk_at "st"
  show aS ns _ _ _ K
  generalize ((ns.take 8).map fun n => AV.int (n % 1000000000)) = cl at hcd hl8 ⊢
  repeat walk_at "st"
  refine ⟨by simp, ?_⟩
  repeat walk_at "st"
  refine ⟨_, rfl, by omega, ?_⟩
  refine ⟨by omega, by omega, _, rfl, by simp, ?_⟩
  rw [Int.toNat_natCast]
  refine ⟨_, _, rfl, rfl, by simp only [List.length_drop, List.length_cons, List.length_nil]; omega, ?_⟩
  rw [← hcd]
  repeat walk_at "st"
  refine ⟨by simp, ?_⟩
  repeat walk_at "st"
  refine ⟨rfl, ?_⟩
  generalize hcc : cellsF ns = c at *
  repeat walk_at "st"
  have hg : ∀ {i : Nat}, i < 8 → (c.map AV.int)[i]? = some (.int (c.getD i 0)) := fun h => by rw [List.getElem?_map, getD_some (by omega)]; rfl
  have hc00 := hcb _ (getD_mem (c := c) (i := 0) (by omega))
  refine x_list (by decide) rfl (by rw [List.length_map]; omega) (hg (by decide)) ?_
  repeat walk_at "st"
  refine b_mod (by decide) ?_
  repeat walk_at "st"
  refine ⟨hcn.2.2, by omega, ?_⟩
  rw [show (1 + c.getD (Int.toNat 0) 0 % 3).toNat = cntF c from hcn.2.1]
  have hcn1 := hcn.1
  refine loop_ind (fun r lo ah => ∃ k c0 c1 c2 ep o4 o5 o6 o7 o8, r = (List.range (cntF c)).drop k ∧ k ≤ cntF c ∧ lo = lawLo sc o4 o5 o6 o7 o8 ∧ ah = lawAH c0 c1 c2 c (wantF c k) ep (rowsF c k)) ?_ ?_ _ _ _
    ⟨0, _, _, _, _, _, _, _, _, _, rfl, Nat.zero_le _, rfl, rfl⟩
  · rintro lo ah ⟨k, c0, c1, c2, ep, o4, o5, o6, o7, o8, hr, hk0, rfl, rfl⟩
    have hk1 : cntF c ≤ k := by have := hr.symm; rwa [List.drop_eq_nil_iff, List.length_range] at this
    have hk2 : k = cntF c := by omega
    subst hk2
    unfold lawLo
    repeat walk_at "st"
    refine ⟨by simp, ?_⟩
    repeat walk_at "st"
    refine x_list (by decide) rfl (by rw [List.length_map]; omega) (hg (by decide)) ?_
    repeat walk_at "st"
    refine b_div (by decide) (by decide) ?_
    repeat walk_at "st"
    refine b_mod (by decide) ?_
    refine main_get (by omega) (getO_last _ _) ?_
    repeat walk_at "st"
    refine x_list (by decide) rfl (by rw [List.length_map]; omega) (hg (by decide)) ?_
    repeat walk_at "st"
    refine u_spaces ?_
    repeat walk_at "st"
    refine x_list (by decide) rfl (by rw [List.length_map]; omega) (hg (by decide)) ?_
    repeat walk_at "st"
    refine b_div (by decide) (by decide) ?_
    repeat walk_at "st"
    refine b_mod (by decide) ?_
    refine sp_get (by omega) (getO_last _ _) ?_
    repeat walk_at "st"
    refine ⟨rfl, ?_⟩
    have hml : (mainF c).length ≤ 9 := by
      unfold mainF
      have : (c.getD 0 0 / 3 % 3) = 0 ∨ (c.getD 0 0 / 3 % 3) = 1 ∨ (c.getD 0 0 / 3 % 3) = 2 := by omega
      rcases this with e | e | e <;> rw [e] <;> decide
    have hbl : (betF c).length ≤ 10 := by
      unfold betF
      have : (c.getD 0 0 / 9 % 5) = 0 ∨ (c.getD 0 0 / 9 % 5) = 1 ∨ (c.getD 0 0 / 9 % 5) = 2 ∨ (c.getD 0 0 / 9 % 5) = 3 ∨ (c.getD 0 0 / 9 % 5) = 4 := by omega
      rcases this with e | e | e | e | e <;> rw [e] <;> decide
    have hrr : ∀ r ∈ rowsF c (cntF c), r ≠ [] ∧ r.length ≤ 3 ∧ ∀ p ∈ r, p.length ≤ 100 := by
      intro r hr
      obtain ⟨k, _, rfl⟩ := List.mem_map.mp hr
      exact ⟨written_pos, written_len, written_bd (name_len c k) (text_ok _).1⟩
    have hrlen : (rowsF c (cntF c)).length = cntF c := by unfold rowsF; rw [List.length_map, List.length_range]
    have htl := total_le 3 _ fun r hr => (hrr r hr).2.1
    have hRel := rel_rows [c0, c1, c2, .list (c.map .int), .dict ((wantF c (cntF c)).map vS) ep, .list (rowR (rowsF c (cntF c)).length)] (rowsF c (cntF c))
    refine weave_ok (jr := 5) (main := mainF c) (bet := betF c) (line := mainF c) (turn := c.getD 7 0) (fin := lineF c) (rows := rowsF c (cntF c)) (is := (List.range (rowsF c (cntF c)).length).map fun i => 6 + i) (w := (wantF c (cntF c)).map vS) (ep := ep) (N := 10)
      hbl rfl ?_ (hRel.to fun i _ o h => getO_app _ (getO_app _ h)) (fun r hr => (hrr r hr).1) (by omega) (fun r hr => ⟨by have := (hrr r hr).2.1; omega, fun p hp => by have := (hrr r hr).2.2 p hp; omega⟩) (by omega) (by omega) rfl ?_
    · refine getO_app _ (getO_app _ ?_)
      show some (AO.list (rowR (rowsF c (cntF c)).length)) = _
      unfold rowR
      rw [List.map_map]; rfl
    · intro jr turn o13 ah hw
      exact end_ok X hcn1 hw hml hk
  · rintro x r ih lo ah ⟨k, c0, c1, c2, ep, o4, o5, o6, o7, o8, hr, hk0, rfl, rfl⟩
    have hx : x = k ∧ k < cntF c ∧ r = (List.range (cntF c)).drop (k + 1) := by
      have h2 := congrArg List.head? hr
      rw [List.head?_drop] at h2
      obtain ⟨h4, h5⟩ := List.getElem?_eq_some_iff.mp h2.symm
      rw [List.length_range] at h4
      rw [List.getElem_range] at h5
      have h6 := congrArg List.tail hr
      rw [List.tail_drop] at h6
      exact ⟨h5.symm, h4, h6⟩
    obtain ⟨rfl, hlt, hr'⟩ := hx
    have hwl := want_len x c
    refine row_ok (by omega) (by unfold rowsF; rw [List.length_map, List.length_range]) (by omega) hc8 hcb ?_
    intro o4 o5 o6 o7 o8 ep'
    refine ih _ _ ⟨x + 1, c0, c1, c2, ep', o4, o5, o6, o7, o8, hr', hlt, rfl, ?_⟩
    unfold wantF rowsF
    rw [List.range_succ, List.foldl_append, List.map_append]
    rfl
end Mine
end
section
open PySem PySem.Spec PySem.Calls PyProof.Rows PySem.W
namespace Mine

/-- what the top has left -/
structure Base (prog : Program) (w : World) (H : Heap) : Prop where
  g : ∃ mg, H.Ns mainGlobals mg ∧ (∀ n : GN, ∃ v, mg n.s = some v ∧ VR [] H n.v v) ∧ (∀ f : BF, mg f.s = none) ∧ mg "range" = none ∧ ∀ f : UF, mg f.s = some (.ref f.a)
  b : ∃ mb, H.Ns builtinsNs mb ∧ (∀ f : BF, mb f.s = some f.v) ∧ mb "range" = some (.type "range")
  tab : ∀ a xs, gtab a = some xs → ∃ vs, H.IsList a vs.toArray ∧ VRs [] H xs vs
  t48 : H.get? 48 = some (tabObj #[])
  t60 : H.get? 60 = some (tabObj #[])
  sysm : ∃ o, H.get? sysModules = some o
  nolim : H.NoLimit
/-- a frame in which the rules hold -/
structure FOk (H : Heap) (F : FC) : Prop where
  kind : F.env.scope.kind = .function
  glo : F.env.globals = mainGlobals
  bui : F.env.builtins = builtinsNs
  sl : ∀ (i : Nat) name, F.slots[i]? = some (name, none) → F.env.kindOf name = some .local
  sc : ∀ (i : Nat) name c, F.slots[i]? = some (name, some c) → (F.env.kindOf name = some .cell ∨ F.env.kindOf name = some .free) ∧ F.env.cells.lookup name = some c
  nd : (F.slots.map (·.1)).Nodup
  ndb : ∀ x ∈ F.slots.map (·.1), (x == ("__debug__" : Str)) = false ∧ (x == ("__classdict__" : Str)) = false
  cnd : F.cellsOf.Nodup
  base : ∀ b o, H.get? b = some o → b ≠ 48 → b ≠ 60 → F.pr b o
  depth : F.A.depth + 20 * F.lv ≤ 800
  units : F.A.units + 200 * F.lv ≤ 9000
  hand : F.A.handled = none
  guards : F.A.guards = some []
def FC.nm (F : FC) (i : Nat) : Str := (F.slots.getD i (Str.empty, none)).1

variable {prog : Program} {w : World} {H : Heap} {F : FC} {σ : List Addr} {lo : Lo} {ah : AH} {s : Shared}

theorem Inv.old (I : Inv prog w F σ lo ah s) (OK : FOk H F) {b : Addr} {o : Obj} (e : H.get? b = some o) (h1 : b ≠ 48) (h2 : b ≠ 60) : s.heap.get? b = some o := (I.pr b o (OK.base b o e h1 h2)).1
theorem Inv.oldFrz (I : Inv prog w F σ lo ah s) (OK : FOk H F) (B : Base prog w H) : Frz H s.heap := fun a o e f => by
  by_cases h1 : a = 48
  · subst h1; rw [B.t48] at e; cases e; cases f
  · by_cases h2 : a = 60
    · subst h2; rw [B.t60] at e; cases e; cases f
    · exact I.old OK e h1 h2
theorem Inv.oldVR (I : Inv prog w F σ lo ah s) (OK : FOk H F) (B : Base prog w H) {av : AV} {v : Value} (x : VR [] H av v) : VR σ s.heap av v := x.mono (List.nil_prefix) (I.oldFrz OK B)
theorem Inv.oldNs (I : Inv prog w F σ lo ah s) (OK : FOk H F) {a : Addr} {m : Str → Option Value} (x : H.Ns a m) (h1 : a ≠ 48) (h2 : a ≠ 60) : s.heap.Ns a m :=
  let ⟨o, es, ep, e, r⟩ := x; ⟨o, es, ep, I.old OK e h1 h2, r⟩

abbrev Post (prog : Program) (w : World) := PostR (α := Value) prog w VR

/-! ### names and constants -/
theorem FC.nm_of {i : Nat} {x : Str} {c : Option Addr} (e : F.slots[i]? = some (x, c)) : F.nm i = x := by
  unfold FC.nm; rw [List.getD_eq_getElem?_getD, e]; rfl
theorem Inv.slot (I : Inv prog w F σ lo ah s) {i : Nat} {av : AV} (h : getL lo i = some av) : ∃ c, F.slots[i]? = some (F.nm i, c) := by
  have hl : i < F.slots.length := by rw [← I.llen]; exact getL_lt _ _ _ h
  refine ⟨(F.slots[i]).2, ?_⟩
  unfold FC.nm
  rw [List.getD_eq_getElem?_getD, List.getElem?_eq_getElem hl]; rfl
theorem ndb_of (OK : FOk H F) {i : Nat} {x : Str} {c : Option Addr} (e : F.slots[i]? = some (x, c)) : (x == ("__debug__" : Str)) = false ∧ (x == ("__classdict__" : Str)) = false :=
  OK.ndb x (List.mem_map.mpr ⟨(x, c), List.mem_of_getElem? e, rfl⟩)

theorem ld_loc (OK : FOk H F) (I : Inv prog w F σ lo ah s) {i : Nat} {av : AV} {Q : Value → Shared → Prop} {E : Value → Shared → Prop} (h : getL lo i = some av) (q : ∀ v, VR σ s.heap av v → Q v s) :
    wpAny (model prog w) F.A (loadName F.env (F.nm i)) Q E s := by
  obtain ⟨c, e⟩ := I.slot h
  obtain ⟨m, hns, hl⟩ := I.loc
  have z := hl i _ c av e h
  cases c with
  | none =>
    obtain ⟨v, hv, r⟩ := z
    exact wpAny_loadName_local OK.kind (OK.sl i _ e) hns hv (q v r)
  | some c =>
    obtain ⟨v, hv, r⟩ := z
    obtain ⟨hk, hc⟩ := OK.sc i _ c e
    rcases hk with hk | hk
    · exact wpAny_loadName_cell OK.kind hk hc hv (q v r)
    · exact wpAny_loadName_free OK.kind hk hc hv (q v r) (ndb_of OK e).2

theorem we_loc (OK : FOk H F) {i : Nat} {p : Pos} {av : AV} {Q : AV → Lo → AH → Prop} (h : getL lo i = some av) (q : Q av lo ah) : WE prog w F (eval (.Name (F.nm i) p) F.env) lo ah Q := fun σ s I => by
  obtain ⟨c, e⟩ := I.slot h
  exact wpAny_Name (ld_loc OK I h fun v r => .intro I (.refl _) r q) (ndb_of OK e).1

theorem GN.ndb (g : GN) : (g.s == ("__debug__" : Str)) = false := by cases g <;> decide +kernel
theorem BF.ndb (g : BF) : (g.s == ("__debug__" : Str)) = false := by cases g <;> decide +kernel
theorem UF.ndb (g : UF) : (g.s == ("__debug__" : Str)) = false := by cases g <;> decide +kernel

theorem we_glob (OK : FOk H F) (B : Base prog w H) {g : GN} {p : Pos} {Q : AV → Lo → AH → Prop} (hk : F.env.kindOf g.s = some .globalImplicit) (q : Q g.v lo ah) : WE prog w F (eval (.Name g.s p) F.env) lo ah Q := fun σ s I => by
  obtain ⟨mg, hns, hg, _⟩ := B.g
  obtain ⟨v, hv, r⟩ := hg g
  exact Name_function_global OK.kind hk (loadGlobal_global (OK.glo ▸ I.oldNs OK hns (by decide) (by decide)) hv (.intro I (.refl _) (I.oldVR OK B r) q)) g.ndb
theorem ld_ufn (OK : FOk H F) (B : Base prog w H) (I : Inv prog w F σ lo ah s) {f : UF} {p : Pos} {Q : Value → Shared → Prop} {E : Value → Shared → Prop} (hk : F.env.kindOf f.s = some .globalImplicit) (q : Q (.ref f.a) s) :
    wpAny (model prog w) F.A (eval (.Name f.s p) F.env) Q E s := by
  obtain ⟨mg, hns, _, _, _, hg⟩ := B.g
  exact Name_function_global OK.kind hk (loadGlobal_global (OK.glo ▸ I.oldNs OK hns (by decide) (by decide)) (hg f) q) f.ndb
theorem ld_bfn (OK : FOk H F) (B : Base prog w H) (I : Inv prog w F σ lo ah s) {f : BF} {p : Pos} {Q : Value → Shared → Prop} {E : Value → Shared → Prop} (hk : F.env.kindOf f.s = some .globalImplicit) (q : Q f.v s) :
    wpAny (model prog w) F.A (eval (.Name f.s p) F.env) Q E s := by
  obtain ⟨mg, hns, _, hg, _⟩ := B.g
  obtain ⟨mb, hnb, hb, _⟩ := B.b
  exact Name_function_global OK.kind hk (loadGlobal_builtin (OK.glo ▸ I.oldNs OK hns (by decide) (by decide)) (hg f) (OK.bui ▸ I.oldNs OK hnb (by decide) (by decide)) (hb f) q) f.ndb

theorem vr_none : VR σ s.heap .none .none := by simp only [VR]
theorem vr_bool {b : Bool} {h : Heap} : VR σ h (.bool b) (.bool b) := by simp only [VR]
theorem vr_int {i : Int} {t : Tok} {h : Heap} : VR σ h (.int i) (.int i t) := by simp only [VR]; exact ⟨t, rfl⟩
theorem vr_str {l : List Nat} {t : Tok} {h : Heap} : VR σ h (.str l) (.str (S l) t) := by simp only [VR]; exact ⟨t, rfl⟩
theorem vr_bytes {l : List UInt8} {t : Tok} {h : Heap} : VR σ h (.bytes l) (.bytes l.toArray t) := by simp only [VR]; exact ⟨t, rfl⟩
theorem vr_ref {i : Nat} {a : Addr} {h : Heap} (e : σ[i]? = some a) : VR σ h (.ref i) (.ref a) := by simp only [VR]; exact ⟨a, e, rfl⟩

theorem we_cnone {k : Nat} {p : Pos} {Q : AV → Lo → AH → Prop} (q : Q .none lo ah) : WE prog w F (eval (.Constant .none k p) F.env) lo ah Q := fun _ _ I => wpAny_Constant_none (.intro I (.refl _) vr_none q)
theorem we_cbool {b : Bool} {k : Nat} {p : Pos} {Q : AV → Lo → AH → Prop} (q : Q (.bool b) lo ah) : WE prog w F (eval (.Constant (.bool b) k p) F.env) lo ah Q := fun _ _ I => wpAny_Constant_bool (.intro I (.refl _) vr_bool q)
theorem we_cint {i : Int} {k : Nat} {p : Pos} {Q : AV → Lo → AH → Prop} (q : Q (.int i) lo ah) : WE prog w F (eval (.Constant (.int i) k p) F.env) lo ah Q := fun _ _ I => wpAny_Constant_int (.intro I.tok1 (.refl _) vr_int q)
theorem we_cstr {l : List Nat} {k : Nat} {p : Pos} {Q : AV → Lo → AH → Prop} (q : Q (.str l) lo ah) : WE prog w F (eval (.Constant (.str (S l)) k p) F.env) lo ah Q := fun _ _ I => wpAny_Constant_str (.intro I.tok1 (.refl _) vr_str q)
theorem we_cbytes {l : List UInt8} {k : Nat} {p : Pos} {Q : AV → Lo → AH → Prop} (q : Q (.bytes l) lo ah) : WE prog w F (eval (.Constant (.bytes l) k p) F.env) lo ah Q := fun σ s I => by
  show wpAny (model prog w) F.A (mkTextBytes l.toArray) _ Nev s
  unfold mkTextBytes
  exact wpAny_bind (wpAny_fresh (wpAny_pure (.intro I.tok1 (.refl _) vr_bytes q)))

end Mine
end
section
open PySem PySem.Spec PySem.Calls PyProof.Rows PySem.W
namespace Mine
variable {prog : Program} {w : World} {H : Heap} {F : FC} {σ : List Addr} {lo : Lo} {ah : AH} {s : Shared}

/-- an operation upon values: the names stand as they stood -/
abbrev Op (prog : Program) (w : World) (F : FC) (σ : List Addr) (lo : Lo) (s : Shared) (t : Sem Value) (k : KA) : Prop :=
  wpAny (model prog w) F.A t (fun v s' => 1 ≤ s'.toks → Post prog w F σ s.heap (fun av lo' ah' => lo' = lo ∧ k av ah') v s') Nev s

theorem Op.val {k : KA} {av : AV} {v : Value} {tk : Nat} (I : Inv prog w F σ lo ah s) (r : VR σ s.heap av v) (q : k av ah) (ht : 1 ≤ tk) :
    Post prog w F σ s.heap (fun av lo' ah' => lo' = lo ∧ k av ah') v { s with toks := tk } := .intro (I.tok ht) (.refl _) r ⟨rfl, q⟩
theorem Op.here {k : KA} {av : AV} {v : Value} (I : Inv prog w F σ lo ah s) (r : VR σ s.heap av v) (q : k av ah) :
    Post prog w F σ s.heap (fun av lo' ah' => lo' = lo ∧ k av ah') v s := .intro I (.refl _) r ⟨rfl, q⟩
/-- a value beside new objects -/
theorem Op.grow {k : KA} {av : AV} {v : Value} {h' : Heap} {tk : Nat} (I : Inv prog w F σ lo ah s) (hk : ∀ b o, s.heap.get? b = some o → h'.get? b = some o) (r : VR σ h' av v) (q : k av ah) (ht : 1 ≤ tk) :
    Post prog w F σ s.heap (fun av lo' ah' => lo' = lo ∧ k av ah') v { s with heap := h', toks := tk } := .intro (I.keep hk ht) (.of_keep hk) r ⟨rfl, q⟩
/-- a new list is handed on -/
theorem Op.list {k : KA} {xs : List AV} {vs : List Value} {h' : Heap} {a : Addr} {n tk : Nat} (I : Inv prog w F σ lo ah s) (hk : ∀ b o, s.heap.get? b = some o → h'.get? b = some o) (ha : s.heap.get? a = none)
    (hl : h'.get? a = some { cls := .type "list", data := .seq vs.toArray n }) (r : VRs σ s.heap xs vs) (q : k (.ref ah.length) (ah ++ [.list xs])) (ht : 1 ≤ tk) :
    Post prog w F σ s.heap (fun av lo' ah' => lo' = lo ∧ k av ah') (.ref a) { s with heap := h', toks := tk } :=
  have hp : σ <+: σ ++ [a] := List.prefix_append ..
  ⟨σ ++ [a], lo, ah ++ [.list xs], .ref ah.length, I.newObj (tk := tk) (ao := .list xs) hk ha ⟨vs, ⟨n, hl⟩, r.mono hp (.of_keep hk)⟩ ht, hp, .of_keep hk,
    vr_ref (by rw [← I.len, List.getElem?_append_right (Nat.le_refl _), Nat.sub_self]; rfl), rfl, q⟩
theorem Op.listPush {k : KA} {xs : List AV} {vs : List Value} {n tk : Nat} (I : Inv prog w F σ lo ah s) (r : VRs σ s.heap xs vs) (q : k (.ref ah.length) (ah ++ [.list xs])) (ht : 1 ≤ tk) :
    Post prog w F σ s.heap (fun av lo' ah' => lo' = lo ∧ k av ah') (.ref s.heap.objs.size) { s with heap := s.heap.push { cls := .type "list", data := .seq vs.toArray n }, toks := tk } :=
  Op.list I (fun _ _ e => Heap.get?_push_of_some _ e) (size_none _) (Heap.get?_push_size _ rfl) r q ht

theorem vr_int_inv {h : Heap} {i : Int} {v : Value} (x : VR σ h (.int i) v) : ∃ t, v = .int i t := by simpa only [VR] using x
theorem vr_str_inv {h : Heap} {l : List Nat} {v : Value} (x : VR σ h (.str l) v) : ∃ t, v = .str (S l) t := by simpa only [VR] using x
theorem vr_bytes_inv {h : Heap} {l : List UInt8} {v : Value} (x : VR σ h (.bytes l) v) : ∃ t, v = .bytes l.toArray t := by simpa only [VR] using x
theorem vr_bool_inv {h : Heap} {b : Bool} {v : Value} (x : VR σ h (.bool b) v) : v = .bool b := by simpa only [VR] using x
theorem vr_none_inv {h : Heap} {v : Value} (x : VR σ h .none v) : v = .none := by simpa only [VR] using x
theorem vr_ref_inv {h : Heap} {i : Nat} {v : Value} (x : VR σ h (.ref i) v) : ∃ a, σ[i]? = some a ∧ v = .ref a := by simpa only [VR] using x
theorem vr_con_inv {h : Heap} {c v : Value} (x : VR σ h (.con c) v) : v = c := by simpa only [VR] using x
theorem vr_tup_inv {h : Heap} {xs : List AV} {v : Value} (x : VR σ h (.tup xs) v) : ∃ p vs, v = .ref p ∧ IsTup h p vs ∧ VRs σ h xs vs := by simpa only [VR] using x
theorem vr_mt_inv {h : Heap} {l : List Nat} {sp : List Int} {v : Value} (x : VR σ h (.mt l sp) v) : ∃ p, v = .ref p ∧ IsMt h p l sp := by simpa only [VR] using x
theorem Inv.list (I : Inv prog w F σ lo ah s) {i : Nat} {xs : List AV} {v : Value} (e : getO ah i = some (.list xs)) (x : VR σ s.heap (.ref i) v) :
    ∃ a vs n, σ[i]? = some a ∧ v = .ref a ∧ s.heap.get? a = some { cls := .type "list", data := .seq vs.toArray n } ∧ VRs σ s.heap xs vs := by
  obtain ⟨a, e1, rfl⟩ := vr_ref_inv x
  rw [getO_eq] at e
  obtain ⟨b, e2, vs, ⟨n, hn⟩, r⟩ := I.ob i _ e
  rw [e1] at e2; cases e2
  exact ⟨a, vs, n, e1, rfl, hn, r⟩
theorem dict_of {h : Heap} {a : Addr} {kvs : List (Str × Value)} {ep : Nat} (x : h.DictAt (strKind prog w) a kvs ep) : h.DictOf (strKind prog w) a kvs := let ⟨o, es, r⟩ := x; ⟨o, es, ep, r⟩
theorem dict_at {h : Heap} {a : Addr} {kvs : List (Str × Value)} (x : h.DictOf (strKind prog w) a kvs) : ∃ ep, h.DictAt (strKind prog w) a kvs ep := let ⟨o, es, ep, r⟩ := x; ⟨ep, o, es, r⟩
theorem Inv.dictA (I : Inv prog w F σ lo ah s) {i ep : Nat} {es : List (T × AV)} {v : Value} (e : getO ah i = some (.dict es ep)) (x : VR σ s.heap (.ref i) v) :
    ∃ a kvs, σ[i]? = some a ∧ v = .ref a ∧ s.heap.DictAt (strKind prog w) a kvs ep ∧ KRs σ s.heap es kvs := by
  obtain ⟨a, e1, rfl⟩ := vr_ref_inv x
  rw [getO_eq] at e
  obtain ⟨b, e2, kvs, hd, r⟩ := I.ob i _ e
  rw [e1] at e2; cases e2
  exact ⟨a, kvs, e1, rfl, hd, r⟩
theorem Inv.dict (I : Inv prog w F σ lo ah s) {i ep : Nat} {es : List (T × AV)} {v : Value} (e : getO ah i = some (.dict es ep)) (x : VR σ s.heap (.ref i) v) :
    ∃ a kvs, σ[i]? = some a ∧ v = .ref a ∧ s.heap.DictOf (strKind prog w) a kvs ∧ KRs σ s.heap es kvs :=
  let ⟨a, kvs, e1, e2, hd, r⟩ := I.dictA e x; ⟨a, kvs, e1, e2, dict_of hd, r⟩
theorem isList_of {h : Heap} {a : Addr} {vs : List Value} {n : Nat} (e : h.get? a = some { cls := .type "list", data := .seq vs.toArray n }) : h.IsList a vs.toArray := ⟨_, e, rfl, n, rfl⟩

theorem toArray_append (a b : List UInt8) : (a.toArray ++ b.toArray) = (a ++ b).toArray := by simp

theorem powFits {i j : Int} (h1 : 0 ≤ i) (h2 : i ≤ 1000) (h3 : 0 ≤ j) (h4 : j ≤ 100) : (Builtin.Int.intBits i : Int) * j ≤ 2 ^ 27 := by
  have hb := intBits_le_64 (k := i) (by omega) (by omega)
  have : (Builtin.Int.intBits i : Int) * j ≤ 64 * 100 := Int.mul_le_mul (by omega) (by omega) (by omega) (by omega)
  omega
theorem op_bin (I : Inv prog w F σ lo ah s) {op : Operator} {x y : AV} {a b : Value} {k : KA} (ha : VR σ s.heap x a) (hb : VR σ s.heap y b) (h : aBin op x y ah k) : Op prog w F σ lo s (binaryOp op a b) k := by
  unfold aBin at h
  split at h
  · obtain ⟨t, rfl⟩ := vr_int_inv ha; obtain ⟨u, rfl⟩ := vr_int_inv hb
    exact add_int fun ht => Op.val I vr_int h ht
  · obtain ⟨t, rfl⟩ := vr_str_inv ha; obtain ⟨u, rfl⟩ := vr_str_inv hb
    refine PyProof.Rows.add_str (fun t' tk ht => ?_) (by rw [S_length, S_length, sizeLine_eq]; omega)
    rw [S_append]; exact Op.val I vr_str h.2 ht
  · obtain ⟨t, rfl⟩ := vr_bytes_inv ha; obtain ⟨u, rfl⟩ := vr_bytes_inv hb
    refine PySem.W.KBy.add_bytes (by simp only [List.size_toArray]; omega) (fun t' tk ht => ?_)
    rw [toArray_append]; exact Op.val I vr_bytes h.2 ht
  · obtain ⟨xs, ys, e1, e2, hl, q⟩ := h
    obtain ⟨p, vs, n, _, rfl, hp, r1⟩ := I.list e1 ha
    obtain ⟨q', ws, n2, _, rfl, hq, r2⟩ := I.list e2 hb
    have e : vs.toArray ++ ws.toArray = (vs ++ ws).toArray := by simp
    refine concat_meets ⟨_, hp, rfl⟩ ⟨_, hq, rfl⟩ noFill_list_add seq_list_add PySem.F.slot_list_add PySem.F.entry_list_add (PySem.F.args_list_add_2 _ _) (list_addW p q' vs.toArray ws.toArray n n2 none none #[] #[] (by
      rw [List.size_toArray, List.size_toArray, r1.length, r2.length, sizeLine_eq]; omega)) ⟨hp, hq, ?_⟩
    intro ht
    rw [e]
    exact Op.listPush I (r1.append r2) q ht
  · obtain ⟨t, rfl⟩ := vr_int_inv ha; obtain ⟨u, rfl⟩ := vr_int_inv hb
    exact sub_int' fun ht => Op.val I vr_int h ht
  · obtain ⟨t, rfl⟩ := vr_int_inv ha; obtain ⟨u, rfl⟩ := vr_int_inv hb
    exact PyProof.Rows.mul_int (fun ht => Op.val I vr_int h.2.2.2.2 ht) (.of_right (intBits_le_64 (by omega) (by omega)))
  · obtain ⟨t, rfl⟩ := vr_int_inv ha; obtain ⟨u, rfl⟩ := vr_int_inv hb
    refine mod_int' (by omega) (fun ht => ?_)
    rw [Int.fmod_eq_emod_of_nonneg _ (by omega)]; exact Op.val I vr_int h.2 ht
  · obtain ⟨t, rfl⟩ := vr_int_inv ha; obtain ⟨u, rfl⟩ := vr_int_inv hb
    refine PyProof.Rows.floordiv_int (by omega) (fun ht => ?_) (.inl (PyProof.noPylong_small (by omega)))
    rw [Int.fdiv_eq_ediv_of_nonneg _ (by omega)]; exact Op.val I vr_int h.2.2 ht
  · obtain ⟨t, rfl⟩ := vr_int_inv ha; obtain ⟨u, rfl⟩ := vr_int_inv hb
    exact pow_int (by omega) (powFits h.1 h.2.1 h.2.2.1 h.2.2.2.1) (fun ht => Op.val I vr_int h.2.2.2.2 ht)
  · exact h.elim
theorem noI_bytes_add : typeLookup (.type "bytes") (dunderI "add") = pure none := by rw [typeLookup_type, builtinLookup_eq_fast]; kernel_rfl
theorem iadd_bytes {b c : Array UInt8} {A : Around} {E : Value → Shared → Prop} {t u : Tok} {Q : Value → Shared → Prop} (hsz : b.size + c.size ≤ 16777216) (h : ∀ t' k, Q (.bytes (b ++ c) t') { s with toks := k }) : wpAny (model prog w) A (inplaceOp .Add (.bytes b t) (.bytes c u)) Q E s := by
  refine iconcat_gives (typeIs_bytes s b t) (typeIs_bytes s c u) noI_bytes_add KBy.noFill_bytes_add KBy.seq_bytes_add FB.slot_bytes_add FB.entry_bytes_add (FB.args_bytes_add_2 _ _) (KBy.gives_bytes_add (KBy.tooLong_not hsz)) ?_
  split
  · rename_i e; rw [Array.isEmpty_iff.1 e, Array.empty_append] at h; exact h u s.toks
  · split
    · rename_i e; rw [Array.isEmpty_iff.1 e, Array.append_empty] at h; exact h t s.toks
    · exact ⟨by rw [Array.size_append, sizeLine_eq]; exact hsz, h _ _⟩
theorem op_aug (I : Inv prog w F σ lo ah s) {op : Operator} {x y : AV} {a b : Value} {k : AV → Prop} (ha : VR σ s.heap x a) (hb : VR σ s.heap y b) (h : aAug op x y k) : Op prog w F σ lo s (inplaceOp op a b) (fun z ah' => ah' = ah ∧ k z) := by
  unfold aAug at h
  split at h
  · obtain ⟨t, rfl⟩ := vr_int_inv ha; obtain ⟨u, rfl⟩ := vr_int_inv hb
    exact wpAny_iadd_int fun ht => Op.val I vr_int ⟨rfl, h⟩ ht
  · obtain ⟨t, rfl⟩ := vr_str_inv ha; obtain ⟨u, rfl⟩ := vr_str_inv hb
    refine PyProof.Rows.iadd_str (fun t' tk ht => ?_) (by rw [S_length, S_length, sizeLine_eq]; omega)
    rw [S_append]; exact Op.val I vr_str ⟨rfl, h.2⟩ ht
  · obtain ⟨t, rfl⟩ := vr_bytes_inv ha; obtain ⟨u, rfl⟩ := vr_bytes_inv hb
    refine iadd_bytes (by simp only [List.size_toArray]; omega) (fun t' tk ht => ?_)
    rw [toArray_append]; exact Op.val I vr_bytes ⟨rfl, h.2⟩ ht
  · exact h.elim

/-! ### truth and comparisons -/
/-- a look at values: nothing changes but the tokens -/
abbrev Lk (prog : Program) (w : World) (F : FC) (s : Shared) {α : Type} (t : Sem α) (k : α → Prop) : Prop :=
  wpAny (model prog w) F.A t (fun v s' => (∃ tk, s' = { s with toks := tk }) ∧ k v) Nev s
theorem Lk.tk {α : Type} {k : α → Prop} {v : α} {tk : Nat} (q : k v) : (∃ tk', ({ s with toks := tk } : Shared) = { s with toks := tk' }) ∧ k v := ⟨⟨tk, rfl⟩, q⟩
theorem Lk.here {α : Type} {k : α → Prop} {v : α} (q : k v) : (∃ tk', s = { s with toks := tk' }) ∧ k v := ⟨⟨s.toks, rfl⟩, q⟩

theorem IsMt.typeIs {p : Addr} {l : List Nat} {sp : List Int} (x : IsMt s.heap p l sp) : s.TypeIs (.ref p) "re.Match" := by
  obtain ⟨t, pat, pos, lim, li, q, e, _⟩ := x
  exact ⟨_, e, rfl⟩
theorem noBool_mt : typeLookup (.type "re.Match") "__bool__" = pure none := by rw [typeLookup_type, builtinLookup_eq_fast]; kernel_rfl
theorem noLen_mt : typeLookup (.type "re.Match") "__len__" = pure none := by rw [typeLookup_type, builtinLookup_eq_fast]; kernel_rfl
theorem truthy_mt {A : Around} {E : Value → Shared → Prop} {p : Addr} {Q : Bool → Shared → Prop} (hT : s.TypeIs (.ref p) "re.Match") (h : Q true s) : wpAny (model prog w) A (truthy (.ref p)) Q E s := by
  unfold truthy
  refine wpAny_bind (wpAny_callSpecial?_none (name := Str.ofString "__bool__") hT noBool_mt ?_)
  refine wpAny_bind (wpAny_specialOf (name := Str.ofString "__len__") hT noLen_mt ?_)
  exact wpAny_pure h
theorem op_tru {x : AV} {v : Value} {k : Bool → Prop} (hx : VR σ s.heap x v) (h : tru x k) : Lk prog w F s (truthy v) k := by
  unfold tru at h
  split at h
  · rw [vr_none_inv hx]; exact (fun _ _ _ => Lk.here h)
  · rw [vr_bool_inv hx]; exact wpAny_truthy_bool (Lk.here h)
  · rename_i l
    obtain ⟨t, rfl⟩ := vr_str_inv hx
    refine P.truthy_str (by rw [S_length]; omega) ?_
    have e : (((S l).length : Int) != 0) = !l.isEmpty := by
      rw [S_length]; cases l with
      | nil => rfl
      | cons a r => rw [List.length_cons]; show _ = true; rw [bne_iff_ne]; omega
    rw [e]; exact Lk.tk h.2
  · obtain ⟨p, rfl, m⟩ := vr_mt_inv hx
    exact truthy_mt m.typeIs (Lk.here h)
  · exact h.elim

end Mine
end
section
open PySem PySem.Spec PySem.Calls PyProof.Rows PySem.W
namespace Mine
variable {prog : Program} {w : World} {H : Heap} {F : FC} {σ : List Addr} {lo : Lo} {ah : AH} {s : Shared}

theorem FOk.hu (OK : FOk H F) : F.A.units < cLine := by have := OK.units; unfold cLine; omega
theorem Inv.notSys (I : Inv prog w F σ lo ah s) (OK : FOk H F) (B : Base prog w H) {i : Nat} {a : Addr} (e : σ[i]? = some a) : (a == sysModules) = false := by
  obtain ⟨o, ho⟩ := B.sysm
  have := (I.pr _ o (OK.base sysModules o ho (by decide) (by decide))).2
  rw [beq_eq_false_iff_ne]
  intro q
  exact this (q ▸ mem_obj e)

/-! ### dicts: the plain look -/
theorem KRs.at {h : Heap} : ∀ {es : List (T × AV)} {kvs : List (Str × Value)}, KRs σ h es kvs → ∀ (x : T),
    (dget es x = none → valueAt kvs (S x) = none) ∧ ∀ av, dget es x = some av → ∃ v, valueAt kvs (S x) = some v ∧ VR σ h av v
  | [], [], _, x => ⟨fun _ => rfl, fun av e => by cases e⟩
  | (k, a) :: es, (y, v) :: kvs, ⟨e, r, rs⟩, x => by
    subst e
    have ih := rs.at x
    by_cases q : k = x
    · subst q
      refine ⟨fun e => ?_, fun av e => ?_⟩
      · simp [dget] at e
      · simp [dget] at e
        subst e
        exact ⟨v, by simp [valueAt], r⟩
    · have q' : ¬ S k = S x := fun z => q (S_inj z)
      have e1 : dget ((k, a) :: es) x = dget es x := by simp [dget, q]
      have e2 : valueAt ((S k, v) :: kvs) (S x) = valueAt kvs (S x) := by simp [valueAt, List.find?_cons, q']
      rw [e1, e2]
      exact ih
  | [], _ :: _, r, _ => r.elim
  | _ :: _, [], r, _ => r.elim
theorem KRs.isSome {h : Heap} {es : List (T × AV)} {kvs : List (Str × Value)} (r : KRs σ h es kvs) (x : T) : (valueAt kvs (S x)).isSome = (dget es x).isSome := by
  obtain ⟨h1, h2⟩ := r.at x
  cases e : dget es x with
  | none => rw [h1 e]; rfl
  | some av => obtain ⟨v, e', _⟩ := h2 av e; rw [e']; rfl
theorem KRs.append {h : Heap} : ∀ {es : List (T × AV)} {kvs : List (Str × Value)} {fs : List (T × AV)} {ws : List (Str × Value)}, KRs σ h es kvs → KRs σ h fs ws → KRs σ h (es ++ fs) (kvs ++ ws)
  | [], [], _, _, _, r => r
  | (_, _) :: _, (_, _) :: _, _, _, ⟨e, x, r⟩, q => ⟨e, x, r.append q⟩
  | [], _ :: _, _, _, r, _ => r.elim
  | _ :: _, [], _, _, r, _ => r.elim
theorem KRs.keys {h : Heap} : ∀ {es : List (T × AV)} {kvs : List (Str × Value)}, KRs σ h es kvs → kvs.map (·.1) = es.map fun e => S e.1
  | [], [], _ => rfl
  | (_, _) :: _, (_, _) :: _, ⟨e, _, r⟩ => by rw [List.map_cons, List.map_cons, r.keys, e]
  | [], _ :: _, r => r.elim
  | _ :: _, [], r => r.elim
theorem KRs.length {h : Heap} {es : List (T × AV)} {kvs : List (Str × Value)} (r : KRs σ h es kvs) : kvs.length = es.length := by
  have := congrArg List.length r.keys
  simpa using this
theorem KRs.put {h : Heap} {x : T} {av : AV} {v : Value} (hv : VR σ h av v) : ∀ {es : List (T × AV)} {kvs : List (Str × Value)}, KRs σ h es kvs → (kvs.map (·.1)).Nodup → KRs σ h (dput es x av) (stored kvs (S x) v)
  | [], [], _, _ => ⟨rfl, hv, trivial⟩
  | (k, a) :: es, (y, u) :: kvs, ⟨e, r, rs⟩, hn => by
    subst e
    rw [List.map_cons, List.nodup_cons] at hn
    by_cases q : k = x
    · subst q
      have e2 : stored ((S k, u) :: kvs) (S k) v = (S k, v) :: kvs := by
        unfold stored
        rw [if_pos (by simp)]
        rw [List.map_cons, map_store_of_not_mem _ _ _ hn.1]
        simp
      rw [e2]
      simp only [dput, if_pos]
      exact ⟨rfl, hv, rs⟩
    · have q' : ¬ S k = S x := fun z => q (S_inj z)
      have e2 : stored ((S k, u) :: kvs) (S x) v = (S k, u) :: stored kvs (S x) v := by
        unfold stored
        by_cases z : (kvs.any fun kv => decide (kv.1 = S x)) = true
        · rw [if_pos (by simp only [List.any_cons, z, Bool.or_true]), if_pos z, List.map_cons, if_neg q']
        · rw [if_neg (by simp only [List.any_cons, decide_eq_false q', Bool.false_or]; exact z), if_neg z, List.cons_append]
      rw [e2]
      simp only [dput, if_neg q]
      exact ⟨rfl, r, rs.put hv hn.2⟩
  | [], _ :: _, r, _ => r.elim
  | _ :: _, [], r, _ => r.elim

/-! ### comparisons -/
theorem S_cps (l : List Nat) : (S l).cps.toList = l := by simp [S]
theorem S_beq (a b : List Nat) : (S a == S b) = decide (a = b) := by
  rw [Bool.eq_iff_iff, beq_iff_eq, decide_eq_true_eq]
  exact ⟨S_inj, congrArg S⟩
theorem ne_list_nil {A : Around} {E : Value → Shared → Prop} {Q : Value → Shared → Prop} {l b : Addr} {vs : List Value} (hl : s.heap.IsList l vs.toArray) (hb : s.heap.IsList b #[]) (hu : A.units < cLine)
    (h : Q (.bool !vs.isEmpty) s) : wpAny (model prog w) A (compareOp .NotEq (.ref l) (.ref b)) Q E s := by
  show wpAny (model prog w) A (richCompare .NotEq (.ref l) (.ref b)) Q E s
  cases vs with
  | nil => exact PySem.SeqAt.RcNeAt.lists (e := fun _ => true) hl hb rfl hu (fun j h1 _ => absurd h1 (Nat.not_lt_zero _)) prog w E Q h
  | cons v r => exact PySem.SeqAt.RcNeAt.lists_lengths hl hb (by simp) hu prog w E Q h

theorem eqNone_of {x : AV} {v : Value} {h : Heap} {b : Bool} (hx : VR σ h x v) (e : isNoneA x = some b) : (v == .none) = b := by
  cases x <;> simp only [isNoneA, Option.some.injEq, reduceCtorEq] at e <;> subst e
  · rw [vr_none_inv hx]; rfl
  · rw [vr_bool_inv hx]; rfl
  · obtain ⟨t, rfl⟩ := vr_int_inv hx; rfl
  · obtain ⟨t, rfl⟩ := vr_str_inv hx; rfl
  · obtain ⟨t, rfl⟩ := vr_bytes_inv hx; rfl
  · obtain ⟨t, _, rfl⟩ := vr_ref_inv hx; rfl
  · obtain ⟨p, vs, rfl, _⟩ := vr_tup_inv hx; rfl
  · obtain ⟨p, rfl, _⟩ := vr_mt_inv hx; rfl
/-- a comparison says a truth -/
abbrev Cm (prog : Program) (w : World) (F : FC) (s : Shared) (t : Sem Value) (k : Bool → Prop) : Prop :=
  wpAny (model prog w) F.A t (fun v s' => (∃ tk, s' = { s with toks := tk }) ∧ ∃ z, v = .bool z ∧ k z) Nev s
theorem Cm.here {k : Bool → Prop} {z : Bool} (q : k z) : (∃ tk', s = { s with toks := tk' }) ∧ ∃ z', Value.bool z = .bool z' ∧ k z' := ⟨⟨s.toks, rfl⟩, z, rfl, q⟩
theorem Cm.tk {k : Bool → Prop} {z : Bool} {tk : Nat} (q : k z) : (∃ tk', ({ s with toks := tk } : Shared) = { s with toks := tk' }) ∧ ∃ z', Value.bool z = .bool z' ∧ k z' := ⟨⟨tk, rfl⟩, z, rfl, q⟩
theorem op_cmp (OK : FOk H F) (B : Base prog w H) (I : Inv prog w F σ lo ah s) {op : CmpOp} {x y : AV} {a b : Value} {k : Bool → Prop} (ha : VR σ s.heap x a) (hb : VR σ s.heap y b)
    (pair : ∀ a i b j es fs ep eq xs ys (u v : Value), x = .tup [.str a, .ref i] → y = .tup [.str b, .ref j] → getO ah i = some (.dict es ep) → getO ah j = some (.dict fs eq) → valsOf es = some xs → valsOf fs = some ys → es.length ≤ 1000 → fs.length ≤ 1000 → a = b → dEq xs ys = true → VR σ s.heap x u → VR σ s.heap y v → Cm prog w F s (compareOp .Eq u v) (fun z => z = true))
    (h : aCmp op x y ah k) : Cm prog w F s (compareOp op a b) k := by
  unfold aCmp at h
  split at h
  · obtain ⟨t, rfl⟩ := vr_int_inv ha; obtain ⟨u, rfl⟩ := vr_int_inv hb
    refine PyProof.Rows.eq_int (Cm.here ?_)
    rw [show ∀ a b : Int, (a == b) = decide (a = b) from fun _ _ => rfl]; exact h
  · obtain ⟨t, rfl⟩ := vr_str_inv ha; obtain ⟨u, rfl⟩ := vr_str_inv hb
    refine PyProof.Rows.eq_str (Cm.here ?_)
    rw [S_beq]
    exact h
  · obtain ⟨es, fs, ep, eq, xs, ys, e1, e2, e3, e4, l1, l2, ea, ed, q⟩ := h
    exact wpAny_mono (pair _ _ _ _ es fs ep eq xs ys _ _ rfl rfl e1 e2 e3 e4 l1 l2 ea ed ha hb) (fun v s' ⟨x, z, e, q'⟩ => ⟨x, z, e, q' ▸ q⟩) fun _ _ e => e
  · obtain ⟨t, rfl⟩ := vr_str_inv ha; obtain ⟨u, rfl⟩ := vr_str_inv hb
    refine PyProof.Rows.ne_str (Cm.here ?_)
    rw [bne, S_beq]
    simpa using h
  · obtain ⟨xs, e1, e2, hl, q⟩ := h
    obtain ⟨p, vs, n, _, rfl, hp, r1⟩ := I.list e1 ha
    obtain ⟨q', ws, n2, _, rfl, hq, r2⟩ := I.list e2 hb
    rw [r2.nil_inv] at hq
    refine ne_list_nil (isList_of hp) (isList_of hq) OK.hu (Cm.here ?_)
    have := r1.length
    cases vs <;> cases xs <;> simp_all
  · obtain ⟨t, rfl⟩ := vr_int_inv ha; obtain ⟨u, rfl⟩ := vr_int_inv hb
    exact PyProof.Rows.lt_int (Cm.here h)
  · obtain ⟨t, rfl⟩ := vr_int_inv ha; obtain ⟨u, rfl⟩ := vr_int_inv hb
    exact PyProof.Rows.gt_int (Cm.here h)
  · obtain ⟨t, rfl⟩ := vr_int_inv ha; obtain ⟨u, rfl⟩ := vr_int_inv hb
    exact PyProof.Rows.ge_int (Cm.here h)
  · obtain ⟨t, rfl⟩ := vr_str_inv ha; obtain ⟨u, rfl⟩ := vr_str_inv hb
    refine PyProof.Rows.in_str (Cm.here ?_)
    rw [show ∀ c, S [c] = ⟨#[c]⟩ from fun _ => rfl, StrLaws.found_one, S_cps]
    exact h
  · obtain ⟨es, ep, e1, q⟩ := h
    obtain ⟨t, rfl⟩ := vr_str_inv ha
    obtain ⟨p, kvs, e2, rfl, hp, r⟩ := I.dict e1 hb
    refine wpAny_in_of (strKind_is _ _ _ _) (I.notSys OK B e2) hp.mapOf (Cm.tk ?_)
    rw [r.isSome]; exact q
  · obtain ⟨z, e, q⟩ := h
    rw [vr_none_inv hb]
    refine PySem.is_none (Cm.here ?_)
    rw [eqNone_of ha e]; exact q
  · obtain ⟨z, e, q⟩ := h
    rw [vr_none_inv hb]
    refine PySem.isNot_none (Cm.here ?_)
    rw [eqNone_of ha e]; exact q
  · exact h.elim
end Mine
end
section
open PySem PySem.Spec PySem.Calls PyProof.Rows PySem.W PySem.Builtin PySem.Builtin.Str
namespace Mine
variable {prog : Program} {w : World} {H : Heap} {F : FC} {σ : List Addr} {lo : Lo} {ah : AH} {s : Shared}

/-! ### the item -/
theorem sub_false (slice : Expr) (o i : Value) : ∃ ops, subscripted slice false o i = operate ops (getItem o i) := by
  unfold subscripted
  split
  · exact ⟨_, rfl⟩
  · rename_i h; cases h
  · exact ⟨_, rfl⟩
theorem tail_T {A : Around} {E : Value → Shared → Prop} {value slice : Expr} {o i : Value} {T id : String} {Q : Value → Shared → Prop} (hT : s.TypeIs o T)
    (hl : typeLookup (.type T) "__getitem__" = pure (some (.builtin id))) (h : wpAny (model prog w) A (getItem o i) Q E s) : wpAny (model prog w) A (subscriptTail value slice o i) Q E s :=
  let ⟨_, hs⟩ := sub_false slice o i
  PyProof.Rows.tail_any hT hl h hs
theorem tail_I {A : Around} {E : Value → Shared → Prop} {value slice : Expr} {o i : Value} {Q : Value → Shared → Prop} (h : ItemOn (model prog w) A E o i Q s) : wpAny (model prog w) A (subscriptTail value slice o i) Q E s :=
  let ⟨_, _, hl, hT, hg⟩ := h; tail_T hT hl hg

theorem isTup_lib {h : Heap} {p : Addr} {vs : List Value} (x : IsTup h p vs) : h.IsTuple p vs.toArray := let ⟨n, e⟩ := x; ⟨_, e, rfl, n, rfl⟩

/-- a looked-up value -/
abbrev Vl (prog : Program) (w : World) (F : FC) (σ : List Addr) (s : Shared) (t : Sem Value) (k : AV → Prop) : Prop :=
  wpAny (model prog w) F.A t (fun v s' => (∃ tk, s' = { s with toks := tk }) ∧ ∃ av, VR σ s.heap av v ∧ k av) Nev s
theorem op_idx (OK : FOk H F) (B : Base prog w H) (I : Inv prog w F σ lo ah s) {value slice : Expr} {x y : AV} {a b : Value} {k : AV → Prop} (ha : VR σ s.heap x a) (hb : VR σ s.heap y b) (h : aIdx x y ah k) :
    Vl prog w F σ s (subscriptTail value slice a b) k := by
  unfold aIdx at h
  split at h
  · obtain ⟨h0, h1, c, hc, q⟩ := h
    obtain ⟨t, rfl⟩ := vr_str_inv ha; obtain ⟨u, rfl⟩ := vr_int_inv hb
    rename_i l i
    have hlt := (List.getElem?_eq_some_iff.mp hc).1
    have hi : (Txt.item (S l) i) = S [c] := item_meets h0 (by simpa [S] using hc)
    refine tail_I (SB.item (by simp [fitsSsize]; omega) (charAt_isSome (by rw [S_length]; omega) (by rw [S_length]; omega)) ?_)
    rw [hi]
    exact ⟨⟨_, rfl⟩, .str [c], vr_str, q⟩
  · obtain ⟨h0, xs, v, e, hl, hv, q⟩ := h
    obtain ⟨p, vs, n, _, rfl, hp, r⟩ := I.list e ha
    obtain ⟨u, rfl⟩ := vr_int_inv hb
    obtain ⟨v', hv', rv⟩ := r.get hv
    have hlt := (List.getElem?_eq_some_iff.mp hv).1
    exact tail_T (isList_of hp).typeIs list_getitem_lookup (wpAny_getItem_list (isList_of hp) h0 (by omega) (by simpa using hv') ⟨⟨_, rfl⟩, v, rv, q⟩)
  · obtain ⟨es, ep, v, e, hv, q⟩ := h
    obtain ⟨p, kvs, _, rfl, hp, r⟩ := I.dict e ha
    obtain ⟨t, rfl⟩ := vr_str_inv hb
    obtain ⟨v', hv', rv⟩ := (r.at _).2 v hv
    exact tail_T hp.typeIs slot_dict_getitem.lookup (wpAny_getItem_of (strKind_is _ _ _ _) hp.mapOf hv' ⟨⟨_, rfl⟩, v, rv, q⟩)
  · obtain ⟨h0, v, hl, hv, q⟩ := h
    obtain ⟨p, vs, rfl, hp, r⟩ := vr_tup_inv ha
    obtain ⟨u, rfl⟩ := vr_int_inv hb
    obtain ⟨v', hv', rv⟩ := r.get hv
    have hlt := (List.getElem?_eq_some_iff.mp hv).1
    have hln := r.length
    rename_i i
    exact tail_T (isTup_lib hp).typeIs slot_tuple_getitem.lookup (getItem_tuple (isTup_lib hp) (by omega) (by omega) (j := i.toNat) (by simp [seqIndex?]; omega) (by simpa using hv') ⟨⟨_, rfl⟩, v, rv, q⟩)
  · obtain ⟨h0, h1, xs, v, e, hv, q⟩ := h
    rename_i a0 i0
    rw [vr_con_inv ha]
    obtain ⟨u, rfl⟩ := vr_int_inv hb
    obtain ⟨vs, hp, r⟩ := B.tab _ xs e
    have hp' : s.heap.IsList a0 vs.toArray := by
      obtain ⟨o, ho, r⟩ := hp
      refine ⟨o, I.old OK ho ?_ ?_, r⟩
      · intro q; subst q; cases e
      · intro q; subst q; cases e
    obtain ⟨v', hv', rv⟩ := r.get hv
    exact tail_T hp'.typeIs list_getitem_lookup (wpAny_getItem_list hp' h0 (by omega) (by simpa using hv') ⟨⟨_, rfl⟩, v, I.oldVR OK B rv, q⟩)
  · exact h.elim

/-! ### slices -/
def clA (n : Nat) : Option Nat → Nat
  | none => 0
  | some a => min a n
def clB (n : Nat) : Option Nat → Nat
  | none => n
  | some a => min a n
theorem sliceIdx (a b : Option Nat) (n : Nat) : strSliceIndices (a.map Int.ofNat) (b.map Int.ofNat) 1 n = (List.range (clB n b - clA n a)).map (fun k => clA n a + k) := by
  have key : ∀ x y : Nat, sliceRange (x : Int) (y : Int) 1 = (List.range (y - x)).map (fun k => x + k) := fun x y => by
    unfold sliceRange
    simp only [show (1 : Int) > 0 by decide, if_true]
    by_cases hlt : (x : Int) < y
    · rw [if_pos hlt]
      have e : (((y : Int) - x + 1 - 1) / 1).toNat = y - x := by omega
      rw [e]
      refine List.map_congr_left fun k _ => ?_
      omega
    · rw [if_neg hlt, show y - x = 0 by omega]; rfl
  have ea : (match (a.map Int.ofNat) with | none => (0 : Int) | some i => let i := if i < 0 then i + (n : Int) else i; if (1 : Int) > 0 then max 0 (min i (n : Int)) else max (-1) (min i ((n : Int) - 1))) = ((clA n a : Nat) : Int) := by
    cases a with
    | none => rfl
    | some a =>
      simp only [Option.map_some, clA, show (1 : Int) > 0 by decide, if_true, Int.ofNat_eq_natCast]
      rw [if_neg (by omega)]
      have z : max (0 : Int) (min (a : Int) (n : Int)) = ((min a n : Nat) : Int) := by omega
      exact z
  have eb : (match (b.map Int.ofNat) with | none => (n : Int) | some i => let i := if i < 0 then i + (n : Int) else i; if (1 : Int) > 0 then max 0 (min i (n : Int)) else max (-1) (min i ((n : Int) - 1))) = ((clB n b : Nat) : Int) := by
    cases b with
    | none => rfl
    | some b =>
      simp only [Option.map_some, clB, show (1 : Int) > 0 by decide, if_true, Int.ofNat_eq_natCast]
      rw [if_neg (by omega)]
      have z : max (0 : Int) (min (b : Int) (n : Int)) = ((min b n : Nat) : Int) := by omega
      exact z
  rw [← key, ← ea, ← eb]
  rfl
def cut (l : List Nat) (a b : Option Nat) : List Nat := (l.drop (clA l.length a)).take (clB l.length b - clA l.length a)
theorem clB_le (n : Nat) (b : Option Nat) : clB n b ≤ n := by cases b with | none => exact Nat.le_refl _ | some b => exact Nat.min_le_right ..
theorem clA_le (n : Nat) (b : Option Nat) : clA n b ≤ n := by cases b with | none => exact Nat.zero_le _ | some b => exact Nat.min_le_right ..
theorem slice_S (l : List Nat) (a b : Option Nat) : Txt.slice (S l) (a.map Int.ofNat) (b.map Int.ofNat) = S (cut l a b) := by
  unfold Txt.slice
  rw [sliceIdx, S_length]
  have hp : ((List.range (clB l.length b - clA l.length a)).map (fun k => clA l.length a + k)).filterMap ((S l).cps[·]?) = cut l a b := by
    have := StrLaws.picks l (clB l.length b - clA l.length a) (clA l.length a) (by have := clB_le l.length b; have := clA_le l.length a; omega)
    simpa [S, cut] using this
  rw [hp]
  split
  · rename_i h
    simp only [beq_self_eq_true, Bool.true_and, beq_iff_eq, List.length_map, List.length_range] at h
    have h1 := clB_le l.length b
    by_cases hz : l.length = 0
    · have : l = [] := List.eq_nil_of_length_eq_zero hz
      subst this; simp [cut]
    · have h2 : clA l.length a = 0 := by omega
      unfold cut
      rw [h2, List.drop_zero, Nat.sub_zero, show clB l.length b = l.length by omega, List.take_length]
  · rfl
theorem cut_ss (l : List Nat) (a b : Nat) : cut l (some a) (some b) = (l.take b).drop a := by
  show (l.drop (min a l.length)).take (min b l.length - min a l.length) = _
  apply List.ext_getElem?
  intro i
  rw [List.getElem?_take, List.getElem?_drop, List.getElem?_drop, List.getElem?_take]
  by_cases h : a ≤ l.length
  · have e1 : min a l.length = a := Nat.min_eq_left h
    rw [e1]
    by_cases h2 : b ≤ l.length
    · have e2 : min b l.length = b := Nat.min_eq_left h2
      rw [e2]
      by_cases h3 : a + i < b
      · rw [if_pos (by omega), if_pos h3]
      · rw [if_neg (by omega), if_neg h3]
    · have e2 : min b l.length = l.length := Nat.min_eq_right (by omega)
      rw [e2]
      by_cases h3 : a + i < l.length
      · rw [if_pos (by omega), if_pos (by omega)]
      · have e3 : l[a + i]? = none := by rw [List.getElem?_eq_none_iff]; omega
        rw [if_neg (by omega), e3]; split <;> rfl
  · have e1 : min a l.length = l.length := Nat.min_eq_right (by omega)
    rw [e1]
    have e2 : l[l.length + i]? = none := by rw [List.getElem?_eq_none_iff]; omega
    have e3 : l[a + i]? = none := by rw [List.getElem?_eq_none_iff]; omega
    rw [e2, e3]; split <;> split <;> rfl
theorem cut_sn (l : List Nat) (a : Nat) : cut l (some a) none = l.drop a := by
  have := cut_ss l a l.length
  rw [List.take_length] at this
  rw [← this]
  unfold cut clB; simp
theorem cut_ns (l : List Nat) (b : Nat) : cut l none (some b) = l.take b := by
  have := cut_ss l 0 b
  rw [List.drop_zero] at this
  rw [← this]
  unfold cut clA; simp
theorem cut_le (l : List Nat) (a b : Option Nat) : (cut l a b).length ≤ l.length := by unfold cut; rw [List.length_take, List.length_drop]; omega

abbrev slObj (vl vu : Value) : Obj := { cls := .type "slice", data := .fields #[vl, vu, .none] }
abbrev Ext (s : Shared) (h' : Heap) : Prop := ∀ b o, s.heap.get? b = some o → h'.get? b = some o
theorem kept_ext : KeptH (Ext s) := fun _ ob h b o e => Heap.get?_push_of_some ob (h b o e)
theorem sl_post (I : Inv prog w F σ lo ah s) {k : KA} {a b : Option Nat} {l : List Nat} {r : List Nat} (e : cut l a b = r) (q : k (.str r) ah) (h' : Heap) (t' : Tok) (tk : Nat) (hh : Ext s h') :
    1 ≤ ({ s with heap := h', toks := tk } : Shared).toks → Post prog w F σ s.heap (fun av lo' ah' => lo' = lo ∧ k av ah') (.str (Txt.slice (S l) (a.map Int.ofNat) (b.map Int.ofNat)) t') { s with heap := h', toks := tk } := fun ht => by
  rw [slice_S, e]
  exact Op.grow I hh vr_str q ht
theorem size_none2 (h : Heap) (o : Obj) : h.get? (h.push o).objs.size = none := by
  cases q : h.get? (h.push o).objs.size with
  | none => rfl
  | some o' => have := Heap.lt_size q; simp [Heap.push] at this; exact (Nat.lt_irrefl _ (Nat.lt_of_succ_lt this)).elim
theorem ofNat_toNat {i : Int} (h : 0 ≤ i) : (some i.toNat).map Int.ofNat = some i := by simp [Int.toNat_of_nonneg h]
theorem op_sl (I : Inv prog w F σ lo ah s) {value slice : Expr} {x : AV} {y z : Option AV} {a vl vu : Value} {k : KA} (ha : VR σ s.heap x a) (hb : match y with | some y => VR σ s.heap y vl | none => vl = .none)
    (hc : match z with | some z => VR σ s.heap z vu | none => vu = .none) (h : aSl x y z ah k) :
    wpAny (model prog w) F.A (subscriptTail value slice a (.ref s.heap.objs.size)) (fun v s' => 1 ≤ s'.toks → Post prog w F σ s.heap (fun av lo' ah' => lo' = lo ∧ k av ah') v s') Nev { s with heap := s.heap.push (slObj vl vu) } := by
  unfold aSl at h
  split at h
  · obtain ⟨h0, h1, h2, h3, hl, q⟩ := h
    obtain ⟨t, rfl⟩ := vr_str_inv ha; obtain ⟨u, rfl⟩ := vr_int_inv hb; obtain ⟨u', rfl⟩ := vr_int_inv hc
    rename_i l i j
    refine tail_I (SBH.sliceItem_ss (P := Ext s) kept_ext (fun _ _ e => e) (fun h' t' tk hh => ?_) (by rw [S_length, sizeLine_eq]; omega))
    rw [← ofNat_toNat h0, ← ofNat_toNat h1]
    exact sl_post (a := some i.toNat) (b := some j.toNat) I (cut_ss l _ _) q h' t' tk hh
  · obtain ⟨h0, h2, hl, q⟩ := h
    obtain ⟨t, rfl⟩ := vr_str_inv ha; obtain ⟨u, rfl⟩ := vr_int_inv hb; subst hc
    rename_i l i
    refine tail_I (SBH.sliceItem_sn (P := Ext s) kept_ext (fun _ _ e => e) (fun h' t' tk hh => ?_) (by rw [S_length, sizeLine_eq]; omega))
    rw [← ofNat_toNat h0]
    exact sl_post I (a := some i.toNat) (b := none) (cut_sn l _) q h' t' tk hh
  · obtain ⟨h0, h2, hl, q⟩ := h
    obtain ⟨t, rfl⟩ := vr_str_inv ha; obtain ⟨u, rfl⟩ := vr_int_inv hc; subst hb
    rename_i l i
    refine tail_I (SBH.sliceItem_ns (P := Ext s) kept_ext (fun _ _ e => e) (fun h' t' tk hh => ?_) (by rw [S_length, sizeLine_eq]; omega))
    rw [← ofNat_toNat h0]
    exact sl_post I (a := none) (b := some i.toNat) (cut_ns l _) q h' t' tk hh
  · obtain ⟨h0, h2, xs, e, hl, q⟩ := h
    rename_i i
    obtain ⟨p, vs, n, _, rfl, hp, r⟩ := I.list e ha
    obtain ⟨u, rfl⟩ := vr_int_inv hb; subst hc
    have hp' : (s.heap.push (slObj (.int i u) .none)).IsList p vs.toArray := isList_of (Heap.get?_push_of_some _ hp)
    refine tail_T hp'.typeIs list_getitem_lookup (wpAny_getItem_list_slice hp' (Heap.IsSliceOf.new _ _ _ _) (.int i u) .none .none (by decide) ?_ (by rw [List.size_toArray, r.length, sizeLine_eq]; omega))
    rw [show i = ((i.toNat : Nat) : Int) by omega, slicePick_from']
    intro ht
    exact Op.list I (fun _ _ e => Heap.get?_push_of_some _ (Heap.get?_push_of_some _ e)) (size_none2 _ _) (Heap.get?_push_size _ rfl) (r.drop _) q ht
  · exact h.elim
end Mine
end
section
open PySem PySem.Spec PySem.Calls PyProof.Rows PySem.W PySem.Builtin PySem.Builtin.Str
set_option maxRecDepth 100000
namespace Mine
variable {prog : Program} {w : World} {H : Heap} {s : Shared}
theorem typeCall_int_2 (a b : Value) : checkTypeCall "int" ⟨[a, b], []⟩ = pure () := by kernel_rfl
theorem newCall_int_2 (a b : Value) : checkBuiltinCall "int.__new__" ⟨[.type "int", a, b], []⟩ = pure () := by kernel_rfl
theorem hex2_mem {a b n : Nat} (h : hex2 a b = some n) : (a, b, n) ∈ pairs := by
  unfold hex2 at h
  rw [Option.map_eq_some_iff] at h
  obtain ⟨p, hp, rfl⟩ := h
  have h1 := List.find?_some hp
  simp only [Bool.and_eq_true, beq_iff_eq] at h1
  have := List.mem_of_find?_eq_some hp
  rw [← h1.1, ← h1.2]; exact this
theorem wpAny_eq {α : Type} {M : Model} {A : Around} {Q : α → Shared → Prop} {E : Value → Shared → Prop} {x y : Sem α} (h : x = y) (q : wpAny M A y Q E s) : wpAny M A x Q E s := h ▸ q
theorem gives_int16 {a b n : Nat} (hm : (a, b, n) ∈ pairs) (t u : Tok) : Gives (Builtin.«int.__new__» ⟨[.type "int", .str (S [a, b]) t, .int 16 u], []⟩) (.int n) :=
  .of_wp fun M A E s Q h => by
    obtain ⟨hp, g, d, tk, os⟩ := s
    have f1 := F.conv_sub_int
    have f2 := F.madeHere_int
    repeat (any_goals (first | assumption | wp_step))
    refine wpAny_eq (y := mkInt n) ?_ ?_
    · simp only [pairs, List.mem_cons, List.not_mem_nil, or_false, Prod.mk.injEq] at hm
      rcases hm with ⟨rfl, rfl, rfl⟩ | ⟨rfl, rfl, rfl⟩ | ⟨rfl, rfl, rfl⟩ | ⟨rfl, rfl, rfl⟩ | ⟨rfl, rfl, rfl⟩ | ⟨rfl, rfl, rfl⟩ | ⟨rfl, rfl, rfl⟩ | ⟨rfl, rfl, rfl⟩ | ⟨rfl, rfl, rfl⟩ | ⟨rfl, rfl, rfl⟩ | ⟨rfl, rfl, rfl⟩ | ⟨rfl, rfl, rfl⟩ | ⟨rfl, rfl, rfl⟩ | ⟨rfl, rfl, rfl⟩ | ⟨rfl, rfl, rfl⟩ | ⟨rfl, rfl, rfl⟩ | ⟨rfl, rfl, rfl⟩ | ⟨rfl, rfl, rfl⟩ <;> kernel_rfl
    · wp_walk
      exact ⟨_, rfl, h⟩
theorem call_int16 {A : Around} {E : Value → Shared → Prop} {a b n : Nat} (hm : (a, b, n) ∈ pairs) {t u : Tok} {Q : Value → Shared → Prop} (h : ∀ tk k, Q (.int n tk) { s with toks := k }) :
    wpAny (model prog w) A (call (.type "int") [.str (S [a, b]) t, .int 16 u]) Q E s :=
  callType_new F.called_int F.newNe_int (typeCall_int_2 _ _) (newCall_int_2 _ _) (fun obj => by unfold argsOk; kernel_rfl) F.entry_int_new (gives_int16 hm t u).meets (show (Made.int n).post _ s from ⟨rfl, h _ _⟩)

theorem digit_str {i : Int} (h0 : 0 ≤ i) (h1 : i < 10) : Str.ofString (toString i) = S [48 + i.toNat] := by
  have : i = 0 ∨ i = 1 ∨ i = 2 ∨ i = 3 ∨ i = 4 ∨ i = 5 ∨ i = 6 ∨ i = 7 ∨ i = 8 ∨ i = 9 := by omega
  rcases this with rfl | rfl | rfl | rfl | rfl | rfl | rfl | rfl | rfl | rfl <;> decide +kernel

theorem digit_log {i : Int} (h0 : 0 ≤ i) (h1 : i < 10) : i.natAbs.log2 < 1920 := by
  have : i = 0 ∨ i = 1 ∨ i = 2 ∨ i = 3 ∨ i = 4 ∨ i = 5 ∨ i = 6 ∨ i = 7 ∨ i = 8 ∨ i = 9 := by omega
  rcases this with rfl | rfl | rfl | rfl | rfl | rfl | rfl | rfl | rfl | rfl <;> decide +kernel
variable {F : FC} {σ : List Addr} {lo : Lo} {ah : AH}
/-- call of a builtin by its name -/
theorem op_call (OK : FOk H F) (I : Inv prog w F σ lo ah s) {f : BF} {xs : List AV} {vs : List Value} {k : KA} (r : VRs σ s.heap xs vs) (h : aCall f xs ah k) : Op prog w F σ lo s (call f.v vs) k := by
  unfold aCall at h
  split at h
  · obtain ⟨hl, q⟩ := h
    obtain ⟨v, _, rfl, r1, r2⟩ := r.cons_inv; rw [r2.nil_inv]
    obtain ⟨t, rfl⟩ := vr_str_inv r1
    refine call_len_gives (typeIs_str s _ t) PySem.F.slot_str_len PySem.F.entry_str_len (PySem.F.args_str_len_1 _) (gives_str_len _ t) (by omega) (by rw [S_length]; omega) (fun ht => ?_)
    rw [S_length]; exact Op.val I vr_int q ht
  · obtain ⟨xs, e, hl, q⟩ := h
    obtain ⟨v, _, rfl, r1, r2⟩ := r.cons_inv; rw [r2.nil_inv]
    obtain ⟨p, vs, n, _, rfl, hp, r⟩ := I.list e r1
    have hn := r.length
    refine call_len_list (isList_of hp) (by rw [List.size_toArray]; omega) (fun ht => ?_)
    rw [List.size_toArray, hn]; exact Op.val I vr_int q ht
  · obtain ⟨v, _, rfl, r1, r2⟩ := r.cons_inv; rw [r2.nil_inv]
    obtain ⟨t, rfl⟩ := vr_str_inv r1
    exact P.ord_of_char fun ht => Op.val I vr_int h ht
  · obtain ⟨n, e, q⟩ := h
    obtain ⟨v, _, rfl, r1, r2⟩ := r.cons_inv
    obtain ⟨v', _, rfl, r3, r4⟩ := r2.cons_inv; rw [r4.nil_inv]
    obtain ⟨t, rfl⟩ := vr_str_inv r1; obtain ⟨u, rfl⟩ := vr_int_inv r3
    exact call_int16 (hex2_mem e) fun _ _ ht => Op.val I vr_int q ht
  · obtain ⟨v, _, rfl, r1, r2⟩ := r.cons_inv; rw [r2.nil_inv]
    obtain ⟨t, rfl⟩ := vr_str_inv r1
    exact P.str_of_str fun ht => Op.here I vr_str h
  · obtain ⟨h0, h1, q⟩ := h
    rename_i i
    obtain ⟨v, _, rfl, r1, r2⟩ := r.cons_inv; rw [r2.nil_inv]
    obtain ⟨t, rfl⟩ := vr_int_inv r1
    refine P.str_of_int (digit_log h0 h1) (fun ht => ?_)
    rw [digit_str h0 h1]; exact Op.val I vr_str q ht
  · exact h.elim
end Mine
end
section
open PySem PySem.Spec PySem.Calls PyProof.Rows PySem.W PySem.Builtin PySem.Builtin.Str
set_option maxRecDepth 100000
namespace Mine
/-! ## texts: what the library's functions on Str say for lists -/
theorem flatten_single {α : Type} (f : Nat → α → List α) : ∀ (l : List α) (g : α → α) (n : Nat), (∀ i c, l[i]? = some c → f (n + i) c = [g c]) → (l.mapIdx fun i c => f (n + i) c).flatten = l.map g
  | [], _, _, _ => rfl
  | c :: r, g, n, h => by
    rw [List.mapIdx_cons, List.flatten_cons, List.map_cons]
    have h0 := h 0 c rfl
    rw [h0]
    have ih := flatten_single f r g (n + 1) fun i c e => by
      have := h (i + 1) c (by simpa using e)
      rw [show n + 1 + i = n + (i + 1) by omega]; exact this
    have e : (List.mapIdx (fun i c => f (n + (i + 1)) c) r) = r.mapIdx fun i c => f (n + 1 + i) c := by
      congr 1; funext i c; rw [show n + (i + 1) = n + 1 + i by omega]
    rw [e, ih]; rfl
theorem placed_map (l : List Nat) (f : Nat → Nat → List Nat) (g : Nat → Nat) (h : ∀ i c, l[i]? = some c → f i c = [g c]) : (⟨placed (S l) f⟩ : Str) = S (l.map g) := by
  have e0 : ∀ (l : List Nat) (f : Nat → Nat → List Nat), List.map Array.toList (List.mapIdx (fun i c => (f i c).toArray) l) = List.mapIdx (fun i c => f i c) l := by
    intro l
    induction l with
    | nil => intro f; rfl
    | cons a r ih => intro f; rw [List.mapIdx_cons, List.mapIdx_cons, List.map_cons, ih fun i c => f (i + 1) c]
  have e : (placed (S l) f).toList = l.map g := by
    unfold placed S
    rw [Array.toList_flatten]
    simp only [Array.toList_mapIdx]
    have := flatten_single f l g 0 (by simpa using h)
    simp only [Nat.zero_add] at this
    rw [← this, ← e0]
  show (⟨placed (S l) f⟩ : Str) = ⟨(l.map g).toArray⟩
  rw [← e]
theorem lower_tab : ∀ c < 128, Unicode.lowerOf c = [lowC c] := by decide +kernel
theorem upper_tab : ∀ c < 128, Unicode.upperOf c = [upC c] := by decide +kernel
theorem lower_S (l : List Nat) (h : ∀ c ∈ l, c < 128) : Txt.lower (S l) = S (l.map lowC) := by
  refine placed_map l _ lowC fun i c e => ?_
  have hc := h c (List.mem_of_getElem? e)
  unfold Unicode.lowerAt
  have e' : (S l).cps[i]? = some c := by simpa [S] using e
  rw [e']
  have : (c == 0x3A3) = false := by rw [beq_eq_false_iff_ne]; omega
  simp only [this, Bool.false_and]
  exact lower_tab c hc
theorem upper_S (l : List Nat) (h : ∀ c ∈ l, c < 128) : Txt.upper (S l) = S (l.map upC) :=
  placed_map l _ upC fun i c e => upper_tab c (h c (List.mem_of_getElem? e))

theorem S_ext {x : Str} {l : List Nat} (h : x.cps.toList = l) : x = S l := by rw [← h]; exact (S_toList x).symm
theorem strip_S (l : List Nat) : Txt.stripChars (S l) (S [32, 9]) = S (stripF l) := by
  have hg : (fun c => (S [32, 9]).cps.contains c) = spt := by
    funext c; simp [S, spt]; rfl
  unfold Txt.stripChars
  rw [PyProof.Rows.stripBy_eq]
  show strSub (S l) (stripLo (fun c => (S [32, 9]).cps.contains c) true (S l)) (stripHi (fun c => (S [32, 9]).cps.contains c) true (S l) (stripLo (fun c => (S [32, 9]).cps.contains c) true (S l))) = _
  rw [hg]
  refine S_ext ?_
  rw [StrLaws.strSub_toList]
  simp only [stripLo, stripHi, if_true, S_cps, S_length]
  unfold stripF
  have e1 : ∀ m : List Nat, m.drop (m.takeWhile spt).length = m.dropWhile spt := fun m => by
    have := List.takeWhile_append_dropWhile (p := spt) (l := m)
    have h2 : (List.takeWhile spt m ++ List.dropWhile spt m).drop (List.takeWhile spt m).length = List.dropWhile spt m := List.drop_left ..
    rw [this] at h2; exact h2
  have e2 : ∀ m : List Nat, (m.reverse.dropWhile spt).reverse = m.take (m.length - (m.reverse.takeWhile spt).length) := fun m => by
    rw [← e1 m.reverse, List.reverse_drop, List.reverse_reverse, List.length_reverse]
  rw [e2, ← e1 l]
  congr 1
  have : (List.takeWhile spt l).length ≤ l.length := by
    have := congrArg List.length (List.takeWhile_append_dropWhile (p := spt) (l := l))
    rw [List.length_append] at this; omega
  rw [List.length_drop]; omega

theorem startswith_S (l : List Nat) (c : Nat) : Txt.startswith (S l) (S [c]) = (l.head? == some c) := by
  unfold Txt.startswith
  rw [StrLaws.subAt_eq, S_cps, S_cps, S_length, S_length]
  cases l with
  | nil => rfl
  | cons a r => simp
theorem endswith_S (l : List Nat) (c : Nat) : Txt.endswith (S l) (S [c]) = (l.getLast? == some c) := by
  unfold Txt.endswith
  rw [StrLaws.subAt_eq, S_cps, S_cps, S_length, S_length]
  rcases List.eq_nil_or_concat l with rfl | ⟨r, a, rfl⟩
  · rfl
  · simp
theorem join_S (sep : List Nat) : ∀ ts : List (List Nat), Txt.join (S sep) (ts.map S) = S (joinF sep ts) := fun ts => by
  unfold Txt.join
  rw [StrLaws.glued_eq_join]
  have key : ∀ ts : List (List Nat), Str.join (S sep) (ts.map S) = S (joinF sep ts) := by
    intro ts
    induction ts with
    | nil => rfl
    | cons x r ih =>
      cases r with
      | nil => rfl
      | cons y r =>
        show S x ++ S sep ++ Str.join (S sep) (List.map S (y :: r)) = _
        rw [ih, S_append, S_append]; rfl
  exact key ts

theorem repl1_append (c : Nat) (z a b : List Nat) : repl1 c z (a ++ b) = repl1 c z a ++ repl1 c z b := by unfold repl1; rw [List.flatMap_append]
theorem repl1_free (c : Nat) (z : List Nat) : ∀ l : List Nat, c ∉ l → repl1 c z l = l
  | [], _ => rfl
  | k :: r, h => by
    have h1 : ¬ k = c := fun e => h (e ▸ List.mem_cons_self ..)
    have h2 : c ∉ r := fun m => h (List.mem_cons_of_mem _ m)
    have := repl1_free c z r h2
    unfold repl1 at this ⊢
    rw [List.flatMap_cons, if_neg h1, this]; rfl
theorem repl1_join (c : Nat) (z : List Nat) : ∀ parts : List Str, (∀ p ∈ parts, c ∉ p.cps.toList) → repl1 c z (Str.join ⟨#[c]⟩ parts).cps.toList = (Str.join (S z) parts).cps.toList
  | [], _ => rfl
  | [p], h => repl1_free c z _ (h p (List.mem_singleton.mpr rfl))
  | p :: q :: r, h => by
    have ih := repl1_join c z (q :: r) fun a ha => h a (List.mem_cons_of_mem _ ha)
    show repl1 c z (p ++ ⟨#[c]⟩ ++ Str.join ⟨#[c]⟩ (q :: r)).cps.toList = (p ++ S z ++ Str.join (S z) (q :: r)).cps.toList
    simp only [Str.cps_append, Array.toList_append]
    rw [repl1_append, repl1_append, ih, repl1_free c z _ (h p (List.mem_cons_self ..)), S_cps]
    show p.cps.toList ++ repl1 c z [c] ++ _ = _
    simp [repl1]
theorem replace_S (l z : List Nat) (c : Nat) : Txt.replace (S l) (S [c]) (S z) = S (repl1 c z l) := by
  refine S_ext ?_
  show (Txt.replace (S l) ⟨#[c]⟩ (S z)).cps.toList = _
  rw [StrLaws.replace_one, ← repl1_join c z _ (StrLaws.split_free (S l) c), StrLaws.join_split, S_cps]
theorem replace_none (l z r : List Nat) (c : Nat) (h : c ∉ l) : Txt.replace (S l) (S (c :: r)) (S z) = S l := by
  unfold Txt.replace
  have : (occurrences (S l) (S (c :: r)) 0 (S l).length ((S l).length + 1)) = [] := by
    obtain ⟨f, hc⟩ := StrLaws.occ_chain (S l) (S (c :: r)) ((S l).length + 1)
    cases ho : occurrences (S l) (S (c :: r)) 0 (S l).length ((S l).length + 1) with
    | nil => rfl
    | cons i q =>
      rw [ho] at hc
      have hs := hc.2.1.2
      rw [StrLaws.subAt_eq, S_cps, S_cps, beq_iff_eq] at hs
      have : c ∈ (l.drop i).take (S (c :: r)).length := by rw [hs]; exact List.mem_cons_self ..
      exact absurd (List.mem_of_mem_drop (List.mem_of_mem_take this)) h
  rw [this]; rfl
/-- the first place of a sign -/
theorem takeWhile_at {c : Nat} {l : List Nat} {i : Nat} (h : l[i]? = some c) (hn : ∀ k, k < i → l[k]? ≠ some c) : (l.takeWhile (· != c)).length = i := by
  have e := congrArg List.length (List.takeWhile_append_dropWhile (p := (· != c)) (l := l))
  rw [dropWhile_at h hn, List.length_append, List.length_cons, List.length_drop] at e
  have := (List.getElem?_eq_some_iff.mp h).1
  omega
theorem occ_first_S (l : List Nat) (c : Nat) (h : c ∈ l) : ∃ r, occurrences (S l) (S [c]) 0 (S l).length 1 = (l.takeWhile (· != c)).length :: r := by
  rcases StrLaws.occ_head (S l) (S [c]) 1 (Nat.le_refl 1) with ⟨_, hn⟩ | ⟨i, r, h0, hi, hn⟩
  · obtain ⟨j, hj⟩ := List.getElem?_of_mem h
    exact absurd ((StrLaws.subAt_one (S l) c j).mpr (by rw [S_cps]; exact hj)) (hn j)
  · have hm := (StrLaws.subAt_one (S l) c i).mp hi
    rw [S_cps] at hm
    have := takeWhile_at hm fun k hk e => hn k hk ((StrLaws.subAt_one (S l) c k).mpr (by rw [S_cps]; exact e))
    rw [this]; exact ⟨r, h0⟩
theorem strSub_S (l : List Nat) (i j : Nat) : strSub (S l) i j = S ((l.drop i).take (j - i)) := S_ext (by rw [StrLaws.strSub_toList, S_cps])
end Mine
end
section
open PySem PySem.Spec PySem.Calls PyProof.Rows PySem.W PySem.Builtin PySem.Builtin.Str
set_option maxRecDepth 100000
namespace Mine
variable {prog : Program} {w : World} {H : Heap} {F : FC} {σ : List Addr} {lo : Lo} {ah : AH} {s : Shared}

/-! ## methods -/
theorem m_lower (I : Inv prog w F σ lo ah s) {l : List Nat} {v : Value} {k : KA} (r : VR σ s.heap (.str l) v) (hl : l.length ≤ 1000000) (hc : ∀ c ∈ l, c < 128) (q : k (.str (l.map lowC)) ah) :
    Op prog w F σ lo s (call (.builtin "str.lower") [v]) k := by
  obtain ⟨t, rfl⟩ := vr_str_inv r
  refine SC.lower (by rw [lower_S l hc, S_length, List.length_map]; exact PyProof.Rows.short24 (by omega)) (fun ht => ?_)
  rw [lower_S l hc]; exact Op.val I vr_str q ht
theorem m_upper (I : Inv prog w F σ lo ah s) {l : List Nat} {v : Value} {k : KA} (r : VR σ s.heap (.str l) v) (hl : l.length ≤ 1000000) (hc : ∀ c ∈ l, c < 128) (q : k (.str (l.map upC)) ah) :
    Op prog w F σ lo s (call (.builtin "str.upper") [v]) k := by
  obtain ⟨t, rfl⟩ := vr_str_inv r
  refine SC.upper (by rw [upper_S l hc, S_length, List.length_map]; exact PyProof.Rows.short24 (by omega)) (fun ht => ?_)
  rw [upper_S l hc]; exact Op.val I vr_str q ht
theorem m_strip (I : Inv prog w F σ lo ah s) {l : List Nat} {v u : Value} {k : KA} (r : VR σ s.heap (.str l) v) (r' : VR σ s.heap (.str [32, 9]) u) (hl : l.length ≤ 1000000) (q : k (.str (stripF l)) ah) :
    Op prog w F σ lo s (call (.builtin "str.strip") [v, u]) k := by
  obtain ⟨t, rfl⟩ := vr_str_inv r; obtain ⟨t', rfl⟩ := vr_str_inv r'
  refine SC.stripChars (fun _ _ ht => ?_) (by rw [S_length, sizeLine_eq]; omega)
  rw [strip_S]; exact Op.val I vr_str q ht
theorem m_starts (I : Inv prog w F σ lo ah s) {l : List Nat} {c : Nat} {v u : Value} {k : KA} (r : VR σ s.heap (.str l) v) (r' : VR σ s.heap (.str [c]) u) (q : k (.bool (l.head? == some c)) ah) :
    Op prog w F σ lo s (call (.builtin "str.startswith") [v, u]) k := by
  obtain ⟨t, rfl⟩ := vr_str_inv r; obtain ⟨t', rfl⟩ := vr_str_inv r'
  refine SC.startswith (fun ht => ?_)
  rw [startswith_S]; exact Op.here I vr_bool q
theorem m_ends (I : Inv prog w F σ lo ah s) {l : List Nat} {c : Nat} {v u : Value} {k : KA} (r : VR σ s.heap (.str l) v) (r' : VR σ s.heap (.str [c]) u) (q : k (.bool (l.getLast? == some c)) ah) :
    Op prog w F σ lo s (call (.builtin "str.endswith") [v, u]) k := by
  obtain ⟨t, rfl⟩ := vr_str_inv r; obtain ⟨t', rfl⟩ := vr_str_inv r'
  refine SC.endswith (fun ht => ?_)
  rw [endswith_S]; exact Op.here I vr_bool q
theorem at_S (l m : List Nat) (p : Nat) (hm : 0 < m.length) : (decide (p + m.length ≤ l.length) && subAt (S l) (S m) p) = ((l.drop p).take m.length == m) := by
  rw [StrLaws.subAt_eq, S_cps, S_cps, S_length]
  by_cases h : p + m.length ≤ l.length
  · simp [h]
  · simp only [h, decide_false, Bool.false_and]
    symm
    rw [beq_eq_false_iff_ne]
    intro e
    have := congrArg List.length e
    rw [List.length_take, List.length_drop] at this
    rcases Nat.le_total m.length (l.length - p) with h1 | h1
    · omega
    · rw [Nat.min_eq_right h1] at this; omega
theorem from_pos (n : Nat) {p : Int} (h : 0 ≤ p) : fromIndex n p = p.toNat := by unfold fromIndex; rw [if_neg (by omega)]; omega
theorem m_startsP (I : Inv prog w F σ lo ah s) {l : List Nat} {c : Nat} {p : Int} {v u x : Value} {k : KA} (r : VR σ s.heap (.str l) v) (r' : VR σ s.heap (.str [c]) u) (r'' : VR σ s.heap (.int p) x) (hp : 0 ≤ p)
    (q : k (.bool (l[p.toNat]? == some c)) ah) : Op prog w F σ lo s (call (.builtin "str.startswith") [v, u, x]) k := by
  obtain ⟨t, rfl⟩ := vr_str_inv r; obtain ⟨t', rfl⟩ := vr_str_inv r'; obtain ⟨t'', rfl⟩ := vr_int_inv r''
  refine SC.startswith3 (fun ht => ?_)
  have e : Txt.startswith3 (S l) (S [c]) p = (l[p.toNat]? == some c) := by
    unfold Txt.startswith3
    rw [from_pos _ hp, S_length, S_length, at_S l [c] _ (Nat.succ_pos _)]
    rw [Bool.eq_iff_iff, beq_iff_eq, beq_iff_eq]
    cases h : l[p.toNat]? with
    | none =>
      have : l.drop p.toNat = [] := by rw [List.drop_eq_nil_iff]; exact List.getElem?_eq_none_iff.mp h
      rw [this]; simp
    | some a =>
      obtain ⟨h1, h2⟩ := List.getElem?_eq_some_iff.mp h
      rw [List.drop_eq_getElem_cons h1, h2]; simp
  rw [e]; exact Op.here I vr_bool q
theorem VRs.texts {h : Heap} : ∀ {xs : List AV} {ts : List T} {vs : List Value}, strsOf xs = some ts → VRs σ h xs vs → ∃ l : List (Str × Tok), vs = strValues l ∧ l.map (·.1) = ts.map S
  | [], ts, vs, e, r => by
    cases e; rw [r.nil_inv]; exact ⟨[], rfl, rfl⟩
  | x :: xs, ts, vs, e, r => by
    cases x <;> simp only [strsOf, reduceCtorEq] at e
    obtain ⟨ts', e', rfl⟩ := Option.map_eq_some_iff.mp e
    obtain ⟨v, vs', rfl, r1, r2⟩ := r.cons_inv
    obtain ⟨t, rfl⟩ := vr_str_inv r1
    obtain ⟨l, rfl, hl⟩ := r2.texts e'
    exact ⟨(S _, t) :: l, rfl, by rw [List.map_cons, List.map_cons, hl]⟩
theorem m_join (I : Inv prog w F σ lo ah s) {l : List Nat} {o : Nat} {xs : List AV} {ts : List T} {v u : Value} {k : KA} (r : VR σ s.heap (.str l) v) (r' : VR σ s.heap (.ref o) u) (e : getO ah o = some (.list xs)) (e' : strsOf xs = some ts)
    (hl : (ts.map List.length).sum + ts.length * l.length ≤ 1000000) (q : k (.str (joinF l ts)) ah) : Op prog w F σ lo s (call (.builtin "str.join") [v, u]) k := by
  obtain ⟨t, rfl⟩ := vr_str_inv r
  obtain ⟨p, vs, n, _, rfl, hp, r1⟩ := I.list e r'
  obtain ⟨m, rfl, hm⟩ := r1.texts e'
  refine SC.join (isList_of hp) hm (joinOk_of ?_) (fun _ _ ht => ?_)
  · rw [List.map_map, List.length_map, S_length]
    have : (List.map ((fun x => x.length) ∘ S) ts) = ts.map List.length := List.map_congr_left fun a _ => S_length a
    rw [this]; omega
  · rw [join_S]; exact Op.val I vr_str q ht
theorem m_append (I : Inv prog w F σ lo ah s) {o : Nat} {xs : List AV} {x : AV} {v u : Value} {k : KA} (r : VR σ s.heap (.ref o) v) (r' : VR σ s.heap x u) (e : getO ah o = some (.list xs)) (hl : xs.length ≤ 1000)
    (q : k .none (setO ah o (.list (xs ++ [x])))) : Op prog w F σ lo s (call (.builtin "list.append") [v, u]) k := by
  obtain ⟨p, vs, n, e1, rfl, hp, r1⟩ := I.list e r
  refine append_at hp (fun h' hs ho ht => ?_) (by rw [List.size_toArray, r1.length, sizeLine_eq]; omega)
  have f := I.frz (mem_obj e1) hs.extBut
  have hr := List.prefix_refl σ
  refine ⟨σ, lo, _, .none, I.setObj (tk := s.toks) e1 hs.extBut (ao := .list (xs ++ [x])) ⟨vs ++ [u], ⟨n + 1, ?_⟩, (r1.mono hr f).append (.cons (r'.mono hr f) .nil)⟩ I.tk, hr, f, by simp only [VR], rfl, q⟩
  rw [ho]; simp
theorem m_get (OK : FOk H F) (B : Base prog w H) (I : Inv prog w F σ lo ah s) {o ep : Nat} {es : List (T × AV)} {x : T} {v u : Value} {k : KA} (r : VR σ s.heap (.ref o) v) (r' : VR σ s.heap (.str x) u) (e : getO ah o = some (.dict es ep))
    (q : k ((dget es x).getD .none) ah) : Op prog w F σ lo s (call (.builtin "dict.get") [v, u]) k := by
  obtain ⟨p, kvs, e1, rfl, hp, r1⟩ := I.dict e r
  obtain ⟨t, rfl⟩ := vr_str_inv r'
  refine call_meetsIn PySem.F.slot_dict_get hp.typeIs PySem.F.entry_dict_get (PySem.F.args_dict_get_2 _ _) (meets_dict_get (strKind prog w) p (strKind_is _ _ _ _) (I.notSys OK B e1)) ⟨_, hp.mapOf, fun ht => ?_⟩
  obtain ⟨h1, h2⟩ := r1.at x
  cases hd : dget es x with
  | none => rw [hd] at q; rw [h1 hd]; exact Op.val I vr_none q ht
  | some av => rw [hd] at q; obtain ⟨v, e', rv⟩ := h2 av hd; rw [e']; exact Op.val I rv q ht
set_option maxHeartbeats 4000000 in
/-- startswith with two texts to choose from -/
theorem gives_starts2 (x a b : Str) (i : Int) (t v ta tb : Tok) (T : Addr) : Meets (Builtin.«str.startswith» ⟨[.str x t, .ref T, .int i v], []⟩) (fun _ R s => s.heap.IsTuple T #[.str a ta, .str b tb] ∧
    R (.ok (.ret (.bool ((decide (fromIndex x.length i + a.length ≤ x.length) && subAt x a (fromIndex x.length i)) || (decide (fromIndex x.length i + b.length ≤ x.length) && subAt x b (fromIndex x.length i)))))) s) :=
  .of_wp fun prog w A R s h => by
    obtain ⟨hp, g, d, tk, os⟩ := s
    obtain ⟨⟨⟨cls, dd, data, sl⟩, ho, hc, n, hd⟩, h⟩ := h
    simp only at hc hd
    subst hc hd
    have f1 := int_index
    have f2 := AutoSeq1.sub_tuple_tuple
    wp_walk using AutoSeq1.wpAny_loadPart' ho
    have e : ∀ p : Str, (decide (fromIndex x.length i + p.length ≤ min ((x.length : Int)).toNat x.length) && subAt x p (fromIndex x.length i)) = (decide (fromIndex x.length i + p.length ≤ x.length) && subAt x p (fromIndex x.length i)) := fun p => by
      rw [Int.toNat_natCast, Nat.min_self]
    show wpAny _ _ (if (decide (fromIndex x.length i + a.length ≤ min ((x.length : Int)).toNat x.length) && subAt x a (fromIndex x.length i)) = true then _ else _) _ _ _
    rw [e]
    cases ha : (decide (fromIndex x.length i + a.length ≤ x.length) && subAt x a (fromIndex x.length i)) with
    | true =>
      rw [ha] at h
      wp_walk
      exact ⟨_, rfl, h⟩
    | false =>
      rw [ha] at h
      wp_walk
      show wpAny _ _ (if (decide (fromIndex x.length i + b.length ≤ min ((x.length : Int)).toNat x.length) && subAt x b (fromIndex x.length i)) = true then _ else _) _ _ _
      rw [e]
      cases hb : (decide (fromIndex x.length i + b.length ≤ x.length) && subAt x b (fromIndex x.length i)) with
      | true =>
        rw [hb] at h
        wp_walk
        exact ⟨_, rfl, h⟩
      | false =>
        rw [hb] at h
        wp_walk
        exact ⟨_, rfl, h⟩
theorem m_starts2 (I : Inv prog w F σ lo ah s) {l : List Nat} {a b c d : Nat} {p : Int} {v u x : Value} {k : KA} (r : VR σ s.heap (.str l) v) (r' : VR σ s.heap (.tup [.str [a, b], .str [c, d]]) u) (r'' : VR σ s.heap (.int p) x) (hp : 0 ≤ p)
    (q : k (.bool (((l.drop p.toNat).take 2 == [a, b]) || ((l.drop p.toNat).take 2 == [c, d]))) ah) : Op prog w F σ lo s (call (.builtin "str.startswith") [v, u, x]) k := by
  obtain ⟨t, rfl⟩ := vr_str_inv r; obtain ⟨t'', rfl⟩ := vr_int_inv r''
  obtain ⟨T, vs, rfl, ⟨n, hT⟩, r1⟩ := vr_tup_inv r'
  obtain ⟨v1, _, rfl, r2, r3⟩ := r1.cons_inv
  obtain ⟨v2, _, rfl, r4, r5⟩ := r3.cons_inv
  have := r5.nil_inv; subst this
  obtain ⟨ta, rfl⟩ := vr_str_inv r2; obtain ⟨tb, rfl⟩ := vr_str_inv r4
  refine call_meets PySem.F.slot_str_startswith (typeIs_str _ _ _) PySem.F.entry_str_startswith (PySem.F.args_str_startswith_3 _ _ _) (gives_starts2 (S l) (S [a, b]) (S [c, d]) p t t'' ta tb T) ⟨⟨_, hT, rfl, n, rfl⟩, fun ht => ?_⟩
  rw [from_pos _ hp, S_length, S_length, S_length, at_S l [a, b] _ (Nat.succ_pos _), at_S l [c, d] _ (Nat.succ_pos _)]
  exact Op.here I vr_bool q
end Mine
end
section
open PySem PySem.Spec PySem.Calls PyProof.Rows PySem.W PySem.Builtin PySem.Builtin.Str
set_option maxRecDepth 100000
namespace Mine
variable {prog : Program} {w : World} {H : Heap} {F : FC} {σ : List Addr} {lo : Lo} {ah : AH} {s : Shared}
theorem vr_tup {h : Heap} {p : Addr} {vs : List Value} {xs : List AV} (t : IsTup h p vs) (r : VRs σ h xs vs) : VR σ h (.tup xs) (.ref p) := by simp only [VR]; exact ⟨p, vs, rfl, t, r⟩
theorem m_partition (I : Inv prog w F σ lo ah s) {l : List Nat} {c : Nat} {v u : Value} {k : KA} (r : VR σ s.heap (.str l) v) (r' : VR σ s.heap (.str [c]) u) (hl : l.length ≤ 1000000) (hc : c ∈ l)
    (q : k (.tup [.str (l.takeWhile (· != c)), .str [c], .str (l.drop ((l.takeWhile (· != c)).length + 1))]) ah) : Op prog w F σ lo s (call (.builtin "str.partition") [v, u]) k := by
  obtain ⟨t, rfl⟩ := vr_str_inv r; obtain ⟨t', rfl⟩ := vr_str_inv r'
  refine call_meets PySem.F.slot_str_partition (typeIs_str _ _ _) PySem.F.entry_str_partition (PySem.F.args_str_partition_2 _ _) (meets_str_partition (S l) (S [c]) t t' rfl (by rw [S_length, sizeLine_eq]; omega)) ?_
  obtain ⟨rest, e⟩ := occ_first_S l c hc
  rw [e]
  intro ht
  have e1 : strSub (S l) 0 (l.takeWhile (· != c)).length = S (l.takeWhile (· != c)) := by
    rw [strSub_S, List.drop_zero, Nat.sub_zero]
    congr 1
    conv => lhs; rw [← List.takeWhile_append_dropWhile (p := (· != c)) (l := l)]
    rw [List.takeWhile_append_dropWhile]
    have := List.takeWhile_append_dropWhile (p := (· != c)) (l := l)
    have h2 : (List.takeWhile (· != c) l ++ List.dropWhile (· != c) l).take (List.takeWhile (· != c) l).length = List.takeWhile (· != c) l := List.take_left ..
    rw [this] at h2; exact h2
  have e2 : strSub (S l) ((l.takeWhile (· != c)).length + (S [c]).length) (S l).length = S (l.drop ((l.takeWhile (· != c)).length + 1)) := by
    rw [strSub_S, S_length, S_length]
    congr 1
    exact List.take_of_length_le (by rw [List.length_drop]; exact Nat.le_refl _)
  show Post prog w F σ s.heap _ _ { s with toks := s.toks + 1 + 1, heap := s.heap.push { cls := .type "tuple", data := .seq #[.str (strSub (S l) 0 (l.takeWhile (· != c)).length) s.toks, .str (S [c]) t', .str (strSub (S l) ((l.takeWhile (· != c)).length + (S [c]).length) (S l).length) (s.toks + 1)] } }
  rw [e1, e2]
  exact Op.grow I (fun _ _ e => Heap.get?_push_of_some _ e) (vr_tup ⟨_, Heap.get?_push_size _ rfl⟩ (.cons vr_str (.cons vr_str (.cons vr_str .nil)))) q ht

theorem m_replace (I : Inv prog w F σ lo ah s) {l b : List Nat} {c : Nat} {a : List Nat} {r : List Nat} {v : Value} {u u' : Tok} {k : KA} (rv : VR σ s.heap (.str l) v) (h1 : u ≠ 0) (h2 : u' ≠ 0) (h3 : u ≠ u') (hl : l.length ≤ 100000) (hb : b.length ≤ 10)
    (hne : c :: a ≠ b) (hr : (a = [] ∧ r = repl1 c b l) ∨ (c ∉ l ∧ r = l)) (q : k (.str r) ah) :
    Op prog w F σ lo s (call (.builtin "str.replace") [v, .str (S (c :: a)) u, .str (S b) u']) k := by
  obtain ⟨t, rfl⟩ := vr_str_inv rv
  refine SC.replaceW h1 h2 h3 (by rw [S_beq]; exact decide_eq_false hne) (by rw [S_length]; omega) (by rw [S_length]; omega) (fun _ _ ht => ?_)
  have e : Txt.replace (S l) (S (c :: a)) (S b) = S r := by
    rcases hr with ⟨e1, e2⟩ | ⟨h, e2⟩
    · rw [e1, e2]; exact replace_S l b c
    · rw [e2]; exact replace_none l b a c h
  rw [e]; exact Op.val I vr_str q ht
/-! ### bytes of one int -/
theorem b1_bytes (OK : FOk H F) (I : Inv prog w F σ lo ah s) {i : Int} {v : Value} {k : KA} (r : VR σ s.heap (.int i) v) (hi : 0 ≤ i ∧ i < 256) (q : k (.bytes [UInt8.ofNat i.toNat]) ah) :
    wpAny (model prog w) F.A (call (.type "bytes") [.ref s.heap.objs.size]) (fun v s' => 1 ≤ s'.toks → Post prog w F σ s.heap (fun av lo' ah' => lo' = lo ∧ k av ah') v s') Nev { s with heap := s.heap.push { cls := .type "list", data := .seq #[v] } } := by
  obtain ⟨t, rfl⟩ := vr_int_inv r
  exact call_bytes_ints (vs := [.int i t]) (ns := [i]) ⟨_, Heap.get?_push_size _ rfl, rfl, _, rfl⟩ (.cons i t .nil) (fun n hn => by rw [List.mem_singleton] at hn; subst hn; exact hi) (by show 1 ≤ sizeLine; rw [sizeLine_eq]; decide) OK.hand
    fun h' t' tk hx ht => Op.grow I (fun b o e => hx b o (Heap.get?_push_of_some _ e)) vr_bytes q ht
end Mine
end
section
open PySem PySem.Spec PySem.Calls PyProof.Rows PySem.W PySem.Builtin PySem.Builtin.Str
set_option maxRecDepth 100000
namespace Mine
variable {prog : Program} {w : World} {H : Heap} {F : FC} {σ : List Addr} {lo : Lo} {ah : AH} {s : Shared}
theorem perm2 {i j : Int} {l : List Int} (hp : l.Perm [i, j]) (hs : l.Pairwise (· ≤ ·)) : l = [min i j, max i j] := by
  have hl := hp.length_eq
  match l, hl with
  | [a, b], _ =>
    rw [List.pairwise_cons] at hs
    have hab := hs.1 b (List.mem_cons_self ..)
    have ha : a ∈ [i, j] := hp.mem_iff.mp (List.mem_cons_self ..)
    have hb : b ∈ [i, j] := hp.mem_iff.mp (by simp)
    have hi : i ∈ [a, b] := hp.mem_iff.mpr (by simp)
    have hj : j ∈ [a, b] := hp.mem_iff.mpr (by simp)
    simp only [List.mem_cons, List.not_mem_nil, or_false] at ha hb hi hj
    have : a = min i j ∧ b = max i j := by omega
    rw [this.1, this.2]
theorem op_sorted2 (I : Inv prog w F σ lo ah s) {i j : Int} {v u : Value} {k : KA} (r : VR σ s.heap (.int i) v) (r' : VR σ s.heap (.int j) u) (q : k (.ref ah.length) (ah ++ [.list [.int (min i j), .int (max i j)]])) :
    wpAny (model prog w) F.A (call (.builtin "sorted") [.ref s.heap.objs.size]) (fun v s' => 1 ≤ s'.toks → Post prog w F σ s.heap (fun av lo' ah' => lo' = lo ∧ k av ah') v s') Nev { s with heap := s.heap.push { cls := .type "list", data := .seq #[v, u] } } := by
  obtain ⟨t, rfl⟩ := vr_int_inv r; obtain ⟨t', rfl⟩ := vr_int_inv r'
  have hl : (s.heap.push { cls := .type "list", data := .seq #[.int i t, .int j t'] }).IsList s.heap.objs.size [Value.int i t, Value.int j t'].toArray := isList_of (Heap.get?_push_size _ rfl)
  refine sorted_ints (ns := [i, j]) hl ?_ (by show 2 < 64; omega) (fun out ns' hI hp hs ht => ?_)
  · exact .cons _ _ (.cons _ _ .nil)
  · have e := perm2 hp hs
    subst e
    obtain ⟨n, hn⟩ := sortedAll_at (s.heap.push { cls := .type "list", data := .seq #[.int i t, .int j t'] }) [Value.int i t, Value.int j t'] out
    refine Op.list I (vs := out.toList) (n := n) (fun b o e => sortedAll_old (Heap.get?_push_of_some _ e)) ?_ hn ?_ q ht
    · cases hq : s.heap.get? ((s.heap.push { cls := .type "list", data := .seq #[.int i t, .int j t'] }).objs.size + 1) with
      | none => rfl
      | some o => have := Heap.lt_size hq; simp [Heap.push] at this; exact (Nat.lt_irrefl _ (Nat.lt_of_succ_lt (Nat.lt_of_succ_lt this))).elim
    · generalize out.toList = os at hI
      cases hI with
      | cons _ _ h1 => cases h1 with
        | cons _ _ h2 => cases h2; exact .cons vr_int (.cons vr_int .nil)

/-! ### decode -/
open PySem.Builtin._codecs
/-- what stands behind the arguments -/
def decRest (b : Array UInt8) (t : Tok) (e : List Nat) (err : Option (List Nat)) : Sem PySem.Fin :=
  if b.isEmpty = true then (do rule "bytes.decode.empty"; retStr Str.empty) else do
    let _ ← mkStr "utf-8"
    let e ← mkStr (S e)
    let r ← match err with | some l => mkStr (S l) | none => pure .none
    let i ← mkStr "bytes.decode"
    ret (← call (.builtin "_codecs.decode.text") [.bytes b t, e, r, i])
def sRepl : List Nat := [114, 101, 112, 108, 97, 99, 101]
theorem decode_utf8 (b : Array UInt8) (t u v : Tok) : Builtin.«bytes.decode» ⟨[.bytes b t, .str (S sUtf8) u, .str (S sRepl) v], []⟩ = decRest b t sUtf8 (some sRepl) := by
  kernel_rfl
theorem decode_ascii (b : Array UInt8) (t u v : Tok) : Builtin.«bytes.decode» ⟨[.bytes b t, .str (S sAscii) u, .str (S sRepl) v], []⟩ = decRest b t sAscii (some sRepl) := by
  kernel_rfl
theorem decode_iso (b : Array UInt8) (t u : Tok) : Builtin.«bytes.decode» ⟨[.bytes b t, .str (S sIso) u], []⟩ = decRest b t sIso none := by
  kernel_rfl
theorem text_any (b : Array UInt8) (t u i : Tok) (e : Str) (err : Value) (er : Option Str) (he : (err = .none ∧ er = none) ∨ ∃ e' v, err = .str e' v ∧ er = some e') :
    Builtin.«_codecs.decode.text» ⟨[.bytes b t, .str e u, err, .str "bytes.decode" i], []⟩ = (do ret (← decodeRoad "bytes.decode" b e er [])) := by
  have hid : (Str.ofString "bytes.decode").toString = "bytes.decode" := by decide +kernel
  unfold Builtin.«_codecs.decode.text»
  rcases he with ⟨rfl, rfl⟩ | ⟨e', v, rfl, rfl⟩ <;> dsimp only <;> rw [hid, KBd.like_eq, KBd.held_eq] <;> rfl
theorem road_utf8 (b : Array UInt8) (er : Option Str) : decodeRoad "bytes.decode" b (S sUtf8) er [] = (do mkStr ⟨(← runDecoder "bytes.decode" utf8Decoder er true b 0 []).1⟩) := by kernel_rfl
theorem road_ascii (b : Array UInt8) (er : Option Str) : decodeRoad "bytes.decode" b (S sAscii) er [] = (do mkStr ⟨(← runDecoder "bytes.decode" asciiDecoder er true b 0 []).1⟩) := by kernel_rfl
theorem road_iso (b : Array UInt8) (er : Option Str) : decodeRoad "bytes.decode" b (S sIso) er [] = (do mkStr ⟨(← runDecoder "bytes.decode" latin1Decoder er true b 0 []).1⟩) := by kernel_rfl
/-- the decoder's loop, where every step finds a text -/
inductive Dec (d : Decoder) (b : Array UInt8) : Nat → List Nat → Prop
  | nil {p : Nat} : b.size ≤ p → Dec d b p []
  | cons {p q : Nat} {c : Nat} {l : List Nat} : p < b.size → p < q → d.find true b p = .char c q → Dec d b q l → Dec d b p (c :: l)
theorem Dec.inv {d : Decoder} {b : Array UInt8} {p : Nat} {l : List Nat} (h : Dec d b p l) : (b.size ≤ p ∧ l = []) ∨ ∃ q c r, p < b.size ∧ p < q ∧ d.find true b p = .char c q ∧ Dec d b q r ∧ l = c :: r := by
  cases h with
  | nil h => exact .inl ⟨h, rfl⟩
  | cons h1 h2 h3 h4 => exact .inr ⟨_, _, _, h1, h2, h3, h4, rfl⟩
theorem run_dec {A : Around} {E : Value → Shared → Prop} {d : Decoder} {b : Array UInt8} {errors : Option Str} {l : List Nat} {Q : Array Nat × Nat → Shared → Prop} (hd : Dec d b 0 l) (hl : b.size ≤ 1000000) (h : ∀ p, Q (l.toArray, p) s) :
    wpAny (model prog w) A (runDecoder "bytes.decode" d errors true b 0 []) Q E s := by
  unfold runDecoder
  dsimp only
  rw [Std.Legacy.Range.forIn_eq_forIn_range']
  refine wpAny_bind (wpAny_forIn_list _ (fun (rest : List Nat) (st : Nat × Array Nat × Faults) s' => s' = s ∧ b.size ≤ st.1 + rest.length ∧ st.2.1.size ≤ st.1 ∧ st.2.1.size ≤ b.size ∧ ∃ r, Dec d b st.1 r ∧ l = st.2.1.toList ++ r)
    (fun (st : Nat × Array Nat × Faults) s' => wpAny (model prog w) A (pure (st.2.1, st.1)) Q E s') ?_ ?_ _ _ ?_)
  · rintro x rest ⟨p, out, stf⟩ s' ⟨rfl, h1, h2, h3, r, hr, e⟩
    dsimp only at *
    rw [if_neg (by rw [sizeLine_eq]; omega)]
    rcases hr.inv with ⟨hp, rfl⟩ | ⟨q, c, r', hp, hq, hf, hr', rfl⟩
    · rw [if_pos hp]
      refine wpAny_pure (wpAny_pure ?_)
      rw [List.append_nil] at e
      dsimp only
      have := h p
      rw [e] at this
      simpa using this
    · rw [if_neg (by omega), hf]
      refine wpAny_pure ⟨rfl, ?_, ?_, ?_, r', hr', ?_⟩
      · rw [List.length_cons] at h1; omega
      · simp; omega
      · simp; omega
      · simp [e]
  · rintro ⟨p, out, stf⟩ s' ⟨rfl, h1, h2, h3, r, hr, e⟩
    dsimp only at *
    rcases hr.inv with ⟨hp, rfl⟩ | ⟨q, c, r', hp, hq, hf, hr', rfl⟩
    · refine wpAny_pure ?_
      rw [List.append_nil] at e
      have := h p
      rw [e] at this
      simpa using this
    · simp at h1; omega
  · refine ⟨rfl, ?_, Nat.zero_le _, Nat.zero_le _, l, hd, rfl⟩
    simp [Std.Legacy.Range.size]
theorem get_pre {α : Type} (pre suf : List α) (k : Nat) : (pre ++ suf).toArray[pre.length + k]? = suf[k]? := by
  rw [List.getElem?_toArray, List.getElem?_append_right (Nat.le_add_right ..), Nat.add_sub_cancel_left]
theorem getD_pre (pre suf : List UInt8) (a : UInt8) (r : List UInt8) (e : suf = a :: r) : (pre ++ suf).toArray.getD pre.length 0 = a := by
  rw [Array.getD_eq_getD_getElem?]
  have := get_pre pre suf 0
  rw [Nat.add_zero] at this
  rw [this, e]; rfl
theorem utf8_a (pre r : List UInt8) (a : UInt8) (h : a < 128) : Bytes.utf8At (pre ++ a :: r).toArray pre.length = (.char a.toNat, pre.length + 1) := by
  unfold Bytes.utf8At
  rw [getD_pre pre _ a r rfl]
  dsimp only
  rw [if_pos (by have := UInt8.lt_iff_toNat_lt.mp h; simpa using this)]
theorem utf8_233 (pre r : List UInt8) : Bytes.utf8At (pre ++ 195 :: 169 :: r).toArray pre.length = (.char 233, pre.length + 2) := by
  unfold Bytes.utf8At
  rw [getD_pre pre _ 195 _ rfl]
  have h1 := get_pre pre (195 :: 169 :: r) 1
  have e1 : (195 :: 169 :: r : List UInt8)[1]? = some 169 := rfl
  rw [e1] at h1
  simp [List.range_succ, h1, Except.bind]
theorem utf8_8364 (pre r : List UInt8) : Bytes.utf8At (pre ++ 226 :: 130 :: 172 :: r).toArray pre.length = (.char 8364, pre.length + 3) := by
  unfold Bytes.utf8At
  rw [getD_pre pre _ 226 _ rfl]
  have h1 := get_pre pre (226 :: 130 :: 172 :: r) 1
  have h2 := get_pre pre (226 :: 130 :: 172 :: r) 2
  have e1 : (226 :: 130 :: 172 :: r : List UInt8)[1]? = some 130 := rfl
  have e2 : (226 :: 130 :: 172 :: r : List UInt8)[2]? = some 172 := rfl
  rw [e1] at h1
  rw [e2] at h2
  simp [List.range_succ, h1, h2, Except.bind]
theorem sz_pre {α : Type} (pre suf : List α) : (pre ++ suf).toArray.size = pre.length + suf.length := by simp
theorem dec_utf8 : ∀ (n : Nat) (suf pre : List UInt8) (l : List Nat), suf.length ≤ n → decU suf = some l → Dec utf8Decoder (pre ++ suf).toArray pre.length l
  | n, [], pre, l, _, h => by
    cases h; exact .nil (by simp)
  | 0, _ :: _, _, _, hn, _ => absurd hn (Nat.not_succ_le_zero _)
  | n + 1, a :: r, pre, l, hn, h => by
    have hr : r.length ≤ n := Nat.le_of_succ_le_succ hn
    unfold decU at h
    by_cases ha : a < 128
    · rw [if_pos ha] at h
      obtain ⟨l', h', rfl⟩ := Option.map_eq_some_iff.mp h
      refine .cons (q := pre.length + 1) (by rw [sz_pre]; simp) (Nat.lt_succ_self _) ?_ ?_
      · show (match Bytes.utf8At _ _ with | (.char c, q0) => Found.char c q0 | (.bad _ stop reason, _) => _) = _
        rw [utf8_a pre r a ha]
      · have := dec_utf8 n r (pre ++ [a]) l' hr h'
        rw [List.append_assoc, List.length_append] at this
        exact this
    · rw [if_neg ha] at h
      split at h
      · rename_i b r'
        split at h
        · rename_i hb
          subst hb
          obtain ⟨l', h', rfl⟩ := Option.map_eq_some_iff.mp h
          refine .cons (q := pre.length + 2) (by rw [sz_pre]; simp) (by omega) ?_ ?_
          · show (match Bytes.utf8At _ _ with | (.char c, q0) => Found.char c q0 | (.bad _ stop reason, _) => _) = _
            rw [utf8_233 pre r']
          · have := dec_utf8 n r' (pre ++ [195, 169]) l' (by simp at hr; omega) h'
            rw [List.append_assoc, List.length_append] at this
            exact this
        · cases h
      · rename_i b c r'
        split at h
        · rename_i hb
          obtain ⟨rfl, rfl⟩ := hb
          obtain ⟨l', h', rfl⟩ := Option.map_eq_some_iff.mp h
          refine .cons (q := pre.length + 3) (by rw [sz_pre]; simp) (by omega) ?_ ?_
          · show (match Bytes.utf8At _ _ with | (.char c, q0) => Found.char c q0 | (.bad _ stop reason, _) => _) = _
            rw [utf8_8364 pre r']
          · have := dec_utf8 n r' (pre ++ [226, 130, 172]) l' (by simp at hr; omega) h'
            rw [List.append_assoc, List.length_append] at this
            exact this
        · cases h
      · cases h
theorem dec_iso : ∀ (suf pre : List UInt8), Dec latin1Decoder (pre ++ suf).toArray pre.length (suf.map (·.toNat))
  | [], pre => .nil (by simp)
  | a :: r, pre => by
    refine .cons (q := pre.length + 1) (by rw [sz_pre]; simp) (Nat.lt_succ_self _) ?_ ?_
    · show Found.char ((pre ++ a :: r).toArray.getD pre.length 0).toNat (pre.length + 1) = _
      rw [getD_pre pre _ a r rfl]
    · have := dec_iso r (pre ++ [a])
      rw [List.append_assoc, List.length_append] at this
      exact this
theorem dec_ascii : ∀ (suf pre : List UInt8), (∀ a ∈ suf, a < 128) → Dec asciiDecoder (pre ++ suf).toArray pre.length (suf.map (·.toNat))
  | [], pre, _ => .nil (by simp)
  | a :: r, pre, h => by
    have ha := UInt8.lt_iff_toNat_lt.mp (h a (List.mem_cons_self ..))
    refine .cons (q := pre.length + 1) (by rw [sz_pre]; simp) (Nat.lt_succ_self _) ?_ ?_
    · show (let c := ((pre ++ a :: r).toArray.getD pre.length 0).toNat; if c < 128 then Found.char c (pre.length + 1) else _) = _
      rw [getD_pre pre _ a r rfl]
      dsimp only
      rw [if_pos (by simpa using ha)]
    · have := dec_ascii r (pre ++ [a]) fun x hx => h x (List.mem_cons_of_mem _ hx)
      rw [List.append_assoc, List.length_append] at this
      exact this
theorem wp_text {A : Around} {E : Value → Shared → Prop} {b : Array UInt8} {t u i : Tok} {e : List Nat} {d : Decoder} {err : Value} {er : Option Str} {l : List Nat} {Q : Value → Shared → Prop} (he : (err = .none ∧ er = none) ∨ ∃ e' v, err = .str e' v ∧ er = some e')
    (hroad : decodeRoad "bytes.decode" b (S e) er [] = (do mkStr ⟨(← runDecoder "bytes.decode" d er true b 0 []).1⟩)) (hd : Dec d b 0 l) (hb : b.size ≤ 1000000) (hl : l.length ≤ 1000000) (h : ∀ t' k, Q (.str (S l) t') { s with toks := k }) :
    wpAny (model prog w) A (call (.builtin "_codecs.decode.text") [.bytes b t, .str (S e) u, err, .str "bytes.decode" i]) Q E s := by
  refine call_function_entry KBd.kind_text KBd.plain_text KBd.entry_text (KBd.args_text _ _ _ _) ?_
  rw [text_any b t u i (S e) err er he, hroad]
  refine wpAny_bind (wpAny_bind (run_dec hd hb fun p => wpAny_mkStr ?_ (by show l.toArray.size ≤ _; rw [List.size_toArray, sizeLine_eq]; omega)))
  exact wpAny_pure ⟨_, rfl, h _ _⟩
theorem meets_dec {b : Array UInt8} {t : Tok} {e : List Nat} {d : Decoder} {err : Option (List Nat)} {l : List Nat} (hroad : ∀ er, decodeRoad "bytes.decode" b (S e) er [] = (do mkStr ⟨(← runDecoder "bytes.decode" d er true b 0 []).1⟩))
    (hd : Dec d b 0 l) (hb : b.size ≤ 1000000) (hl : l.length ≤ 1000000) (hle : e.length ≤ 100) (hlr : ∀ r, err = some r → r.length ≤ 100) : Meets (decRest b t e err) (fun _ R s => ∀ t' k, R (.ok (.ret (.str (S l) t'))) { s with toks := k }) :=
  .of_wp fun prog w A R s h => by
    unfold decRest
    by_cases hz : b.isEmpty = true
    · rw [if_pos hz]
      have : l = [] := by
        rcases hd.inv with ⟨_, e⟩ | ⟨q, c, r, h1, _⟩
        · exact e
        · have : b.size = 0 := by simpa using hz
          omega
      subst this
      refine wpAny_bind (wpAny_rule ?_)
      exact wpAny_bind (wpAny_mkStr (wpAny_pure ⟨_, rfl, h _ _⟩) (by decide))
    · rw [if_neg hz]
      refine wpAny_bind (wpAny_mkStr (wpAny_bind (wpAny_mkStr ?_ (by rw [S_length, sizeLine_eq]; omega))) (by decide))
      have fin : ∀ (s : Shared) (ev : Value) (er : Option Str) (u : Tok), ((ev = .none ∧ er = none) ∨ ∃ e' v, ev = .str e' v ∧ er = some e') → (∀ t' k, R (.ok (.ret (.str (S l) t'))) { s with toks := k }) →
          wpAny (model prog w) A.in1 (do let i ← mkStr "bytes.decode"; ret (← call (.builtin "_codecs.decode.text") [.bytes b t, .str (S e) u, ev, i])) (fun fin s' => ∃ v, fin = .done (.ret v) ∧ R (.ok (.ret v)) s') (fun e s' => R (.error e) s') s := by
        intro s ev er u he h
        refine wpAny_bind (wpAny_mkStr (wpAny_bind (wp_text he (hroad er) hd hb hl fun t' k => wpAny_pure ⟨_, rfl, h t' k⟩)) (by decide))
      cases err with
      | none => exact wpAny_bind (wpAny_pure (fin _ .none none _ (.inl ⟨rfl, rfl⟩) h))
      | some r => exact wpAny_bind (wpAny_mkStr (fin _ _ (some (S r)) _ (.inr ⟨_, _, rfl, rfl⟩) h) (by rw [S_length, sizeLine_eq]; have := hlr r rfl; omega))
theorem Dec.len {d : Decoder} {b : Array UInt8} {p : Nat} {l : List Nat} (h : Dec d b p l) : p + l.length ≤ max p b.size := by
  induction h with
  | nil h => simp; omega
  | cons h1 h2 _ _ ih => simp only [List.length_cons]; omega
theorem dec_args (a b c : Value) : argsOk "bytes.decode" ⟨[a, b, c], []⟩ := by unfold argsOk; kernel_rfl
theorem m_decode (I : Inv prog w F σ lo ah s) {b : List UInt8} {e : List Nat} {l : List Nat} {v u x : Value} {k : KA} (r : VR σ s.heap (.bytes b) v) (r' : VR σ s.heap (.str e) u) (r'' : VR σ s.heap (.str sRepl) x) (he : e = sUtf8 ∨ e = sAscii) (hb : b.length ≤ 1000000)
    (hd : decF e b = some l) (q : k (.str l) ah) : Op prog w F σ lo s (call (.builtin "bytes.decode") [v, u, x]) k := by
  obtain ⟨t, rfl⟩ := vr_bytes_inv r; obtain ⟨t', rfl⟩ := vr_str_inv r'; obtain ⟨t'', rfl⟩ := vr_str_inv r''
  have hsz : b.toArray.size ≤ 1000000 := by rw [List.size_toArray]; exact hb
  have go : ∀ (d : Decoder), Dec d b.toArray 0 l → (∀ er, decodeRoad "bytes.decode" b.toArray (S e) er [] = (do mkStr ⟨(← runDecoder "bytes.decode" d er true b.toArray 0 []).1⟩)) →
      Builtin.«bytes.decode» ⟨[.bytes b.toArray t, .str (S e) t', .str (S sRepl) t''], []⟩ = decRest b.toArray t e (some sRepl) → Op prog w F σ lo s (call (.builtin "bytes.decode") [.bytes b.toArray t, .str (S e) t', .str (S sRepl) t'']) k := by
    intro d hD hroad hE
    have hl : l.length ≤ 1000000 := by have := hD.len; omega
    exact call_meets FB.slot_bytes_decode (typeIs_bytes _ _ _) FB.entry_bytes_decode (dec_args _ _ _) (hE ▸ meets_dec hroad hD hsz hl (by rcases he with rfl | rfl <;> decide) (fun r e => by cases e; decide)) (fun t' k ht => Op.val I vr_str q ht)
  rcases he with rfl | rfl
  · have hd' : decU b = some l := by unfold decF at hd; rw [if_pos rfl] at hd; exact hd
    exact go utf8Decoder (dec_utf8 b.length b [] l (Nat.le_refl _) hd') (road_utf8 b.toArray) (decode_utf8 b.toArray t t' t'')
  · have hd' : (∀ a ∈ b, a < 128) ∧ l = b.map (·.toNat) := by
      unfold decF at hd
      rw [if_neg (by decide), if_neg (by decide)] at hd
      split at hd
      · rename_i h; cases hd; exact ⟨by simpa using h, rfl⟩
      · cases hd
    obtain ⟨h1, rfl⟩ := hd'
    exact go asciiDecoder (dec_ascii b [] h1) (road_ascii b.toArray) (decode_ascii b.toArray t t' t'')
theorem m_decode1 (I : Inv prog w F σ lo ah s) {b : List UInt8} {e : List Nat} {v u : Value} {k : KA} (r : VR σ s.heap (.bytes b) v) (r' : VR σ s.heap (.str e) u) (he : e = sIso) (hb : b.length ≤ 1000000)
    (q : k (.str (b.map (·.toNat))) ah) : Op prog w F σ lo s (call (.builtin "bytes.decode") [v, u]) k := by
  obtain ⟨t, rfl⟩ := vr_bytes_inv r; obtain ⟨t', rfl⟩ := vr_str_inv r'
  subst he
  have hsz : b.toArray.size ≤ 1000000 := by rw [List.size_toArray]; exact hb
  exact call_meets FB.slot_bytes_decode (typeIs_bytes _ _ _) FB.entry_bytes_decode (by unfold argsOk; kernel_rfl) (decode_iso b.toArray t t' ▸ meets_dec (road_iso b.toArray) (dec_iso b []) hsz (by rw [List.length_map]; exact hb) (by decide) (fun r e => by cases e)) (fun t' k ht => Op.val I vr_str q ht)
end Mine
end
section
open PySem PySem.Spec PySem.Calls PyProof.Rows PySem.W PySem.Builtin PySem.Builtin.Re
set_option maxRecDepth 100000
namespace Mine
variable {prog : Program} {w : World} {H : Heap} {s : Shared}
/-! ## regular expressions: the engine -/
def Ends (n : Nat) (m m' : Sre.M) : Prop := m.runFor n = m' ∧ m'.outcome.isSome = true
theorem runFor_done {m : Sre.M} (h : m.outcome.isSome = true) : ∀ n, m.runFor n = m
  | 0 => rfl
  | n + 1 => by unfold Sre.M.runFor; rw [if_pos h]
theorem runFor_add (a b : Nat) (m : Sre.M) : m.runFor (a + b) = (m.runFor a).runFor b := by
  induction a generalizing m with
  | zero => rw [Nat.zero_add]; rfl
  | succ a ih =>
    rw [Nat.succ_add]
    by_cases h : m.outcome.isSome = true
    · rw [runFor_done h, runFor_done h, runFor_done h]
    · show (if m.outcome.isSome then m else _) = (if m.outcome.isSome then m else _).runFor b
      rw [if_neg h, if_neg h, ih]
theorem Ends.step {n : Nat} {m m₁ m' : Sre.M} (h : m.outcome = none) (e : m.step = m₁) (x : Ends n m₁ m') : Ends (n + 1) m m' := by
  refine ⟨?_, x.2⟩
  unfold Sre.M.runFor
  rw [h, if_neg (by simp), e]
  exact x.1
theorem Ends.zero {m : Sre.M} (h : m.outcome.isSome = true) : Ends 0 m m := ⟨rfl, h⟩
theorem Ends.drive {n : Nat} {m m' : Sre.M} (x : Ends n m m') {A : Around} {E : Value → Shared → Prop} {Q : Sre.M → Shared → Prop} (h : Q m' s) : ∀ t, n ≤ 4 * t → 1 ≤ t → wpAny (model prog w) A (reDrive t m) Q E s
  | 0, _, h1 => absurd h1 (by decide)
  | t + 1, hn, _ => by
    show wpAny _ _ (if (m.runFor 4).outcome.isSome then pure (m.runFor 4) else do rule "sre.turn"; reDrive t (m.runFor 4)) Q E s
    by_cases h4 : n ≤ 4
    · have : m.runFor 4 = m' := by
        have : 4 = n + (4 - n) := by omega
        rw [this, runFor_add, x.1, runFor_done x.2]
      rw [this, if_pos x.2]
      exact wpAny_pure h
    · by_cases hs : (m.runFor 4).outcome.isSome = true
      · have : m.runFor 4 = m' := by
          have e : n = 4 + (n - 4) := by omega
          have := x.1
          rw [e, runFor_add, runFor_done hs] at this
          exact this
        rw [this, if_pos x.2]
        exact wpAny_pure h
      · rw [if_neg hs]
        refine wpAny_bind (wpAny_rule ?_)
        have x' : Ends (n - 4) (m.runFor 4) m' := ⟨by
          have e : n = 4 + (n - 4) := by omega
          have := x.1
          rw [e, runFor_add] at this
          exact this, x.2⟩
        exact Ends.drive x' h t (by omega) (by omega)
theorem Ends.toEnd {n : Nat} {m m' : Sre.M} (x : Ends n m m') (hn : n ≤ 2 ^ 60) {A : Around} {E : Value → Shared → Prop} {Q : Option Sre.M → Shared → Prop}
    (h : (m'.outcome = some .matched ∧ Q (some m') s) ∨ (m'.outcome = some .failed ∧ Q none s)) : wpAny (model prog w) A (reRunToEnd m) Q E s := by
  unfold reRunToEnd
  refine wpAny_bind (x.drive ?_ _ (by omega) (by decide))
  refine wpAny_bind (wpAny_forIn_list _ (fun _ _ s' => s' = s) _ ?_ ?_ _ _ rfl)
  · rintro i rest b s' rfl
    by_cases hi : m'.seen.has i = true
    · rw [if_pos hi]; exact wpAny_bind (wpAny_rule (wpAny_pure rfl))
    · rw [if_neg hi]; exact wpAny_pure rfl
  · rintro b s' rfl
    rcases h with ⟨e, q⟩ | ⟨e, q⟩
    · rw [e]; exact wpAny_pure q
    · rw [e]; exact wpAny_pure q

def keyC : Array Nat := #[14, 4, 0, 2, 4294967295, 17, 0, 24, 18, 1, 4294967295, 13, 13, 9, 0, 27898, 1073741824, 1342177281, 0, 0, 0, 0, 8, 4, 0, 1, 17, 1, 16, 61, 1]
/-- a set of signs: a table, then the word signs -/
theorem acc_set (tab : Array Nat) (f : Nat → Bool) (hf : ∀ c < 256, ((tab.getD (c / 32) 0).testBit (c % 32) || Sre.isWord c) = f c) (hb : ∀ c, f c = true → c < 256) (c : Nat) : ((decide (c < 256) && (tab.getD (c / 32) 0).testBit (c % 32)) || Sre.isWord c) = f c := by
  by_cases h : c < 256
  · rw [decide_eq_true h, Bool.true_and]; exact hf c h
  · have h1 : Sre.isWord c = false := by
      unfold Sre.isWord Sre.isDigit
      simp; omega
    have h2 : f c = false := by
      cases hc : f c with
      | false => rfl
      | true => exact absurd (hb c hc) h
    rw [h1, h2, decide_eq_false h]; rfl
def tabT : Array Nat := #[0, 27898, 1073741824, 1342177281, 0, 0, 0, 0]
def tabC : Array Nat := #[0, 27770, 1073741824, 1342177281, 0, 0, 0, 0]
theorem tok_lt (c : Nat) (h : tokC c = true) : c < 256 := by
  unfold tokC isW at h
  simp at h; omega
theorem chs_lt (c : Nat) (h : chsC c = true) : c < 256 := by
  unfold chsC isW at h
  simp at h; omega
theorem tok_set (c : Nat) : ((decide (c < 256) && (tabT.getD (c / 32) 0).testBit (c % 32)) || Sre.isWord c) = tokC c := acc_set tabT tokC (by decide +kernel) tok_lt c
theorem chs_set (c : Nat) : ((decide (c < 256) && (tabC.getD (c / 32) 0).testBit (c % 32)) || Sre.isWord c) = chsC c := acc_set tabC chsC (by decide +kernel) chs_lt c
/-- what a set of that shape accepts -/
theorem acc_of {code : Array Nat} {i c o : Nat} {seen : Sre.Seen} {tab : Array Nat} {f : Nat → Bool} (hset : ∀ c, ((decide (c < 256) && (tab.getD (c / 32) 0).testBit (c % 32)) || Sre.isWord c) = f c)
    (ht : ∀ j < 8, code.getD (o + (1 + j)) 0 = tab.getD j 0)
    (e : Sre.accepts code i c seen = if (decide (c < 256) && (code.getD (o + (1 + c / 32)) 0).testBit (c % 32)) = true then .ok (true, seen.add 9) else
      (if (Sre.isWord c != false) = true then .ok (true, ((seen.add 9).add 8).add 59) else .ok (false, (((seen.add 9).add 8).add 59).add 0))) : ∃ s', Sre.accepts code i c seen = .ok (f c, s') := by
  have hs := hset c
  have e2 : (decide (c < 256) && (code.getD (o + (1 + c / 32)) 0).testBit (c % 32)) = (decide (c < 256) && (tab.getD (c / 32) 0).testBit (c % 32)) := by
    by_cases h : c < 256
    · rw [ht _ (by omega)]
    · rw [decide_eq_false h, Bool.false_and, Bool.false_and]
  rw [e, e2]
  cases h1 : (decide (c < 256) && (tab.getD (c / 32) 0).testBit (c % 32)) with
  | true => rw [h1] at hs; rw [if_pos rfl, ← hs]; exact ⟨_, rfl⟩
  | false =>
    rw [h1] at hs
    rw [if_neg (by decide)]
    cases h2 : Sre.isWord c with
    | true => rw [h2] at hs; rw [if_pos (by decide), ← hs]; exact ⟨_, rfl⟩
    | false => rw [h2] at hs; rw [if_neg (by decide), ← hs]; exact ⟨_, rfl⟩
theorem acc_key (c : Nat) (seen : Sre.Seen) : ∃ s', Sre.accepts keyC 11 c seen = .ok (tokC c, s') := acc_of (o := 13) tok_set (by decide +kernel) (by kernel_rfl)
/-- a run of signs -/
theorem run_of {code : Array Nat} {i : Nat} {f : Nat → Bool} (ha : ∀ c seen, ∃ s', Sre.accepts code i c seen = .ok (f c, s')) (l : List Nat) : ∀ (n p found : Nat) (seen : Sre.Seen), p + n ≤ l.length →
    ∃ s', Sre.run code l.toArray i n p found seen = .ok (found + (((l.drop p).take n).takeWhile f).length, s')
  | 0, p, found, seen, _ => ⟨seen, by simp [Sre.run]⟩
  | n + 1, p, found, seen, h => by
    have hp : p < l.length := by omega
    have e : l.toArray.getD p 0 = l[p] := by simp [hp]
    obtain ⟨s₁, e₁⟩ := ha l[p] seen
    have hd : (l.drop p).take (n + 1) = l[p] :: (l.drop (p + 1)).take n := by rw [List.drop_eq_getElem_cons hp, List.take_succ_cons]
    unfold Sre.run
    rw [e, e₁, hd]
    cases hf : f l[p] with
    | true =>
      obtain ⟨s₂, e₂⟩ := run_of ha l n (p + 1) (found + 1) s₁ (by omega)
      refine ⟨s₂, ?_⟩
      show (if true = true then Sre.run code l.toArray i n (p + 1) (found + 1) s₁ else (pure (found, s₁) : Except String _)) = _
      rw [if_pos rfl, e₂, List.takeWhile_cons, if_pos hf, List.length_cons]
      congr 2; omega
    | false =>
      refine ⟨s₁, ?_⟩
      show (if false = true then Sre.run code l.toArray i n (p + 1) (found + 1) s₁ else (pure (found, s₁) : Except String _)) = _
      rw [if_neg (by decide), List.takeWhile_cons, if_neg (by simp [hf])]
      rfl
/-- the machine at work, outside all loops -/
abbrev mk (code : Array Nat) (l : List Nat) (start lastStart pc pos handed : Nat) (marks : Array (Option Nat)) (lm li : Int) (fs : List Sre.Frame) (wt : Nat) (ans : Option Bool) (seen : Sre.Seen) : Sre.M :=
  { code, text := l.toArray, lim := l.length, start, lastStart, pc, pos, handed, marks, lastmark := lm, lastindex := li, frames := fs, weight := wt, answer := ans, seen }
abbrev gb (pc pos : Nat) (count : Int) (lm li : Int) : Sre.Frame := { wait := .giveBack, pc, pos, outermost := true, count, kept := { lastmark := lm, lastindex := li, whole := false, marks := #[] } }
theorem key_start (l : List Nat) (p : Nat) : Sre.forMatch keyC l.toArray 1 p l.length false false =
    if (((2 : Nat) != 0 && decide (p ≤ l.length)) && decide (l.length - p < 2)) = true then mk keyC l p 0 5 p p #[none, none] (-1) (-1) [] 0 (some false) (({} : Sre.Seen).add 14) else mk keyC l p 0 5 p p #[none, none] (-1) (-1) [] 0 none (({} : Sre.Seen).add 14) := by
  kernel_rfl
theorem key_1 (l : List Nat) (p : Nat) (seen : Sre.Seen) : (mk keyC l p 0 5 p p #[none, none] (-1) (-1) [] 0 none seen).step = mk keyC l p 0 7 p p #[some p, none] 0 (-1) [] 0 none (seen.add 17) := by
  kernel_rfl
theorem key_2 (l : List Nat) (p q hd : Nat) (marks : Array (Option Nat)) (lm li : Int) (seen : Sre.Seen) : (mk keyC l p 0 7 q hd marks lm li [] 0 none seen).step =
    if ((1 : Nat) : Int) > (l.length : Int) - q then mk keyC l p 0 7 q hd marks lm li [] 0 (some false) (seen.add 24) else
    match Sre.run keyC l.toArray 11 (min 4294967295 ((l.length : Int) - q).toNat) q 0 ((seen.add 24).add 13) with
    | .error why => (mk keyC l p 0 7 q hd marks lm li [] 0 none (seen.add 24)).stick why
    | .ok (n, s') => if n < 1 then mk keyC l p 0 7 q hd marks lm li [] 0 (some false) s' else mk keyC l p 0 26 (q + n) (q + n) marks lm li [gb 7 (q + n) n lm li] 1 none s' := by
  kernel_rfl
theorem key_3 (l : List Nat) (p q hd : Nat) (x : Option Nat) (li : Int) (fs : List Sre.Frame) (wt : Nat) (seen : Sre.Seen) : (mk keyC l p 0 26 q hd #[some p, x] 0 li fs wt none seen).step = mk keyC l p 0 28 q hd #[some p, some q] 1 1 fs wt none (seen.add 17) := by
  kernel_rfl
theorem key_4 (l : List Nat) (p q hd : Nat) (marks : Array (Option Nat)) (lm li : Int) (fs : List Sre.Frame) (wt : Nat) (seen : Sre.Seen) : (mk keyC l p 0 28 q hd marks lm li fs wt none seen).step =
    if q ≥ l.length then mk keyC l p 0 28 q hd marks lm li fs wt (some false) (seen.add 16) else bif (l.toArray.getD q 0 == 61) then mk keyC l p 0 30 (q + 1) hd marks lm li fs wt none (seen.add 16) else mk keyC l p 0 28 q hd marks lm li fs wt (some false) (seen.add 16) := by
  kernel_rfl
theorem key_5 (l : List Nat) (p pc pos hd q : Nat) (c : Int) (marks : Array (Option Nat)) (lm li lm0 li0 : Int) (seen : Sre.Seen) : (mk keyC l p 0 pc pos hd marks lm li [gb 7 q c lm0 li0] 1 (some false) seen).step =
    if c - 1 < ((1 : Nat) : Int) then mk keyC l p 0 7 q hd marks lm0 li0 [] 0 (some false) seen else mk keyC l p 0 26 (q - 1) (q - 1) marks lm0 li0 [gb 7 (q - 1) (c - 1) lm0 li0] 1 none seen := by
  kernel_rfl
theorem key_6 (l : List Nat) (p pc pos hd q : Nat) (c : Int) (marks : Array (Option Nat)) (lm li lm0 li0 : Int) (seen : Sre.Seen) : (mk keyC l p 0 pc pos hd marks lm li [gb 7 q c lm0 li0] 1 (some true) seen).step = mk keyC l p 0 7 q hd marks lm li [] 0 (some true) seen := by
  kernel_rfl
theorem end_T (code : Array Nat) (l : List Nat) (p ls pc pos hd : Nat) (marks : Array (Option Nat)) (lm li : Int) (wt : Nat) (seen : Sre.Seen) : (mk code l p ls pc pos hd marks lm li [] wt (some true) seen).step = { mk code l p ls pc pos hd marks lm li [] wt (some true) seen with outcome := some .matched } := by
  kernel_rfl
theorem end_F (code : Array Nat) (l : List Nat) (p ls pc pos hd : Nat) (marks : Array (Option Nat)) (lm li : Int) (wt : Nat) (seen : Sre.Seen) : (mk code l p ls pc pos hd marks lm li [] wt (some false) seen).step = { mk code l p ls pc pos hd marks lm li [] wt (some false) seen with outcome := some .failed } := by
  kernel_rfl
theorem key_8 (l : List Nat) (p q hd : Nat) (marks : Array (Option Nat)) (lm li : Int) (fs : List Sre.Frame) (wt : Nat) (seen : Sre.Seen) : (mk keyC l p 0 30 q hd marks lm li fs wt none seen).step = mk keyC l p 0 30 q q marks lm li fs wt (some true) (seen.add 1) := by
  kernel_rfl
end Mine
end
section
open PySem PySem.Spec PySem.Calls PyProof.Rows PySem.W PySem.Builtin PySem.Builtin.Re
set_option maxRecDepth 100000
namespace Mine
variable {prog : Program} {w : World} {H : Heap} {s : Shared}
theorem getD_at (l : List Nat) (q : Nat) (h : q < l.length) : l.toArray.getD q 0 = l[q] := by simp [h]
theorem fail_end (code : Array Nat) (l : List Nat) (p ls pc pos hd : Nat) (marks : Array (Option Nat)) (lm li : Int) (wt : Nat) (seen : Sre.Seen) : ∃ m', Ends 1 (mk code l p ls pc pos hd marks lm li [] wt (some false) seen) m' ∧ m'.outcome = some .failed :=
  ⟨_, .step rfl (end_F ..) (.zero rfl), rfl⟩
theorem key_loop (l : List Nat) (p : Nat) : ∀ (c q hd : Nat) (x : Option Nat) (li : Int) (seen : Sre.Seen), 1 ≤ c → (∀ j, q + 1 ≤ j + c → j ≤ q → l[j]? ≠ some 61) →
    ∃ m', Ends (3 * c + 1) (mk keyC l p 0 26 q hd #[some p, x] 0 li [gb 7 q c 0 (-1)] 1 none seen) m' ∧ m'.outcome = some .failed
  | 0, _, _, _, _, _, h, _ => absurd h (by decide)
  | c + 1, q, hd, x, li, seen, _, hne => by
    have h4 : ∃ seen', (mk keyC l p 0 28 q hd #[some p, some q] 1 1 [gb 7 q (c + 1 : Nat) 0 (-1)] 1 none (seen.add 17)).step = mk keyC l p 0 28 q hd #[some p, some q] 1 1 [gb 7 q (c + 1 : Nat) 0 (-1)] 1 (some false) seen' := by
      refine ⟨(seen.add 17).add 16, ?_⟩
      rw [key_4]
      by_cases hq : q ≥ l.length
      · rw [if_pos hq]
      · rw [if_neg hq]
        have h1 := hne q (by omega) (Nat.le_refl _)
        rw [List.getElem?_eq_getElem (by omega)] at h1
        have e : (l.toArray.getD q 0 == 61) = false := by
          rw [getD_at l q (by omega), beq_eq_false_iff_ne]
          intro e; exact h1 (by rw [e])
        rw [e]; rfl
    obtain ⟨seen', h4⟩ := h4
    by_cases hc : c = 0
    · subst hc
      have h5 := key_5 l p 28 q hd q ((0 + 1 : Nat) : Int) #[some p, some q] 1 1 0 (-1) seen'
      rw [if_pos (by omega)] at h5
      obtain ⟨m', hm, ho⟩ := fail_end keyC l p 0 7 q hd #[some p, some q] 0 (-1) 0 seen'
      exact ⟨m', .step rfl (key_3 ..) (.step rfl h4 (.step rfl h5 hm)), ho⟩
    · have h5 := key_5 l p 28 q hd q ((c + 1 : Nat) : Int) #[some p, some q] 1 1 0 (-1) seen'
      rw [if_neg (by omega), show ((c + 1 : Nat) : Int) - 1 = (c : Nat) by omega] at h5
      obtain ⟨m', hm, ho⟩ := key_loop l p c (q - 1) (q - 1) (some q) (-1) seen' (by omega) (fun j h1 h2 => hne j (by omega) (by omega))
      exact ⟨m', .step rfl (key_3 ..) (.step rfl h4 (.step rfl h5 hm)), ho⟩
theorem tw_get {α : Type} (f : α → Bool) : ∀ (l : List α) (j : Nat), j < (l.takeWhile f).length → ∃ a, l[j]? = some a ∧ f a = true
  | [], j, h => by simp at h
  | a :: r, j, h => by
    rw [List.takeWhile_cons] at h
    by_cases ha : f a = true
    · rw [if_pos ha, List.length_cons] at h
      cases j with
      | zero => exact ⟨a, rfl, ha⟩
      | succ j => simpa using tw_get f r j (by omega)
    · rw [if_neg ha] at h; simp at h
theorem tw_len {α : Type} (f : α → Bool) (l : List α) : (l.takeWhile f).length ≤ l.length := by
  have := congrArg List.length (List.takeWhile_append_dropWhile (p := f) (l := l))
  rw [List.length_append] at this; omega
theorem key_run (l : List Nat) (p : Nat) (hp : p ≤ l.length) (hl : l.length ≤ 1000000) : ∃ n m', n ≤ 4 * l.length + 20 ∧ Ends n (Sre.forMatch keyC l.toArray 1 p l.length false false) m' ∧
    (if (l.drop p).takeWhile tokC ≠ [] ∧ ((l.drop p).drop ((l.drop p).takeWhile tokC).length).head? = some 61 then
      m'.outcome = some .matched ∧ m'.start = p ∧ m'.handed = p + ((l.drop p).takeWhile tokC).length + 1 ∧ m'.marks = #[some p, some (p + ((l.drop p).takeWhile tokC).length)] ∧ m'.lastmark = 1
    else m'.outcome = some .failed) := by
  have hlen := tw_len tokC (l.drop p)
  rw [List.length_drop] at hlen
  rw [key_start]
  by_cases h0 : (((2 : Nat) != 0 && decide (p ≤ l.length)) && decide (l.length - p < 2)) = true
  · rw [if_pos h0]
    have h1 : l.length - p < 2 := by simp at h0; exact h0.2
    obtain ⟨m', hm, ho⟩ := fail_end keyC l p 0 5 p p #[none, none] (-1) (-1) 0 (({} : Sre.Seen).add 14)
    refine ⟨1, m', by omega, hm, ?_⟩
    rw [if_neg]
    · exact ho
    · rintro ⟨h2, h3⟩
      have h4 : 1 ≤ ((l.drop p).takeWhile tokC).length := List.length_pos_iff.mpr h2
      have h5 : (l.drop p).length = l.length - p := List.length_drop ..
      rw [List.head?_drop] at h3
      have := (List.getElem?_eq_some_iff.mp h3).1
      omega
  · rw [if_neg h0]
    have h1 : 2 ≤ l.length - p := by simp [hp] at h0; exact h0
    have h2 := key_2 l p p p #[some p, none] 0 (-1) ((({} : Sre.Seen).add 14).add 17)
    rw [if_neg (by omega)] at h2
    have hr : min 4294967295 ((l.length : Int) - p).toNat = l.length - p := by omega
    rw [hr] at h2
    obtain ⟨s', hs⟩ := run_of acc_key l (l.length - p) p 0 ((((({} : Sre.Seen).add 14).add 17).add 24).add 13) (by omega)
    rw [hs] at h2
    have ht : (l.drop p).take (l.length - p) = l.drop p := List.take_of_length_le (by rw [List.length_drop]; exact Nat.le_refl _)
    rw [ht, Nat.zero_add] at h2
    dsimp only at h2
    by_cases hz : ((l.drop p).takeWhile tokC).length < 1
    · rw [if_pos hz] at h2
      obtain ⟨m', hm, ho⟩ := fail_end keyC l p 0 7 p p #[some p, none] 0 (-1) 0 s'
      refine ⟨3, m', by omega, .step rfl (key_1 ..) (.step rfl h2 hm), ?_⟩
      rw [if_neg]
      · exact ho
      · rintro ⟨h3, _⟩
        have := List.length_pos_iff.mpr h3; omega
    · rw [if_neg hz] at h2
      have hne : (l.drop p).takeWhile tokC ≠ [] := by intro e; rw [e] at hz; exact hz (by decide)
      generalize hn : ((l.drop p).takeWhile tokC).length = n at *
      have hin : ∀ j, p ≤ j → j < p + n → l[j]? ≠ some 61 := by
        intro j h3 h4 h5
        obtain ⟨a, h6, h7⟩ := tw_get tokC (l.drop p) (j - p) (by omega)
        rw [List.getElem?_drop, show p + (j - p) = j by omega, h5] at h6
        cases h6
        exact absurd h7 (by decide)
      have hd : ((l.drop p).drop n).head? = l[p + n]? := by rw [List.head?_drop, List.getElem?_drop]
      rw [hd]
      by_cases h61 : l[p + n]? = some 61
      · have hq := (List.getElem?_eq_some_iff.mp h61).1
        have h4 := key_4 l p (p + n) (p + n) #[some p, some (p + n)] 1 1 [gb 7 (p + n) n 0 (-1)] 1 (s'.add 17)
        rw [if_neg (by omega)] at h4
        have e : (l.toArray.getD (p + n) 0 == 61) = true := by
          rw [getD_at l (p + n) hq, (List.getElem?_eq_some_iff.mp h61).2]; rfl
        rw [e] at h4
        refine ⟨7, _, by omega, .step rfl (key_1 ..) (.step rfl h2 (.step rfl (key_3 ..) (.step rfl h4 (.step rfl (key_8 ..) (.step rfl (key_6 ..) (.step rfl (end_T ..) (.zero rfl))))))), ?_⟩
        rw [if_pos ⟨hne, h61⟩]
        exact ⟨rfl, rfl, rfl, rfl, rfl⟩
      · obtain ⟨m', hm, ho⟩ := key_loop l p n (p + n) (p + n) none (-1) s' (by omega) (fun j h3 h4 => by
          by_cases hj : j = p + n
          · rw [hj]; exact h61
          · exact hin j (by omega) (by omega))
        refine ⟨3 * n + 1 + 1 + 1, m', by omega, .step rfl (key_1 ..) (.step rfl h2 hm), ?_⟩
        rw [if_neg fun h => h61 h.2]; exact ho
end Mine
end
section
open PySem PySem.Spec PySem.Calls PyProof.Rows PySem.W PySem.Builtin PySem.Builtin.Re
set_option maxRecDepth 100000
namespace Mine
variable {prog : Program} {w : World} {H : Heap} {s : Shared}
/-! ### the token's value -/
def tokRC : Array Nat := #[14, 4, 0, 1, 4294967295, 24, 18, 1, 4294967295, 13, 13, 9, 0, 27898, 1073741824, 1342177281, 0, 0, 0, 0, 8, 4, 0, 1, 1]
theorem acc_tok (c : Nat) (seen : Sre.Seen) : ∃ s', Sre.accepts tokRC 9 c seen = .ok (tokC c, s') := acc_of (o := 11) tok_set (by decide +kernel) (by kernel_rfl)
theorem tok_start (l : List Nat) (p : Nat) : Sre.forMatch tokRC l.toArray 0 p l.length false false =
    if (((1 : Nat) != 0 && decide (p ≤ l.length)) && decide (l.length - p < 1)) = true then mk tokRC l p 0 5 p p #[] (-1) (-1) [] 0 (some false) (({} : Sre.Seen).add 14) else mk tokRC l p 0 5 p p #[] (-1) (-1) [] 0 none (({} : Sre.Seen).add 14) := by
  kernel_rfl
theorem tok_2 (l : List Nat) (p q hd : Nat) (marks : Array (Option Nat)) (lm li : Int) (seen : Sre.Seen) : (mk tokRC l p 0 5 q hd marks lm li [] 0 none seen).step =
    if ((1 : Nat) : Int) > (l.length : Int) - q then mk tokRC l p 0 5 q hd marks lm li [] 0 (some false) (seen.add 24) else
    match Sre.run tokRC l.toArray 9 (min 4294967295 ((l.length : Int) - q).toNat) q 0 ((seen.add 24).add 13) with
    | .error why => (mk tokRC l p 0 5 q hd marks lm li [] 0 none (seen.add 24)).stick why
    | .ok (n, s') => if n < 1 then mk tokRC l p 0 5 q hd marks lm li [] 0 (some false) s' else mk tokRC l p 0 24 (q + n) (q + n) marks lm li [gb 5 (q + n) n lm li] 1 none s' := by
  kernel_rfl
theorem tok_6 (l : List Nat) (p pc pos hd q : Nat) (c : Int) (marks : Array (Option Nat)) (lm li lm0 li0 : Int) (seen : Sre.Seen) : (mk tokRC l p 0 pc pos hd marks lm li [gb 5 q c lm0 li0] 1 (some true) seen).step = mk tokRC l p 0 5 q hd marks lm li [] 0 (some true) seen := by
  kernel_rfl
theorem tok_8 (l : List Nat) (p q hd : Nat) (marks : Array (Option Nat)) (lm li : Int) (fs : List Sre.Frame) (wt : Nat) (seen : Sre.Seen) : (mk tokRC l p 0 24 q hd marks lm li fs wt none seen).step = mk tokRC l p 0 24 q q marks lm li fs wt (some true) (seen.add 1) := by
  kernel_rfl
theorem tok_run (l : List Nat) (p : Nat) (hp : p ≤ l.length) (hl : l.length ≤ 1000000) : ∃ n m', n ≤ 4 * l.length + 20 ∧ Ends n (Sre.forMatch tokRC l.toArray 0 p l.length false false) m' ∧
    (if (l.drop p).takeWhile tokC ≠ [] then m'.outcome = some .matched ∧ m'.start = p ∧ m'.handed = p + ((l.drop p).takeWhile tokC).length else m'.outcome = some .failed) := by
  have hlen := tw_len tokC (l.drop p)
  rw [List.length_drop] at hlen
  rw [tok_start]
  by_cases h0 : (((1 : Nat) != 0 && decide (p ≤ l.length)) && decide (l.length - p < 1)) = true
  · rw [if_pos h0]
    have h1 : l.length - p < 1 := by simp at h0; omega
    obtain ⟨m', hm, ho⟩ := fail_end tokRC l p 0 5 p p #[] (-1) (-1) 0 (({} : Sre.Seen).add 14)
    refine ⟨1, m', by omega, hm, ?_⟩
    rw [if_neg]
    · exact ho
    · intro h2
      have h4 : 1 ≤ ((l.drop p).takeWhile tokC).length := List.length_pos_iff.mpr h2
      omega
  · rw [if_neg h0]
    have h1 : 1 ≤ l.length - p := by simp [hp] at h0; omega
    have h2 := tok_2 l p p p #[] (-1) (-1) (({} : Sre.Seen).add 14)
    rw [if_neg (by omega)] at h2
    have hr : min 4294967295 ((l.length : Int) - p).toNat = l.length - p := by omega
    rw [hr] at h2
    obtain ⟨s', hs⟩ := run_of acc_tok l (l.length - p) p 0 (((({} : Sre.Seen).add 14).add 24).add 13) (by omega)
    rw [hs] at h2
    have ht : (l.drop p).take (l.length - p) = l.drop p := List.take_of_length_le (by rw [List.length_drop]; exact Nat.le_refl _)
    rw [ht, Nat.zero_add] at h2
    dsimp only at h2
    by_cases hz : ((l.drop p).takeWhile tokC).length < 1
    · rw [if_pos hz] at h2
      obtain ⟨m', hm, ho⟩ := fail_end tokRC l p 0 5 p p #[] (-1) (-1) 0 s'
      refine ⟨2, m', by omega, .step rfl h2 hm, ?_⟩
      rw [if_neg]
      · exact ho
      · intro h3
        have := List.length_pos_iff.mpr h3; omega
    · rw [if_neg hz] at h2
      have hne : (l.drop p).takeWhile tokC ≠ [] := by intro e; rw [e] at hz; exact hz (by decide)
      refine ⟨4, _, by omega, .step rfl h2 (.step rfl (tok_8 ..) (.step rfl (tok_6 ..) (.step rfl (end_T ..) (.zero rfl)))), ?_⟩
      rw [if_pos hne]
      exact ⟨rfl, rfl, rfl⟩

/-! ### a search: the machine with the frame of its start -/
abbrev mo (code : Array Nat) (l : List Nat) (start pc pos handed : Nat) (marks : Array (Option Nat)) (lm li : Int) (o : Bool) (fs : List Sre.Frame) (wt : Nat) (ans : Option Bool) (seen : Sre.Seen) : Sre.M :=
  { code, text := l.toArray, lim := l.length, start, lastStart := l.length, pc, pos, handed, outermost := o, marks, lastmark := lm, lastindex := li, frames := fs, weight := wt, answer := ans, seen }
abbrev ns (pc pos : Nat) (o : Bool) : Sre.Frame := { wait := .nextStart, pc, pos, outermost := o }
abbrev gbo (pc pos : Nat) (count : Int) (lm li : Int) (o : Bool) : Sre.Frame := { wait := .giveBack, pc, pos, outermost := o, count, kept := { lastmark := lm, lastindex := li, whole := false, marks := #[] } }
/-! the semicolon and the blanks behind it -/
def delC : Array Nat := #[14, 8, 1, 1, 4294967295, 1, 1, 59, 0, 16, 59, 24, 11, 0, 4294967295, 13, 6, 16, 32, 16, 9, 0, 1, 1]
theorem acc_del (c : Nat) (seen : Sre.Seen) : ∃ s', Sre.accepts delC 15 c seen = .ok (spt c, s') := by
  have e : Sre.accepts delC 15 c seen = if (c == 32) = true then .ok (true, seen.add 16) else if (c == 9) = true then .ok (true, (seen.add 16).add 16) else .ok (false, ((seen.add 16).add 16).add 0) := by
    kernel_rfl
  rw [e]
  unfold spt
  cases (c == 32) <;> cases (c == 9) <;> exact ⟨_, rfl⟩
theorem del_start (l : List Nat) (p : Nat) : Sre.forSearch delC l.toArray 0 p l.length false =
    if (decide (p > l.length) || decide (l.length - p < 1)) = true then mk delC l p 0 9 p p #[] (-1) (-1) [] 0 (some false) (({} : Sre.Seen).add 14) else mo delC l p 9 p p #[] (-1) (-1) true [ns 9 p true] 1 none (({} : Sre.Seen).add 14) := by
  kernel_rfl
theorem del_1 (l : List Nat) (p q hd : Nat) (o : Bool) (fs : List Sre.Frame) (wt : Nat) (seen : Sre.Seen) : (mo delC l p 9 q hd #[] (-1) (-1) o fs wt none seen).step =
    if q ≥ l.length then mo delC l p 9 q hd #[] (-1) (-1) o fs wt (some false) (seen.add 16) else bif (l.toArray.getD q 0 == 59) then mo delC l p 11 (q + 1) hd #[] (-1) (-1) o fs wt none (seen.add 16) else mo delC l p 9 q hd #[] (-1) (-1) o fs wt (some false) (seen.add 16) := by
  kernel_rfl
theorem del_2 (l : List Nat) (p q hd : Nat) (o : Bool) (fs : List Sre.Frame) (wt : Nat) (hw : wt = 1) (seen : Sre.Seen) : (mo delC l p 11 q hd #[] (-1) (-1) o fs wt none seen).step =
    if ((0 : Nat) : Int) > (l.length : Int) - q then mo delC l p 11 q hd #[] (-1) (-1) o fs wt (some false) (seen.add 24) else
    match Sre.run delC l.toArray 15 (min 4294967295 ((l.length : Int) - q).toNat) q 0 ((seen.add 24).add 13) with
    | .error why => (mo delC l p 11 q hd #[] (-1) (-1) o fs wt none (seen.add 24)).stick why
    | .ok (n, s') => if n < 0 then mo delC l p 11 q hd #[] (-1) (-1) o fs wt (some false) s' else mo delC l p 23 (q + n) (q + n) #[] (-1) (-1) o (gbo 11 (q + n) n (-1) (-1) o :: fs) 2 none s' := by
  subst hw; kernel_rfl
theorem del_3 (l : List Nat) (p q hd : Nat) (o : Bool) (fs : List Sre.Frame) (wt : Nat) (seen : Sre.Seen) : (mo delC l p 23 q hd #[] (-1) (-1) o fs wt none seen).step = mo delC l p 23 q q #[] (-1) (-1) o fs wt (some true) (seen.add 1) := by
  cases o <;> kernel_rfl
theorem del_4 (l : List Nat) (p pc pos hd q r : Nat) (c : Int) (o o' o'' : Bool) (seen : Sre.Seen) : (mo delC l p pc pos hd #[] (-1) (-1) o [gbo 11 q c (-1) (-1) o', ns 9 r o''] 2 (some true) seen).step = mo delC l p 11 q hd #[] (-1) (-1) o' [ns 9 r o''] 1 (some true) seen := by
  kernel_rfl
theorem del_5 (l : List Nat) (p pc pos hd r : Nat) (o o'' : Bool) (seen : Sre.Seen) : (mo delC l p pc pos hd #[] (-1) (-1) o [ns 9 r o''] 1 (some true) seen).step = mo delC l p 9 r hd #[] (-1) (-1) o'' [] 0 (some true) seen := by
  kernel_rfl
theorem del_6 (l : List Nat) (p pc pos hd r : Nat) (o o'' : Bool) (seen : Sre.Seen) : (mo delC l p pc pos hd #[] (-1) (-1) o [ns 9 r o''] 1 (some false) seen).step = if r < l.length then mo delC l (r + 1) 9 (r + 1) (r + 1) #[] (-1) (-1) false [ns 9 (r + 1) false] 1 none seen else mo delC l p 9 r hd #[] (-1) (-1) o'' [] 0 (some false) seen := by
  kernel_rfl
theorem mo_T (code : Array Nat) (l : List Nat) (p pc pos hd : Nat) (marks : Array (Option Nat)) (lm li : Int) (o : Bool) (wt : Nat) (seen : Sre.Seen) : (mo code l p pc pos hd marks lm li o [] wt (some true) seen).step = { mo code l p pc pos hd marks lm li o [] wt (some true) seen with outcome := some .matched } := by
  kernel_rfl
theorem mo_F (code : Array Nat) (l : List Nat) (p pc pos hd : Nat) (marks : Array (Option Nat)) (lm li : Int) (o : Bool) (wt : Nat) (seen : Sre.Seen) : (mo code l p pc pos hd marks lm li o [] wt (some false) seen).step = { mo code l p pc pos hd marks lm li o [] wt (some false) seen with outcome := some .failed } := by
  kernel_rfl
theorem delimSp_ne (a : Nat) (d : T) (h : a ≠ 59) : delimSp (a :: d) = (delimSp d).map fun x => (x.1 + 1, x.2 + 1) := by
  unfold delimSp
  rw [List.takeWhile_cons_of_pos (by simp [h])]
  dsimp only
  rw [List.length_cons, List.length_cons]
  by_cases hn : (d.takeWhile (· != 59)).length < d.length
  · rw [if_pos (by omega), if_pos hn, Option.map_some, List.drop_succ_cons]
    congr 1
    simp only [Prod.mk.injEq, true_and]
    omega
  · rw [if_neg (by omega), if_neg hn]; rfl
theorem delimSp_eq (d : T) : delimSp (59 :: d) = some (0, 1 + (d.takeWhile spt).length) := by
  unfold delimSp
  rw [List.takeWhile_cons_of_neg (by simp)]
  simp
theorem del_loop (l : List Nat) (hl : l.length ≤ 1000000) : ∀ (k r hd : Nat) (o : Bool) (seen : Sre.Seen), r + k = l.length →
    ∃ n m', n ≤ 3 * k + 10 ∧ Ends n (mo delC l r 9 r hd #[] (-1) (-1) o [ns 9 r o] 1 none seen) m' ∧ m'.marks = #[] ∧ m'.lastmark = -1 ∧
      (match delimSp (l.drop r) with
      | some x => m'.outcome = some .matched ∧ m'.start = r + x.1 ∧ m'.handed = r + x.2
      | none => m'.outcome = some .failed)
  | 0, r, hd, o, seen, h => by
    have h1 := del_1 l r r hd o [ns 9 r o] 1 seen
    rw [if_pos (by omega)] at h1
    have h2 := del_6 l r 9 r hd r o o (seen.add 16)
    rw [if_neg (by omega)] at h2
    refine ⟨3, _, by omega, .step rfl h1 (.step rfl h2 (.step rfl (mo_F ..) (.zero rfl))), rfl, rfl, ?_⟩
    have : l.drop r = [] := by rw [List.drop_eq_nil_iff]; omega
    rw [this]
    rfl
  | k + 1, r, hd, o, seen, h => by
    have hr : r < l.length := by omega
    have h1 := del_1 l r r hd o [ns 9 r o] 1 seen
    rw [if_neg (by omega), getD_at l r hr] at h1
    rw [List.drop_eq_getElem_cons hr]
    by_cases h59 : l[r] = 59
    · have e : (l[r] == 59) = true := by rw [h59]; rfl
      rw [e] at h1
      have h2 := del_2 l r (r + 1) hd o [ns 9 r o] 1 rfl (seen.add 16)
      rw [if_neg (by omega)] at h2
      obtain ⟨s', hs⟩ := run_of acc_del l (min 4294967295 ((l.length : Int) - (r + 1 : Nat)).toNat) (r + 1) 0 (((seen.add 16).add 24).add 13) (by omega)
      rw [hs] at h2
      dsimp only at h2
      rw [if_neg (by omega), Nat.zero_add] at h2
      have hr2 : min 4294967295 ((l.length : Int) - (r + 1 : Nat)).toNat = l.length - (r + 1) := by omega
      have ht : (l.drop (r + 1)).take (l.length - (r + 1)) = l.drop (r + 1) := List.take_of_length_le (by rw [List.length_drop]; exact Nat.le_refl _)
      rw [hr2, ht] at h2
      refine ⟨6, _, by omega, .step rfl h1 (.step rfl h2 (.step rfl (del_3 ..) (.step rfl (del_4 ..) (.step rfl (del_5 ..) (.step rfl (mo_T ..) (.zero rfl)))))), rfl, rfl, ?_⟩
      rw [h59, delimSp_eq]
      exact ⟨rfl, rfl, by show r + 1 + _ = r + (1 + _); omega⟩
    · have e : (l[r] == 59) = false := by rw [beq_eq_false_iff_ne]; exact h59
      rw [e] at h1
      have h2 := del_6 l r 9 r hd r o o (seen.add 16)
      rw [if_pos hr] at h2
      obtain ⟨n, m', hn, hm, hk, hl', ho⟩ := del_loop l hl k (r + 1) (r + 1) false (seen.add 16) (by omega)
      refine ⟨n + 1 + 1, m', by omega, .step rfl h1 (.step rfl h2 hm), hk, hl', ?_⟩
      rw [delimSp_ne _ _ h59]
      cases hx : delimSp (l.drop (r + 1)) with
      | none => rw [hx] at ho; exact ho
      | some x =>
        rw [hx] at ho
        exact ⟨ho.1, by rw [ho.2.1]; show r + 1 + x.1 = r + (x.1 + 1); omega, by rw [ho.2.2]; show r + 1 + x.2 = r + (x.2 + 1); omega⟩
theorem del_run (l : List Nat) (p : Nat) (hp : p ≤ l.length) (hl : l.length ≤ 1000000) : ∃ n m', n ≤ 4 * l.length + 20 ∧ Ends n (Sre.forSearch delC l.toArray 0 p l.length false) m' ∧
    (match delimSp (l.drop p) with
      | some x => m'.outcome = some .matched ∧ m'.start = p + x.1 ∧ m'.handed = p + x.2
      | none => m'.outcome = some .failed) := by
  rw [del_start]
  by_cases h0 : (decide (p > l.length) || decide (l.length - p < 1)) = true
  · rw [if_pos h0]
    have h1 : l.length - p < 1 := by simp at h0; omega
    obtain ⟨m', hm, ho⟩ := fail_end delC l p 0 9 p p #[] (-1) (-1) 0 (({} : Sre.Seen).add 14)
    refine ⟨1, m', by omega, hm, ?_⟩
    have : l.drop p = [] := by rw [List.drop_eq_nil_iff]; omega
    rw [this]
    exact ho
  · rw [if_neg h0]
    obtain ⟨n, m', hn, hm, _, _, ho⟩ := del_loop l hl (l.length - p) p p true (({} : Sre.Seen).add 14) (by omega)
    exact ⟨n, m', by omega, hm, ho⟩
end Mine
end
section
open PySem PySem.Spec PySem.Calls PyProof.Rows PySem.W PySem.Builtin PySem.Builtin.Re
set_option maxRecDepth 100000
namespace Mine
variable {prog : Program} {w : World} {H : Heap} {s : Shared}
/-! ### a backslash and the sign behind it -/
def unsC : Array Nat := #[14, 8, 1, 2, 2, 1, 1, 92, 0, 16, 92, 17, 0, 2, 17, 1, 1]
theorem uns_start (l : List Nat) (p : Nat) : Sre.forSearch unsC l.toArray 1 p l.length false =
    if (decide (p > l.length) || decide (l.length - p < 2)) = true then mk unsC l p 0 9 p p #[none, none] (-1) (-1) [] 0 (some false) (({} : Sre.Seen).add 14) else mo unsC l p 9 p p #[none, none] (-1) (-1) true [ns 9 p true] 1 none (({} : Sre.Seen).add 14) := by
  kernel_rfl
theorem uns_1 (l : List Nat) (p q hd : Nat) (marks : Array (Option Nat)) (o : Bool) (fs : List Sre.Frame) (wt : Nat) (seen : Sre.Seen) : (mo unsC l p 9 q hd marks (-1) (-1) o fs wt none seen).step =
    if q ≥ l.length then mo unsC l p 9 q hd marks (-1) (-1) o fs wt (some false) (seen.add 16) else bif (l.toArray.getD q 0 == 92) then mo unsC l p 11 (q + 1) hd marks (-1) (-1) o fs wt none (seen.add 16) else mo unsC l p 9 q hd marks (-1) (-1) o fs wt (some false) (seen.add 16) := by
  kernel_rfl
theorem uns_2 (l : List Nat) (p q hd : Nat) (x y : Option Nat) (o : Bool) (fs : List Sre.Frame) (wt : Nat) (seen : Sre.Seen) : (mo unsC l p 11 q hd #[x, y] (-1) (-1) o fs wt none seen).step = mo unsC l p 13 q hd #[some q, y] 0 (-1) o fs wt none (seen.add 17) := by
  kernel_rfl
theorem uns_3 (l : List Nat) (p q hd : Nat) (marks : Array (Option Nat)) (o : Bool) (fs : List Sre.Frame) (wt : Nat) (seen : Sre.Seen) : (mo unsC l p 13 q hd marks 0 (-1) o fs wt none seen).step =
    if q ≥ l.length then mo unsC l p 13 q hd marks 0 (-1) o fs wt (some false) (seen.add 2) else bif (l.toArray.getD q 0 != 10) then mo unsC l p 14 (q + 1) hd marks 0 (-1) o fs wt none (seen.add 2) else mo unsC l p 13 q hd marks 0 (-1) o fs wt (some false) (seen.add 2) := by
  kernel_rfl
theorem uns_4 (l : List Nat) (p q hd : Nat) (x y : Option Nat) (o : Bool) (fs : List Sre.Frame) (wt : Nat) (seen : Sre.Seen) : (mo unsC l p 14 q hd #[x, y] 0 (-1) o fs wt none seen).step = mo unsC l p 16 q hd #[x, some q] 1 1 o fs wt none (seen.add 17) := by
  kernel_rfl
theorem uns_5 (l : List Nat) (p q hd : Nat) (marks : Array (Option Nat)) (lm li : Int) (o : Bool) (fs : List Sre.Frame) (wt : Nat) (seen : Sre.Seen) : (mo unsC l p 16 q hd marks lm li o fs wt none seen).step = mo unsC l p 16 q q marks lm li o fs wt (some true) (seen.add 1) := by
  cases o <;> kernel_rfl
theorem uns_6 (l : List Nat) (p pc pos hd r : Nat) (marks : Array (Option Nat)) (lm li : Int) (o o'' : Bool) (seen : Sre.Seen) : (mo unsC l p pc pos hd marks lm li o [ns 9 r o''] 1 (some true) seen).step = mo unsC l p 9 r hd marks lm li o'' [] 0 (some true) seen := by
  kernel_rfl
theorem uns_7 (l : List Nat) (p pc pos hd r : Nat) (marks : Array (Option Nat)) (lm li : Int) (o o'' : Bool) (seen : Sre.Seen) : (mo unsC l p pc pos hd marks lm li o [ns 9 r o''] 1 (some false) seen).step = if r < l.length then mo unsC l (r + 1) 9 (r + 1) (r + 1) marks (-1) (-1) false [ns 9 (r + 1) false] 1 none seen else mo unsC l p 9 r hd marks lm li o'' [] 0 (some false) seen := by
  kernel_rfl
/-- where the next backslash with a sign behind it stands -/
def uSp : T → Option Nat
  | [] => none
  | [_] => none
  | c :: d :: r => if c = 92 ∧ d ≠ 10 then some 0 else (uSp (d :: r)).map (· + 1)
theorem uSp_one (a : Nat) : uSp [a] = none := rfl
theorem uns_loop (l : List Nat) : ∀ (k r hd : Nat) (x y : Option Nat) (o : Bool) (seen : Sre.Seen), r + k = l.length →
    ∃ n m', n ≤ 5 * k + 10 ∧ Ends n (mo unsC l r 9 r hd #[x, y] (-1) (-1) o [ns 9 r o] 1 none seen) m' ∧
      (match uSp (l.drop r) with
      | some i => m'.outcome = some .matched ∧ m'.start = r + i ∧ m'.handed = r + i + 2 ∧ m'.marks = #[some (r + i + 1), some (r + i + 2)] ∧ m'.lastmark = 1
      | none => m'.outcome = some .failed)
  | 0, r, hd, x, y, o, seen, h => by
    have h1 := uns_1 l r r hd #[x, y] o [ns 9 r o] 1 seen
    rw [if_pos (by omega)] at h1
    have h2 := uns_7 l r 9 r hd r #[x, y] (-1) (-1) o o (seen.add 16)
    rw [if_neg (by omega)] at h2
    refine ⟨3, _, by omega, .step rfl h1 (.step rfl h2 (.step rfl (mo_F ..) (.zero rfl))), ?_⟩
    have : l.drop r = [] := by rw [List.drop_eq_nil_iff]; omega
    rw [this]
    rfl
  | k + 1, r, hd, x, y, o, seen, h => by
    have hr : r < l.length := by omega
    have h1 := uns_1 l r r hd #[x, y] o [ns 9 r o] 1 seen
    rw [if_neg (by omega), getD_at l r hr] at h1
    have go : ∀ (pc pos hd : Nat) (x y : Option Nat) (lm li : Int) (seen : Sre.Seen), uSp (l.drop r) = (uSp (l.drop (r + 1))).map (· + 1) → ∃ n m', n ≤ 5 * k + 11 ∧ Ends n (mo unsC l r pc pos hd #[x, y] lm li o [ns 9 r o] 1 (some false) seen) m' ∧
        (match uSp (l.drop r) with
        | some i => m'.outcome = some .matched ∧ m'.start = r + i ∧ m'.handed = r + i + 2 ∧ m'.marks = #[some (r + i + 1), some (r + i + 2)] ∧ m'.lastmark = 1
        | none => m'.outcome = some .failed) := by
      intro pc pos hd x y lm li seen hu
      have h2 := uns_7 l r pc pos hd r #[x, y] lm li o o seen
      rw [if_pos hr] at h2
      obtain ⟨n, m', hn, hm, ho⟩ := uns_loop l k (r + 1) (r + 1) x y false seen (by omega)
      refine ⟨n + 1, m', by omega, .step rfl h2 hm, ?_⟩
      rw [hu]
      cases hx : uSp (l.drop (r + 1)) with
      | none => rw [hx] at ho; exact ho
      | some i =>
        rw [hx] at ho
        obtain ⟨o1, o2, o3, o4, o5⟩ := ho
        refine ⟨o1, ?_, ?_, ?_, o5⟩
        · rw [o2]; show r + 1 + i = r + (i + 1); omega
        · rw [o3]; show r + 1 + i + 2 = r + (i + 1) + 2; omega
        · rw [o4]; show #[some (r + 1 + i + 1), some (r + 1 + i + 2)] = #[some (r + (i + 1) + 1), some (r + (i + 1) + 2)]
          rw [show r + 1 + i = r + (i + 1) by omega]
    by_cases h92 : l[r] = 92
    · have e : (l[r] == 92) = true := by rw [h92]; rfl
      rw [e] at h1
      have h2 := uns_2 l r (r + 1) hd x y o [ns 9 r o] 1 (seen.add 16)
      have h3 := uns_3 l r (r + 1) hd #[some (r + 1), y] o [ns 9 r o] 1 ((seen.add 16).add 17)
      by_cases hq : r + 1 < l.length
      · rw [if_neg (by omega), getD_at l (r + 1) hq] at h3
        have hd2 : l.drop r = l[r] :: l[r + 1] :: l.drop (r + 2) := by rw [List.drop_eq_getElem_cons hr, List.drop_eq_getElem_cons hq]
        by_cases h10 : l[r + 1] = 10
        · have e2 : (l[r + 1] != 10) = false := by rw [h10]; rfl
          rw [e2] at h3
          obtain ⟨n, m', hn, hm, ho⟩ := go 13 (r + 1) hd (some (r + 1)) y 0 (-1) (((seen.add 16).add 17).add 2) (by
            rw [hd2, uSp, if_neg (by rintro ⟨_, h⟩; exact h h10), List.drop_eq_getElem_cons hq])
          exact ⟨n + 1 + 1 + 1, m', by omega, .step rfl h1 (.step rfl h2 (.step rfl h3 hm)), ho⟩
        · have e2 : (l[r + 1] != 10) = true := by rw [bne_iff_ne]; exact h10
          rw [e2] at h3
          refine ⟨7, _, by omega, .step rfl h1 (.step rfl h2 (.step rfl h3 (.step rfl (uns_4 ..) (.step rfl (uns_5 ..) (.step rfl (uns_6 ..) (.step rfl (mo_T ..) (.zero rfl))))))), ?_⟩
          rw [hd2, uSp, if_pos ⟨h92, h10⟩]
          exact ⟨rfl, rfl, rfl, rfl, rfl⟩
      · rw [if_pos (by omega)] at h3
        have hd2 : l.drop r = [l[r]] := by rw [List.drop_eq_getElem_cons hr, List.drop_eq_nil_iff.mpr (by omega)]
        obtain ⟨n, m', hn, hm, ho⟩ := go 13 (r + 1) hd (some (r + 1)) y 0 (-1) (((seen.add 16).add 17).add 2) (by
          rw [hd2, List.drop_eq_nil_iff.mpr (by omega)]; rfl)
        exact ⟨n + 1 + 1 + 1, m', by omega, .step rfl h1 (.step rfl h2 (.step rfl h3 hm)), ho⟩
    · have e : (l[r] == 92) = false := by rw [beq_eq_false_iff_ne]; exact h92
      rw [e] at h1
      obtain ⟨n, m', hn, hm, ho⟩ := go 9 r hd x y (-1) (-1) (seen.add 16) (by
        rw [List.drop_eq_getElem_cons hr]
        by_cases hq : r + 1 < l.length
        · rw [List.drop_eq_getElem_cons hq, uSp, if_neg (by rintro ⟨h, _⟩; exact h92 h)]
        · rw [List.drop_eq_nil_iff.mpr (by omega)]; rfl)
      exact ⟨n + 1, m', by omega, .step rfl h1 hm, ho⟩
theorem uns_run (l : List Nat) (p : Nat) (hp : p ≤ l.length) : ∃ n m', n ≤ 5 * l.length + 20 ∧ Ends n (Sre.forSearch unsC l.toArray 1 p l.length false) m' ∧
    (match uSp (l.drop p) with
      | some i => m'.outcome = some .matched ∧ m'.start = p + i ∧ m'.handed = p + i + 2 ∧ m'.marks = #[some (p + i + 1), some (p + i + 2)] ∧ m'.lastmark = 1
      | none => m'.outcome = some .failed) := by
  rw [uns_start]
  by_cases h0 : (decide (p > l.length) || decide (l.length - p < 2)) = true
  · rw [if_pos h0]
    have h1 : l.length - p < 2 := by simp at h0; omega
    obtain ⟨m', hm, ho⟩ := fail_end unsC l p 0 9 p p #[none, none] (-1) (-1) 0 (({} : Sre.Seen).add 14)
    refine ⟨1, m', by omega, hm, ?_⟩
    have hlen : (l.drop p).length < 2 := by rw [List.length_drop]; exact h1
    match hd : l.drop p, hlen with
    | [], _ => exact ho
    | [a], _ => exact ho
  · rw [if_neg h0]
    obtain ⟨n, m', hn, hm, ho⟩ := uns_loop l (l.length - p) p p none none true (({} : Sre.Seen).add 14) (by omega)
    exact ⟨n, m', by omega, hm, ho⟩
end Mine
end
section
open PySem PySem.Spec PySem.Calls PyProof.Rows PySem.W PySem.Builtin PySem.Builtin.Re
set_option maxRecDepth 100000
namespace Mine
variable {prog : Program} {w : World} {H : Heap} {s : Shared}
/-! ### charset'tongue'text -/
def chsRC : Array Nat := #[14, 4, 0, 3, 4294967295, 17, 0, 24, 18, 0, 4294967295, 13, 13, 9, 0, 27770, 1073741824, 1342177281, 0, 0, 0, 0, 8, 4, 0, 1, 17, 1, 16, 39, 24, 18, 0, 4294967295, 13, 13, 9, 0, 27770, 1073741824, 1342177281, 0, 0, 0, 0, 8, 4, 0, 1, 16, 39, 17, 2, 24, 18, 1, 4294967295, 13, 13, 9, 0, 27898, 1073741824, 1342177281, 0, 0, 0, 0, 8, 4, 0, 1, 17, 3, 6, 5, 1]
theorem acc_c1 (c : Nat) (seen : Sre.Seen) : ∃ s', Sre.accepts chsRC 11 c seen = .ok (chsC c, s') := acc_of (o := 13) chs_set (by decide +kernel) (by kernel_rfl)
theorem acc_c2 (c : Nat) (seen : Sre.Seen) : ∃ s', Sre.accepts chsRC 34 c seen = .ok (chsC c, s') := acc_of (o := 36) chs_set (by decide +kernel) (by kernel_rfl)
theorem acc_c3 (c : Nat) (seen : Sre.Seen) : ∃ s', Sre.accepts chsRC 57 c seen = .ok (tokC c, s') := acc_of (o := 59) tok_set (by decide +kernel) (by kernel_rfl)
theorem chs_start (l : List Nat) (p : Nat) : Sre.forMatch chsRC l.toArray 2 p l.length false false =
    if (((3 : Nat) != 0 && decide (p ≤ l.length)) && decide (l.length - p < 3)) = true then mk chsRC l p 0 5 p p #[none, none, none, none] (-1) (-1) [] 0 (some false) (({} : Sre.Seen).add 14) else mk chsRC l p 0 5 p p #[none, none, none, none] (-1) (-1) [] 0 none (({} : Sre.Seen).add 14) := by
  kernel_rfl
theorem chs_1 (l : List Nat) (p : Nat) (seen : Sre.Seen) : (mk chsRC l p 0 5 p p #[none, none, none, none] (-1) (-1) [] 0 none seen).step = mk chsRC l p 0 7 p p #[some p, none, none, none] 0 (-1) [] 0 none (seen.add 17) := by
  kernel_rfl
theorem chs_2 (l : List Nat) (p q hd : Nat) (marks : Array (Option Nat)) (lm li : Int) (seen : Sre.Seen) : (mk chsRC l p 0 7 q hd marks lm li [] 0 none seen).step =
    if ((0 : Nat) : Int) > (l.length : Int) - q then mk chsRC l p 0 7 q hd marks lm li [] 0 (some false) (seen.add 24) else
    match Sre.run chsRC l.toArray 11 (min 4294967295 ((l.length : Int) - q).toNat) q 0 ((seen.add 24).add 13) with
    | .error why => (mk chsRC l p 0 7 q hd marks lm li [] 0 none (seen.add 24)).stick why
    | .ok (n, s') => if n < 0 then mk chsRC l p 0 7 q hd marks lm li [] 0 (some false) s' else mk chsRC l p 0 26 (q + n) (q + n) marks lm li [gb 7 (q + n) n lm li] 1 none s' := by
  kernel_rfl
theorem chs_3 (l : List Nat) (p q hd : Nat) (x : Option Nat) (li : Int) (fs : List Sre.Frame) (wt : Nat) (seen : Sre.Seen) : (mk chsRC l p 0 26 q hd #[some p, x, none, none] 0 li fs wt none seen).step = mk chsRC l p 0 28 q hd #[some p, some q, none, none] 1 1 fs wt none (seen.add 17) := by
  kernel_rfl
theorem chs_4 (l : List Nat) (p q hd : Nat) (marks : Array (Option Nat)) (lm li : Int) (fs : List Sre.Frame) (wt : Nat) (seen : Sre.Seen) : (mk chsRC l p 0 28 q hd marks lm li fs wt none seen).step =
    if q ≥ l.length then mk chsRC l p 0 28 q hd marks lm li fs wt (some false) (seen.add 16) else bif (l.toArray.getD q 0 == 39) then mk chsRC l p 0 30 (q + 1) hd marks lm li fs wt none (seen.add 16) else mk chsRC l p 0 28 q hd marks lm li fs wt (some false) (seen.add 16) := by
  kernel_rfl
theorem chs_5 (l : List Nat) (p pc pos hd q : Nat) (c : Int) (marks : Array (Option Nat)) (lm li lm0 li0 : Int) (seen : Sre.Seen) : (mk chsRC l p 0 pc pos hd marks lm li [gb 7 q c lm0 li0] 1 (some false) seen).step =
    if c - 1 < ((0 : Nat) : Int) then mk chsRC l p 0 7 q hd marks lm0 li0 [] 0 (some false) seen else mk chsRC l p 0 26 (q - 1) (q - 1) marks lm0 li0 [gb 7 (q - 1) (c - 1) lm0 li0] 1 none seen := by
  kernel_rfl
theorem chs_6 (l : List Nat) (p q hd : Nat) (marks : Array (Option Nat)) (lm li : Int) (f : Sre.Frame) (seen : Sre.Seen) : (mk chsRC l p 0 30 q hd marks lm li [f] 1 none seen).step =
    if ((0 : Nat) : Int) > (l.length : Int) - q then mk chsRC l p 0 30 q hd marks lm li [f] 1 (some false) (seen.add 24) else
    match Sre.run chsRC l.toArray 34 (min 4294967295 ((l.length : Int) - q).toNat) q 0 ((seen.add 24).add 13) with
    | .error why => (mk chsRC l p 0 30 q hd marks lm li [f] 1 none (seen.add 24)).stick why
    | .ok (n, s') => if n < 0 then mk chsRC l p 0 30 q hd marks lm li [f] 1 (some false) s' else mk chsRC l p 0 49 (q + n) (q + n) marks lm li [gb 30 (q + n) n lm li, f] 2 none s' := by
  kernel_rfl
theorem chs_7 (l : List Nat) (p q hd : Nat) (marks : Array (Option Nat)) (lm li : Int) (fs : List Sre.Frame) (wt : Nat) (seen : Sre.Seen) : (mk chsRC l p 0 49 q hd marks lm li fs wt none seen).step =
    if q ≥ l.length then mk chsRC l p 0 49 q hd marks lm li fs wt (some false) (seen.add 16) else bif (l.toArray.getD q 0 == 39) then mk chsRC l p 0 51 (q + 1) hd marks lm li fs wt none (seen.add 16) else mk chsRC l p 0 49 q hd marks lm li fs wt (some false) (seen.add 16) := by
  kernel_rfl
theorem chs_8 (l : List Nat) (p q hd : Nat) (x y : Option Nat) (fs : List Sre.Frame) (wt : Nat) (seen : Sre.Seen) : (mk chsRC l p 0 51 q hd #[x, y, none, none] 1 1 fs wt none seen).step = mk chsRC l p 0 53 q hd #[x, y, some q, none] 2 1 fs wt none (seen.add 17) := by
  kernel_rfl
theorem chs_9 (l : List Nat) (p q hd : Nat) (marks : Array (Option Nat)) (lm li : Int) (f g : Sre.Frame) (seen : Sre.Seen) : (mk chsRC l p 0 53 q hd marks lm li [f, g] 2 none seen).step =
    if ((1 : Nat) : Int) > (l.length : Int) - q then mk chsRC l p 0 53 q hd marks lm li [f, g] 2 (some false) (seen.add 24) else
    match Sre.run chsRC l.toArray 57 (min 4294967295 ((l.length : Int) - q).toNat) q 0 ((seen.add 24).add 13) with
    | .error why => (mk chsRC l p 0 53 q hd marks lm li [f, g] 2 none (seen.add 24)).stick why
    | .ok (n, s') => if n < 1 then mk chsRC l p 0 53 q hd marks lm li [f, g] 2 (some false) s' else mk chsRC l p 0 72 (q + n) (q + n) marks lm li [gb 53 (q + n) n lm li, f, g] 3 none s' := by
  kernel_rfl
theorem chs_10 (l : List Nat) (p q hd : Nat) (x y z : Option Nat) (fs : List Sre.Frame) (wt : Nat) (seen : Sre.Seen) : (mk chsRC l p 0 72 q hd #[x, y, z, none] 2 1 fs wt none seen).step = mk chsRC l p 0 74 q hd #[x, y, z, some q] 3 2 fs wt none (seen.add 17) := by
  kernel_rfl
theorem chs_11 (l : List Nat) (p q hd : Nat) (marks : Array (Option Nat)) (lm li : Int) (fs : List Sre.Frame) (wt : Nat) (seen : Sre.Seen) : (mk chsRC l p 0 74 q hd marks lm li fs wt none seen).step =
    if (q == l.length || (q + 1 == l.length && l.toArray.getD q 0 == 10)) = true then mk chsRC l p 0 76 q hd marks lm li fs wt none ((seen.add 6).add 48) else mk chsRC l p 0 74 q hd marks lm li fs wt (some false) ((seen.add 6).add 48) := by
  kernel_rfl
theorem chs_12 (l : List Nat) (p q hd : Nat) (marks : Array (Option Nat)) (lm li : Int) (fs : List Sre.Frame) (wt : Nat) (seen : Sre.Seen) : (mk chsRC l p 0 76 q hd marks lm li fs wt none seen).step = mk chsRC l p 0 76 q q marks lm li fs wt (some true) (seen.add 1) := by
  kernel_rfl
theorem chs_13 (l : List Nat) (p pc pos hd pc' q : Nat) (c : Int) (marks : Array (Option Nat)) (lm li lm0 li0 : Int) (fs : List Sre.Frame) (wt : Nat) (seen : Sre.Seen) : (mk chsRC l p 0 pc pos hd marks lm li (gb pc' q c lm0 li0 :: fs) (wt + 1) (some true) seen).step = mk chsRC l p 0 pc' q hd marks lm li fs wt (some true) seen := by
  kernel_rfl
theorem chs_loop (l : List Nat) (hne : ∀ j : Nat, l[j]? ≠ some 39) : ∀ (c q hd : Nat) (x : Option Nat) (li : Int) (seen : Sre.Seen),
    ∃ m', Ends (3 * c + 4) (mk chsRC l 0 0 26 q hd #[some 0, x, none, none] 0 li [gb 7 q c 0 (-1)] 1 none seen) m' ∧ m'.outcome = some .failed := by
  have h4 : ∀ (q hd c : Nat) (seen : Sre.Seen), ∃ seen', (mk chsRC l 0 0 28 q hd #[some 0, some q, none, none] 1 1 [gb 7 q c 0 (-1)] 1 none seen).step = mk chsRC l 0 0 28 q hd #[some 0, some q, none, none] 1 1 [gb 7 q c 0 (-1)] 1 (some false) seen' := by
    intro q hd c seen
    refine ⟨seen.add 16, ?_⟩
    rw [chs_4]
    by_cases hq : q ≥ l.length
    · rw [if_pos hq]
    · rw [if_neg hq]
      have h1 := hne q
      rw [List.getElem?_eq_getElem (by omega)] at h1
      have e : (l.toArray.getD q 0 == 39) = false := by
        rw [getD_at l q (by omega), beq_eq_false_iff_ne]
        intro e; exact h1 (by rw [e])
      rw [e]; rfl
  intro c
  induction c with
  | zero =>
    intro q hd x li seen
    obtain ⟨seen', h4⟩ := h4 q hd 0 (seen.add 17)
    have h5 := chs_5 l 0 28 q hd q ((0 : Nat) : Int) #[some 0, some q, none, none] 1 1 0 (-1) seen'
    rw [if_pos (by omega)] at h5
    obtain ⟨m', hm, ho⟩ := fail_end chsRC l 0 0 7 q hd #[some 0, some q, none, none] 0 (-1) 0 seen'
    exact ⟨m', .step rfl (chs_3 ..) (.step rfl h4 (.step rfl h5 hm)), ho⟩
  | succ c ih =>
    intro q hd x li seen
    obtain ⟨seen', h4⟩ := h4 q hd (c + 1) (seen.add 17)
    have h5 := chs_5 l 0 28 q hd q ((c + 1 : Nat) : Int) #[some 0, some q, none, none] 1 1 0 (-1) seen'
    rw [if_neg (by omega), show ((c + 1 : Nat) : Int) - 1 = (c : Nat) by omega] at h5
    obtain ⟨m', hm, ho⟩ := ih (q - 1) (q - 1) (some q) (-1) seen'
    exact ⟨m', .step rfl (chs_3 ..) (.step rfl h4 (.step rfl h5 hm)), ho⟩
theorem tw_app {α : Type} (f : α → Bool) (a : List α) (b : α) (r : List α) (ha : ∀ x ∈ a, f x = true) (hb : f b = false) : (a ++ b :: r).takeWhile f = a := by
  induction a with
  | nil => rw [List.nil_append, List.takeWhile_cons_of_neg (by simp [hb])]
  | cons x a ih => rw [List.cons_append, List.takeWhile_cons_of_pos (ha x (List.mem_cons_self ..)), ih fun y hy => ha y (List.mem_cons_of_mem _ hy)]
theorem tw_all {α : Type} (f : α → Bool) (a : List α) (ha : ∀ x ∈ a, f x = true) : a.takeWhile f = a := by
  induction a with
  | nil => rfl
  | cons x a ih => rw [List.takeWhile_cons_of_pos (ha x (List.mem_cons_self ..)), ih fun y hy => ha y (List.mem_cons_of_mem _ hy)]
theorem drop_at {α : Type} (a r : List α) (n : Nat) (h : n = a.length) : (a ++ r).drop n = r := by rw [h]; exact List.drop_left ..
/-- nothing but signs of a charset: no match -/
theorem chs_none (l : List Nat) (h : ∀ c ∈ l, chsC c = true) (hl : l.length ≤ 1000000) : ∃ n m', n ≤ 4 * l.length + 20 ∧ Ends n (Sre.forMatch chsRC l.toArray 2 0 l.length false false) m' ∧ m'.outcome = some .failed := by
  rw [chs_start]
  by_cases h0 : (((3 : Nat) != 0 && decide (0 ≤ l.length)) && decide (l.length - 0 < 3)) = true
  · rw [if_pos h0]
    obtain ⟨m', hm, ho⟩ := fail_end chsRC l 0 0 5 0 0 #[none, none, none, none] (-1) (-1) 0 (({} : Sre.Seen).add 14)
    exact ⟨1, m', by omega, hm, ho⟩
  · rw [if_neg h0]
    have h2 := chs_2 l 0 0 0 #[some 0, none, none, none] 0 (-1) ((({} : Sre.Seen).add 14).add 17)
    rw [if_neg (by omega)] at h2
    have hr : min 4294967295 ((l.length : Int) - (0 : Nat)).toNat = l.length := by omega
    rw [hr] at h2
    obtain ⟨s', hs⟩ := run_of acc_c1 l l.length 0 0 ((((({} : Sre.Seen).add 14).add 17).add 24).add 13) (by omega)
    rw [hs] at h2
    dsimp only at h2
    rw [if_neg (by omega), List.drop_zero, List.take_length, tw_all chsC l h] at h2
    simp only [Nat.zero_add] at h2
    have hne : ∀ j : Nat, l[j]? ≠ some 39 := fun j e => absurd (h 39 (List.mem_of_getElem? e)) (by decide)
    obtain ⟨m', hm, ho⟩ := chs_loop l hne l.length l.length l.length none (-1) s'
    exact ⟨3 * l.length + 4 + 1 + 1, m', by omega, .step rfl (chs_1 ..) (.step rfl h2 hm), ho⟩
theorem chs_some (cs tg v : List Nat) (h1 : ∀ c ∈ cs, chsC c = true) (h2 : ∀ c ∈ tg, chsC c = true) (h3 : v ≠ []) (h4 : ∀ c ∈ v, tokC c = true) (l : List Nat) (e : l = cs ++ 39 :: (tg ++ 39 :: v)) (hl : l.length ≤ 1000000) :
    ∃ n m', n ≤ 30 ∧ Ends n (Sre.forMatch chsRC l.toArray 2 0 l.length false false) m' ∧ m'.outcome = some .matched ∧ m'.start = 0 ∧ m'.handed = l.length ∧
      m'.marks = #[some 0, some cs.length, some (cs.length + 1 + tg.length + 1), some l.length] ∧ m'.lastmark = 3 := by
  have hv : 1 ≤ v.length := List.length_pos_iff.mpr h3
  have hlen : l.length = cs.length + 1 + tg.length + 1 + v.length := by rw [e]; simp; omega
  rw [chs_start, if_neg (by simp; omega)]
  have hn39 : chsC 39 = false := by decide
  have r1 := chs_2 l 0 0 0 #[some 0, none, none, none] 0 (-1) ((({} : Sre.Seen).add 14).add 17)
  rw [if_neg (by omega)] at r1
  have hr : min 4294967295 ((l.length : Int) - (0 : Nat)).toNat = l.length := by omega
  rw [hr] at r1
  obtain ⟨s1, hs⟩ := run_of acc_c1 l l.length 0 0 ((((({} : Sre.Seen).add 14).add 17).add 24).add 13) (by omega)
  rw [hs] at r1
  dsimp only at r1
  have w1 : ((l.drop 0).take l.length).takeWhile chsC = cs := by rw [List.drop_zero, List.take_length, e]; exact tw_app chsC cs 39 _ h1 hn39
  rw [if_neg (by omega), w1] at r1
  simp only [Nat.zero_add] at r1
  have g1 : l[cs.length]? = some 39 := by rw [e, List.getElem?_append_right (Nat.le_refl _), Nat.sub_self]; rfl
  have g1' := (List.getElem?_eq_some_iff.mp g1)
  have r2 := chs_4 l 0 cs.length cs.length #[some 0, some cs.length, none, none] 1 1 [gb 7 cs.length cs.length 0 (-1)] 1 (s1.add 17)
  rw [if_neg (by omega), getD_at l cs.length g1'.1, g1'.2] at r2
  have r3 := chs_6 l 0 (cs.length + 1) cs.length #[some 0, some cs.length, none, none] 1 1 (gb 7 cs.length cs.length 0 (-1)) ((s1.add 17).add 16)
  rw [if_neg (by omega)] at r3
  have hr : min 4294967295 ((l.length : Int) - (cs.length + 1 : Nat)).toNat = l.length - (cs.length + 1) := by omega
  rw [hr] at r3
  obtain ⟨s2, hs⟩ := run_of acc_c2 l (l.length - (cs.length + 1)) (cs.length + 1) 0 ((((s1.add 17).add 16).add 24).add 13) (by omega)
  rw [hs] at r3
  dsimp only at r3
  have d2 : l.drop (cs.length + 1) = tg ++ 39 :: v := by
    rw [e, show cs ++ 39 :: (tg ++ 39 :: v) = (cs ++ [39]) ++ (tg ++ 39 :: v) by simp]
    exact drop_at _ _ _ (by simp)
  have w2 : ((l.drop (cs.length + 1)).take (l.length - (cs.length + 1))).takeWhile chsC = tg := by
    rw [List.take_of_length_le (by rw [List.length_drop]; exact Nat.le_refl _), d2]; exact tw_app chsC tg 39 _ h2 hn39
  rw [if_neg (by omega), w2, Nat.zero_add] at r3
  have g2 : l[cs.length + 1 + tg.length]? = some 39 := by
    have := List.getElem?_drop (xs := l) (i := cs.length + 1) (j := tg.length)
    rw [← this, d2, List.getElem?_append_right (Nat.le_refl _), Nat.sub_self]; rfl
  have g2' := (List.getElem?_eq_some_iff.mp g2)
  have r4 := chs_7 l 0 (cs.length + 1 + tg.length) (cs.length + 1 + tg.length) #[some 0, some cs.length, none, none] 1 1 [gb 30 (cs.length + 1 + tg.length) tg.length 1 1, gb 7 cs.length cs.length 0 (-1)] 2 s2
  rw [if_neg (by omega), getD_at l _ g2'.1, g2'.2] at r4
  have r5 := chs_9 l 0 (cs.length + 1 + tg.length + 1) (cs.length + 1 + tg.length) #[some 0, some cs.length, some (cs.length + 1 + tg.length + 1), none] 2 1 (gb 30 (cs.length + 1 + tg.length) tg.length 1 1) (gb 7 cs.length cs.length 0 (-1)) ((s2.add 16).add 17)
  rw [if_neg (by omega)] at r5
  have hr : min 4294967295 ((l.length : Int) - (cs.length + 1 + tg.length + 1 : Nat)).toNat = l.length - (cs.length + 1 + tg.length + 1) := by omega
  rw [hr] at r5
  obtain ⟨s3, hs⟩ := run_of acc_c3 l (l.length - (cs.length + 1 + tg.length + 1)) (cs.length + 1 + tg.length + 1) 0 ((((s2.add 16).add 17).add 24).add 13) (by omega)
  rw [hs] at r5
  dsimp only at r5
  have d3 : l.drop (cs.length + 1 + tg.length + 1) = v := by
    rw [e, show cs ++ 39 :: (tg ++ 39 :: v) = (cs ++ [39] ++ tg ++ [39]) ++ v by simp]
    exact drop_at _ _ _ (by simp; omega)
  have w3 : ((l.drop (cs.length + 1 + tg.length + 1)).take (l.length - (cs.length + 1 + tg.length + 1))).takeWhile tokC = v := by
    rw [List.take_of_length_le (by rw [List.length_drop]; exact Nat.le_refl _), d3]; exact tw_all tokC v h4
  rw [w3, Nat.zero_add, if_neg (by omega), show cs.length + 1 + tg.length + 1 + v.length = l.length by omega] at r5
  have r6 := chs_11 l 0 l.length l.length #[some 0, some cs.length, some (cs.length + 1 + tg.length + 1), some l.length] 3 2 [gb 53 l.length v.length 2 1, gb 30 (cs.length + 1 + tg.length) tg.length 1 1, gb 7 cs.length cs.length 0 (-1)] 3 (s3.add 17)
  rw [if_pos (by simp)] at r6
  refine ⟨15, _, by omega, .step rfl (chs_1 ..) (.step rfl r1 (.step rfl (chs_3 ..) (.step rfl r2 (.step rfl r3 (.step rfl r4 (.step rfl (chs_8 ..) (.step rfl r5 (.step rfl (chs_10 ..) (.step rfl r6 (.step rfl (chs_12 ..) (.step rfl (chs_13 ..) (.step rfl (chs_13 ..) (.step rfl (chs_13 ..) (.step rfl (end_T ..) (.zero rfl))))))))))))))), rfl, rfl, rfl, rfl, rfl⟩
end Mine
end
section
open PySem PySem.Spec PySem.Calls PyProof.Rows PySem.W PySem.Builtin PySem.Builtin.Re
set_option maxRecDepth 100000
namespace Mine
variable {prog : Program} {w : World} {H : Heap} {s : Shared}
def markC : Array Nat := #[14, 4, 0, 0, 4294967295, 23, 19, 0, 1, 16, 42, 17, 0, 24, 9, 1, 4294967295, 13, 4, 8, 0, 0, 1, 17, 1, 18, 23, 9, 0, 1, 17, 2, 16, 42, 17, 3, 18, 6, 5, 1]
/-- where group g (from 0) begins and ends, if it took part -/
def spanOf (m : Sre.M) (g : Nat) : Option (Nat × Nat) :=
  if m.lastmark < 2 * (g : Int) + 1 then none else
    match m.marks.getD (2 * g) none with
    | none => none
    | some b => (m.marks.getD (2 * g + 1) none).map fun e => (b, e)
def pairZ : Option (Nat × Nat) → List Int
  | none => [-1, -1]
  | some p => [(p.1 : Int), (p.2 : Int)]
/-- the spans of all groups, a pair each -/
def spansG (groups : Nat) (m : Sre.M) : List Int := (List.range groups).flatMap fun g => pairZ (spanOf m g)
/-- some group ends ahead of its begin -/
def wrongG (groups : Nat) (m : Sre.M) : Bool := (List.range groups).any fun g => (spanOf m g).any fun p => p.2 < p.1
theorem spanOf_in {m : Sre.M} {g : Nat} (h : ((2 * g + 1 : Nat) : Int) ≤ m.lastmark) : spanOf m g = match m.marks.getD (2 * g) none with
    | none => none
    | some b => (m.marks.getD (2 * g + 1) none).map fun e => (b, e) := if_neg (by omega)
theorem spanOf_out {m : Sre.M} {g : Nat} (h : ¬ ((2 * g + 1 : Nat) : Int) ≤ m.lastmark) : spanOf m g = none := if_pos (by omega)
def okM (groups : Nat) (m : Sre.M) (sp : List Int) : Bool := (match m.outcome with | some .matched => true | _ => false) && ((m.start : Int) :: (m.handed : Int) :: spansG groups m == sp) && !wrongG groups m
/-- the mark's pattern run at one key -/
def markRun (pk : T) : Bool := match markSp pk with
  | some sp => okM 2 ((Sre.forSearch markC pk.toArray 2 0 pk.length false).runFor 3000) sp
  | none => false
theorem mark_k1 : markRun [110, 97, 109, 101] = true := by decide +kernel
theorem mark_k2 : markRun [110, 97, 109, 101, 42] = true := by decide +kernel
theorem mark_k3 : markRun [110, 97, 109, 101, 42, 48] = true := by decide +kernel
theorem mark_k4 : markRun [110, 97, 109, 101, 42, 49] = true := by decide +kernel
theorem mark_k5 : markRun [110, 97, 109, 101, 42, 50] = true := by decide +kernel
theorem mark_k6 : markRun [110, 97, 109, 101, 42, 48, 42] = true := by decide +kernel
theorem mark_k7 : markRun [110, 97, 109, 101, 42, 49, 42] = true := by decide +kernel
theorem mark_k8 : markRun [110, 97, 109, 101, 42, 50, 42] = true := by decide +kernel
theorem mark_k9 : markRun [98] = true := by decide +kernel
theorem mark_k10 : markRun [98, 42] = true := by decide +kernel
theorem mark_k11 : markRun [98, 42, 48] = true := by decide +kernel
theorem mark_k12 : markRun [98, 42, 49] = true := by decide +kernel
theorem mark_k13 : markRun [98, 42, 50] = true := by decide +kernel
theorem mark_k14 : markRun [98, 42, 48, 42] = true := by decide +kernel
theorem mark_k15 : markRun [98, 42, 49, 42] = true := by decide +kernel
theorem mark_k16 : markRun [98, 42, 50, 42] = true := by decide +kernel
theorem mark_k17 : markRun [102, 105, 108, 101, 45, 49] = true := by decide +kernel
theorem mark_k18 : markRun [102, 105, 108, 101, 45, 49, 42] = true := by decide +kernel
theorem mark_k19 : markRun [102, 105, 108, 101, 45, 49, 42, 48] = true := by decide +kernel
theorem mark_k20 : markRun [102, 105, 108, 101, 45, 49, 42, 49] = true := by decide +kernel
theorem mark_k21 : markRun [102, 105, 108, 101, 45, 49, 42, 50] = true := by decide +kernel
theorem mark_k22 : markRun [102, 105, 108, 101, 45, 49, 42, 48, 42] = true := by decide +kernel
theorem mark_k23 : markRun [102, 105, 108, 101, 45, 49, 42, 49, 42] = true := by decide +kernel
theorem mark_k24 : markRun [102, 105, 108, 101, 45, 49, 42, 50, 42] = true := by decide +kernel
theorem mark_all : keyL.all markRun = true := by
  have e : keyL = [[110, 97, 109, 101], [110, 97, 109, 101, 42], [110, 97, 109, 101, 42, 48], [110, 97, 109, 101, 42, 49], [110, 97, 109, 101, 42, 50], [110, 97, 109, 101, 42, 48, 42], [110, 97, 109, 101, 42, 49, 42], [110, 97, 109, 101, 42, 50, 42], [98], [98, 42], [98, 42, 48], [98, 42, 49], [98, 42, 50], [98, 42, 48, 42], [98, 42, 49, 42], [98, 42, 50, 42], [102, 105, 108, 101, 45, 49], [102, 105, 108, 101, 45, 49, 42], [102, 105, 108, 101, 45, 49, 42, 48], [102, 105, 108, 101, 45, 49, 42, 49], [102, 105, 108, 101, 45, 49, 42, 50], [102, 105, 108, 101, 45, 49, 42, 48, 42], [102, 105, 108, 101, 45, 49, 42, 49, 42], [102, 105, 108, 101, 45, 49, 42, 50, 42]] := by rfl
  rw [e]
  simp only [List.all_cons, List.all_nil, mark_k1, mark_k2, mark_k3, mark_k4, mark_k5, mark_k6, mark_k7, mark_k8, mark_k9, mark_k10, mark_k11, mark_k12, mark_k13, mark_k14, mark_k15, mark_k16, mark_k17, mark_k18, mark_k19, mark_k20, mark_k21, mark_k22, mark_k23, mark_k24, Bool.and_self]
/-- a target at hand -/
def PatAt (h : Heap) (a : Addr) (code : Array Nat) (groups : Nat) : Prop :=
  ∃ (ps : Str) (t : Tok) (fl : Value) (ca : Addr) (n : Nat), h.get? a = some { cls := .type "re.Pattern", data := .fields #[.str ps t, fl, rawInt groups, .none, .none, .ref ca, rawInt 0] } ∧
    h.get? ca = some { cls := .type "tuple", data := .seq (code.map fun c => rawInt (c : Nat)) n }
theorem code_back (code : Array Nat) : Array.map (fun x => x.toNat) (Array.map reRawOf ((some (Array.map (fun c => rawInt ((c : Nat) : Int)) code)).getD #[])) = code := by
  rw [Option.getD_some, Array.map_map, Array.map_map]
  have : (((fun x : Int => x.toNat) ∘ reRawOf) ∘ fun c => rawInt ((c : Nat) : Int)) = (_root_.id : Nat → Nat) := by funext c; rfl
  rw [this, Array.map_id]
theorem targetEq {a : Addr} {code : Array Nat} {groups : Nat} {x ps : Str} {t t0 : Tok} {fl : Value} {p : Int} {ca : Addr} (h0 : 0 ≤ p) (h1 : p ≤ x.length) (hx : x.length ≤ 1000000) :
    ({ pattern := .ref a, string := .str x t, code, text := x.cps, kind := 0, groups, pos := p.toNat, lim := x.length } : ReTarget) =
    { pattern := .ref a, string := .str x t, code := Array.map (fun x => x.toNat) (Array.map reRawOf ((some (Array.map (fun c => rawInt ((c : Nat) : Int)) code)).getD #[])),
      text := (x.cps, 0).fst, kind := (x.cps, 0).snd, groups := reRawNat (#[Value.str ps t0, fl, rawInt groups, Value.none, Value.none, Value.ref ca, rawInt 0].getD 2 Value.none),
      pos := min p.toNat (x.cps, 0).fst.size, lim := min (2 ^ 63 - 1 : Int).toNat (x.cps, 0).fst.size } := by
  have e1 : min p.toNat x.cps.size = p.toNat := by have : x.length = x.cps.size := rfl; omega
  have e2 : min (2 ^ 63 - 1 : Int).toNat x.cps.size = x.length := by have : x.length = x.cps.size := rfl; omega
  rw [code_back]
  show _ = ({ pattern := .ref a, string := .str x t, code, text := x.cps, kind := 0, groups := groups, pos := min p.toNat x.cps.size, lim := min (2 ^ 63 - 1 : Int).toNat x.cps.size } : ReTarget)
  rw [e1, e2]
set_option maxHeartbeats 4000000 in
theorem target_1 {A : Around} {E : Value → Shared → Prop} {a : Addr} {code : Array Nat} {groups : Nat} {x : Str} {t u : Tok} {p : Int} {Q : ReTarget → Shared → Prop} (id f : String) (hf : f = "match" ∨ f = "search") (hp : PatAt s.heap a code groups) (h0 : 0 ≤ p) (h1 : p ≤ x.length) (hx : x.length ≤ 1000000)
    (h : Q { pattern := .ref a, string := .str x t, code, text := x.cps, kind := 0, groups, pos := p.toNat, lim := x.length } s) :
    wpAny (model prog w) A (reTarget id f ⟨[.ref a, .str x t, .int p u], []⟩) Q E s := by
  obtain ⟨ps, t0, fl, ca, n, e1, e2⟩ := hp
  unfold reTarget reNamed
  dsimp only
  wp_walk using wpAny_load e1, AutoSeq1.wpAny_loadPart' e1, wpAny_load e2, AutoSeq1.wpAny_loadPart' e2
  rw [if_neg (by rw [Bool.or_eq_true, decide_eq_true_eq, decide_eq_true_eq]; omega)]
  wp_walk using wpAny_load e1, AutoSeq1.wpAny_loadPart' e1, wpAny_load e2, AutoSeq1.wpAny_loadPart' e2
  exact (congrArg (fun z => Q z s) (targetEq h0 h1 hx)).mp h
set_option maxHeartbeats 4000000 in
theorem target_0 {A : Around} {E : Value → Shared → Prop} {a : Addr} {code : Array Nat} {groups : Nat} {x : Str} {t : Tok} {Q : ReTarget → Shared → Prop} (id f : String) (hp : PatAt s.heap a code groups) (hx : x.length ≤ 1000000)
    (h : Q { pattern := .ref a, string := .str x t, code, text := x.cps, kind := 0, groups, pos := 0, lim := x.length } s) :
    wpAny (model prog w) A (reTarget id f ⟨[.ref a, .str x t], []⟩) Q E s := by
  obtain ⟨ps, t0, fl, ca, n, e1, e2⟩ := hp
  unfold reTarget reNamed
  dsimp only
  wp_walk using wpAny_load e1, AutoSeq1.wpAny_loadPart' e1, wpAny_load e2, AutoSeq1.wpAny_loadPart' e2
  exact (congrArg (fun z => Q z s) (targetEq (p := 0) (Int.le_refl _) (Int.natCast_nonneg _) hx)).mp h
variable {F : FC} {σ : List Addr} {lo : Lo} {ah : AH}
theorem new_match {A : Around} {E : Value → Shared → Prop} {a : Addr} {l : List Nat} {t : Tok} {groups pos lim : Nat} {m : Sre.M} {sp : List Int} {Q : Value → Shared → Prop} (ok : okM groups m sp = true) (hg : groups ≤ 2)
    (h : ∀ h' p, (∀ b o, s.heap.get? b = some o → h'.get? b = some o) → IsMt h' p l sp → Q (.ref p) { s with heap := h' }) :
    wpAny (model prog w) A (reNewMatch (.ref a) (.str (S l) t) groups pos lim m) Q E s := by
  unfold okM at ok
  simp only [Bool.and_eq_true, Bool.not_eq_true', beq_iff_eq] at ok
  obtain ⟨⟨_, hsp⟩, hw⟩ := ok
  unfold reNewMatch
  dsimp only
  split
  · rename_i hb
    exfalso
    obtain ⟨g, hg, hb⟩ := List.any_eq_true.mp hb
    have hw := List.any_eq_false.mp hw g hg
    cases hx : m.marks.getD (2 * g) none with
    | none => rw [hx] at hb; exact Bool.noConfusion hb
    | some b =>
      cases hy : m.marks.getD (2 * g + 1) none with
      | none => rw [hx, hy] at hb; exact Bool.noConfusion hb
      | some e =>
        simp only [hx, hy, Bool.and_eq_true, decide_eq_true_eq] at hb
        rw [spanOf_in hb.1, hx, hy] at hw
        exact hw (by simpa using hb.2)
  have hsz : sp.length ≤ 10 := by
    rw [← hsp]
    have : groups = 0 ∨ groups = 1 ∨ groups = 2 := by omega
    rcases this with rfl | rfl | rfl <;> simp [spansG, List.range_succ] <;> cases spanOf m 0 <;> cases spanOf m 1 <;> simp [pairZ]
  generalize hX : (rawInt m.start :: rawInt m.handed :: _) = X
  have hX' : X = sp.map rawInt := by
    rw [← hX, ← hsp, List.map_cons, List.map_cons]
    unfold spansG
    rw [List.map_flatMap]
    congr 3
    funext g
    by_cases hl : ((2 * g + 1 : Nat) : Int) ≤ m.lastmark
    · rw [if_pos hl, spanOf_in hl]
      cases m.marks.getD (2 * g) none with
      | none => rfl
      | some b => cases m.marks.getD (2 * g + 1) none <;> rfl
    · rw [if_neg hl, spanOf_out hl]; rfl
  subst hX'
  refine wpAny_bind (wpAny_newTuple ?_ (by rw [List.length_map, sizeLine_eq]; omega))
  unfold newFields
  refine wpAny_newObj_type ?_
  refine h _ _ (fun b o e => Heap.get?_push_of_some _ (Heap.get?_push_of_some _ e)) ⟨_, _, _, _, _, _, Heap.get?_push_size _ rfl, 0, Heap.get?_push_of_some _ (Heap.get?_push_size _ rfl)⟩
end Mine
end
section
open PySem PySem.Spec PySem.Calls PyProof.Rows PySem.W PySem.Builtin PySem.Builtin.Re
set_option maxRecDepth 100000
namespace Mine
variable {prog : Program} {w : World} {H : Heap} {s : Shared} {F : FC} {σ : List Addr} {lo : Lo} {ah : AH}
def ReS (a : Addr) (code : Array Nat) (groups : Nat) (l : List Nat) (m0 : Sre.M) : PySem.Spec := fun _ R s => PatAt s.heap a code groups ∧ l.length ≤ 1000000 ∧ groups ≤ 2 ∧ ∃ n m', n ≤ 2 ^ 60 ∧ Ends n m0 m' ∧
  ((∃ sp, okM groups m' sp = true ∧ ∀ h' p, (∀ b o, s.heap.get? b = some o → h'.get? b = some o) → IsMt h' p l sp → R (.ok (.ret (.ref p))) { s with heap := h' }) ∨ (m'.outcome = some .failed ∧ R (.ok (.ret .none)) s))
theorem okM_matched {g : Nat} {m : Sre.M} {sp : List Int} (h : okM g m sp = true) : m.outcome = some .matched := by
  unfold okM at h
  simp only [Bool.and_eq_true] at h
  have := h.1.1
  split at this
  · assumption
  · cases this
theorem answer_re {A : Around} {R : Result → Shared → Prop} {a : Addr} {code : Array Nat} {groups pos lim : Nat} {l : List Nat} {t : Tok} {m0 : Sre.M} (hg : groups ≤ 2) (h : ∃ n m', n ≤ 2 ^ 60 ∧ Ends n m0 m' ∧
  ((∃ sp, okM groups m' sp = true ∧ ∀ h' p, (∀ b o, s.heap.get? b = some o → h'.get? b = some o) → IsMt h' p l sp → R (.ok (.ret (.ref p))) { s with heap := h' }) ∨ (m'.outcome = some .failed ∧ R (.ok (.ret .none)) s))) :
    wpAny (model prog w) A (reAnswer { pattern := .ref a, string := .str (S l) t, code, text := (S l).cps, kind := 0, groups, pos, lim } m0) (fun fin s' => ∃ v, fin = .done (.ret v) ∧ R (.ok (.ret v)) s') (fun e s' => R (.error e) s') s := by
  obtain ⟨n, m', hn, he, ho⟩ := h
  unfold reAnswer
  refine wpAny_bind (he.toEnd hn ?_)
  rcases ho with ⟨sp, ok, h⟩ | ⟨ho, h⟩
  · refine .inl ⟨okM_matched ok, ?_⟩
    exact wpAny_bind (new_match ok hg fun h' p hk hm => wpAny_pure ⟨_, rfl, h h' p hk hm⟩)
  · exact .inr ⟨ho, wpAny_pure ⟨_, rfl, h⟩⟩
theorem meets_match (a : Addr) (code : Array Nat) (groups : Nat) (l : List Nat) (t u : Tok) (p : Int) (h0 : 0 ≤ p) (h1 : p ≤ l.length) : Meets (Builtin.«re.Pattern.match» ⟨[.ref a, .str (S l) t, .int p u], []⟩) (ReS a code groups l (Sre.forMatch code (S l).cps groups p.toNat l.length false false)) :=
  .of_wp fun prog w A R s ⟨hp, hl, hg, h⟩ => by
    unfold Builtin.«re.Pattern.match»
    refine wpAny_bind (target_1 _ _ (.inl rfl) hp h0 (by rw [S_length]; exact h1) (by rw [S_length]; exact hl) ?_)
    dsimp only
    rw [S_length]
    exact answer_re hg h
theorem meets_match0 (a : Addr) (code : Array Nat) (groups : Nat) (l : List Nat) (t : Tok) : Meets (Builtin.«re.Pattern.match» ⟨[.ref a, .str (S l) t], []⟩) (ReS a code groups l (Sre.forMatch code (S l).cps groups 0 l.length false false)) :=
  .of_wp fun prog w A R s ⟨hp, hl, hg, h⟩ => by
    unfold Builtin.«re.Pattern.match»
    refine wpAny_bind (target_0 _ _ hp (by rw [S_length]; exact hl) ?_)
    dsimp only
    rw [S_length]
    exact answer_re hg h
theorem meets_search (a : Addr) (code : Array Nat) (groups : Nat) (l : List Nat) (t u : Tok) (p : Int) (h0 : 0 ≤ p) (h1 : p ≤ l.length) : Meets (Builtin.«re.Pattern.search» ⟨[.ref a, .str (S l) t, .int p u], []⟩) (ReS a code groups l (Sre.forSearch code (S l).cps groups p.toNat l.length false)) :=
  .of_wp fun prog w A R s ⟨hp, hl, hg, h⟩ => by
    unfold Builtin.«re.Pattern.search»
    refine wpAny_bind (target_1 _ _ (.inr rfl) hp h0 (by rw [S_length]; exact h1) (by rw [S_length]; exact hl) ?_)
    dsimp only
    rw [S_length]
    exact answer_re hg h
theorem meets_search0 (a : Addr) (code : Array Nat) (groups : Nat) (l : List Nat) (t : Tok) : Meets (Builtin.«re.Pattern.search» ⟨[.ref a, .str (S l) t], []⟩) (ReS a code groups l (Sre.forSearch code (S l).cps groups 0 l.length false)) :=
  .of_wp fun prog w A R s ⟨hp, hl, hg, h⟩ => by
    unfold Builtin.«re.Pattern.search»
    refine wpAny_bind (target_0 _ _ hp (by rw [S_length]; exact hl) ?_)
    dsimp only
    rw [S_length]
    exact answer_re hg h
theorem slot_match : Slot "re.Pattern" "match" "re.Pattern.match" :=
  .of (owner := "re.Pattern") (n := "match") (by rw [typeLookup_type, builtinLookup_eq_fast]; kernel_rfl) (by decide +kernel) (by decide +kernel) (by decide +kernel)
    (by first | exact .inl (by decide +kernel) | exact .inr (by decide +kernel)) (by rw [isSubtype_type]; kernel_rfl)
theorem slot_search : Slot "re.Pattern" "search" "re.Pattern.search" :=
  .of (owner := "re.Pattern") (n := "search") (by rw [typeLookup_type, builtinLookup_eq_fast]; kernel_rfl) (by decide +kernel) (by decide +kernel) (by decide +kernel)
    (by first | exact .inl (by decide +kernel) | exact .inr (by decide +kernel)) (by rw [isSubtype_type]; kernel_rfl)
theorem entry_match : entryFor table "re.Pattern.match" = some Builtin.«re.Pattern.match» := entryFor_of_tree (by kernel_rfl)
theorem entry_search : entryFor table "re.Pattern.search" = some Builtin.«re.Pattern.search» := entryFor_of_tree (by kernel_rfl)
theorem args_match2 (a b : Value) : argsOk "re.Pattern.match" ⟨[a, b], []⟩ := by unfold argsOk; kernel_rfl
theorem args_match3 (a b c : Value) : argsOk "re.Pattern.match" ⟨[a, b, c], []⟩ := by unfold argsOk; kernel_rfl
theorem args_search2 (a b : Value) : argsOk "re.Pattern.search" ⟨[a, b], []⟩ := by unfold argsOk; kernel_rfl
theorem args_search3 (a b c : Value) : argsOk "re.Pattern.search" ⟨[a, b, c], []⟩ := by unfold argsOk; kernel_rfl
theorem type_match : typeOf (.builtin "re.Pattern.match") = pure (.type "method_descriptor") := by show builtinType _ = _; rw [builtinType_eq_fast]; kernel_rfl
theorem type_search : typeOf (.builtin "re.Pattern.search") = pure (.type "method_descriptor") := by show builtinType _ = _; rw [builtinType_eq_fast]; kernel_rfl
theorem PatAt.typeIs {a : Addr} {code : Array Nat} {g : Nat} (h : PatAt s.heap a code g) : s.TypeIs (.ref a) "re.Pattern" := let ⟨_, _, _, _, _, e, _⟩ := h; ⟨_, e, rfl⟩
/-- the code of the five patterns -/
def patC : Addr → Option (Array Nat × Nat)
  | 58 => some (unsC, 1) | 77 => some (keyC, 1) | 82 => some (markC, 2) | 87 => some (tokRC, 0) | 92 => some (chsRC, 2) | 97 => some (delC, 0)
  | _ => none
/-- what a machine's end says of a match -/
theorem re_op (I : Inv prog w F σ lo ah s) {l : List Nat} {k : KA} {r : Option (List Int)} (q : k (match r with | some sp => .mt l sp | none => .none) ah) {groups : Nat} {m0 : Sre.M}
    (h : ∃ n m', n ≤ 2 ^ 60 ∧ Ends n m0 m' ∧ (match (generalizing := false) r with | some sp => okM groups m' sp = true | none => m'.outcome = some .failed)) :
    ∃ n m', n ≤ 2 ^ 60 ∧ Ends n m0 m' ∧ ((∃ sp, okM groups m' sp = true ∧ ∀ h' p, (∀ b o, s.heap.get? b = some o → h'.get? b = some o) → IsMt h' p l sp →
      wants (fun v s' => 1 ≤ s'.toks → Post prog w F σ s.heap (fun av lo' ah' => lo' = lo ∧ k av ah') v s') Nev (.ok (.ret (.ref p))) { s with heap := h' }) ∨
      (m'.outcome = some .failed ∧ wants (fun v s' => 1 ≤ s'.toks → Post prog w F σ s.heap (fun av lo' ah' => lo' = lo ∧ k av ah') v s') Nev (.ok (.ret .none)) s)) := by
  obtain ⟨n, m', hn, he, ho⟩ := h
  refine ⟨n, m', hn, he, ?_⟩
  cases r with
  | some sp =>
    refine .inl ⟨sp, ho, fun h' p hk hm ht => ?_⟩
    exact Op.grow I (tk := s.toks) hk (by simp only [VR]; exact ⟨p, rfl, hm⟩) q ht
  | none => exact .inr ⟨ho, fun ht => Op.here I vr_none q⟩
end Mine
end
section
open PySem PySem.Spec PySem.Calls PyProof.Rows PySem.W PySem.Builtin PySem.Builtin.Re
set_option maxRecDepth 100000
namespace Mine
variable {prog : Program} {w : World} {H : Heap} {s : Shared} {F : FC} {σ : List Addr} {lo : Lo} {ah : AH}
theorem okM1 {m : Sre.M} {st hd b e : Nat} (h : m.outcome = some .matched) (h1 : m.start = st) (h2 : m.handed = hd) (h3 : m.marks = #[some b, some e]) (h4 : m.lastmark = 1) (hbe : b ≤ e) : okM 1 m [(st : Int), hd, b, e] = true := by
  unfold okM spansG wrongG spanOf
  rw [h, h1, h2, h3, h4]
  simp [List.range_succ, pairZ, hbe]
theorem okM0 {m : Sre.M} {st hd : Nat} (h : m.outcome = some .matched) (h1 : m.start = st) (h2 : m.handed = hd) : okM 0 m [(st : Int), hd] = true := by
  unfold okM spansG wrongG spanOf
  rw [h, h1, h2]
  simp
theorem okM2 {m : Sre.M} {st hd b e b' e' : Nat} (h : m.outcome = some .matched) (h1 : m.start = st) (h2 : m.handed = hd) (h3 : m.marks = #[some b, some e, some b', some e']) (h4 : m.lastmark = 3) (hbe : b ≤ e) (hbe' : b' ≤ e') :
    okM 2 m [(st : Int), hd, b, e, b', e'] = true := by
  unfold okM spansG wrongG spanOf
  rw [h, h1, h2, h3, h4]
  simp [List.range_succ, pairZ, hbe, hbe']
theorem tw_drop {α : Type} (f : α → Bool) : ∀ l : List α, l.takeWhile f ++ l.drop (l.takeWhile f).length = l
  | [] => rfl
  | a :: r => by
    by_cases h : f a = true
    · rw [List.takeWhile_cons_of_pos h, List.length_cons, List.drop_succ_cons, List.cons_append, tw_drop f r]
    · rw [List.takeWhile_cons_of_neg h]; rfl
theorem tw_mem {α : Type} (f : α → Bool) : ∀ (l : List α) (c : α), c ∈ l.takeWhile f → f c = true
  | [], c, h => by cases h
  | a :: r, c, h => by
    by_cases ha : f a = true
    · rw [List.takeWhile_cons_of_pos ha] at h
      rcases List.mem_cons.mp h with rfl | h
      · exact ha
      · exact tw_mem f r c h
    · rw [List.takeWhile_cons_of_neg ha] at h; cases h
theorem chsF_inv {l cs v : List Nat} (h : chsF l = some (cs, v)) : ∃ tg, l = cs ++ 39 :: (tg ++ 39 :: v) ∧ (∀ c ∈ cs, chsC c = true) ∧ (∀ c ∈ tg, chsC c = true) ∧ v ≠ [] ∧ ∀ c ∈ v, tokC c = true := by
  unfold chsF at h
  dsimp only at h
  split at h
  · rename_i r e1
    split at h
    · rename_i v' e2
      split at h
      · rename_i h3
        simp only [Option.some.injEq, Prod.mk.injEq] at h
        obtain ⟨rfl, rfl⟩ := h
        refine ⟨r.takeWhile chsC, ?_, fun c hc => ?_, fun c hc => ?_, h3.1, by simpa using h3.2⟩
        · have a1 := tw_drop chsC l
          have a2 := tw_drop chsC r
          rw [e1] at a1
          rw [e2] at a2
          rw [a2, a1]
        · exact tw_mem chsC _ _ hc
        · exact tw_mem chsC _ _ hc
      · cases h
    · cases h
  · cases h
/-- which road a pattern's method takes -/
theorem re_of (a : Addr) (m : M) (l : List Nat) (p : Nat) (k : Option (List Int) → Prop) (hl : l.length ≤ 1000000) (hp : p ≤ l.length) (h : reM a m l p k) :
    ∃ code g r, patC a = some (code, g) ∧ g ≤ 2 ∧ k r ∧ ((m = .match_ ∧ ∃ n m', n ≤ 2 ^ 60 ∧ Ends n (Sre.forMatch code l.toArray g p l.length false false) m' ∧ (match r with | some sp => okM g m' sp = true | none => m'.outcome = some .failed)) ∨
      (m = .search ∧ ∃ n m', n ≤ 2 ^ 60 ∧ Ends n (Sre.forSearch code l.toArray g p l.length false) m' ∧ (match r with | some sp => okM g m' sp = true | none => m'.outcome = some .failed))) := by
  unfold reM at h
  split at h
  · obtain ⟨n, m', hn, he, ho⟩ := key_run l p hp hl
    dsimp only at h
    split at h
    · rename_i hc
      rw [if_pos hc] at ho
      obtain ⟨o1, o2, o3, o4, o5⟩ := ho
      exact ⟨keyC, 1, _, rfl, by decide, h, .inl ⟨rfl, n, m', by omega, he, okM1 o1 o2 o3 o4 o5 (by omega)⟩⟩
    · rename_i hc
      rw [if_neg hc] at ho
      exact ⟨keyC, 1, _, rfl, by decide, h, .inl ⟨rfl, n, m', by omega, he, ho⟩⟩
  · obtain ⟨n, m', hn, he, ho⟩ := tok_run l p hp hl
    dsimp only at h
    split at h
    · rename_i hc
      rw [if_pos hc] at ho
      obtain ⟨o1, o2, o3⟩ := ho
      exact ⟨tokRC, 0, _, rfl, by decide, h, .inl ⟨rfl, n, m', by omega, he, okM0 o1 o2 o3⟩⟩
    · rename_i hc
      rw [if_neg hc] at ho
      exact ⟨tokRC, 0, _, rfl, by decide, h, .inl ⟨rfl, n, m', by omega, he, ho⟩⟩
  · obtain ⟨n, m', hn, he, ho⟩ := del_run l p hp hl
    refine ⟨delC, 0, _, rfl, by decide, h, .inr ⟨rfl, n, m', by omega, he, ?_⟩⟩
    cases hx : delimSp (l.drop p) with
    | none => rw [hx] at ho; exact ho
    | some x => rw [hx] at ho; exact okM0 ho.1 ho.2.1 ho.2.2
  · obtain ⟨hk, sp, hsp, q⟩ := h
    have hm := List.all_eq_true.mp mark_all l hk
    unfold markRun at hm
    rw [hsp] at hm
    have hm' : okM 2 ((Sre.forSearch markC l.toArray 2 0 l.length false).runFor 3000) sp = true := hm
    exact ⟨markC, 2, some sp, rfl, by decide, q, .inr ⟨rfl, 3000, _, by decide, ⟨rfl, by rw [okM_matched hm']; rfl⟩, hm'⟩⟩
  · obtain ⟨hc, q⟩ := h
    cases hx : chsF l with
    | none =>
      rw [hx] at q hc
      have hall : ∀ c ∈ l, chsC c = true := by simpa using hc
      obtain ⟨n, m', hn, he, ho⟩ := chs_none l hall hl
      exact ⟨chsRC, 2, none, rfl, by decide, q, .inl ⟨rfl, n, m', by omega, he, ho⟩⟩
    | some x =>
      rw [hx] at q
      obtain ⟨cs, v⟩ := x
      obtain ⟨tg, e, h1, h2, h3, h4⟩ := chsF_inv hx
      have hlen : l.length = cs.length + 1 + tg.length + 1 + v.length := by rw [e]; simp; omega
      obtain ⟨n, m', hn, he, o1, o2, o3, o4, o5⟩ := chs_some cs tg v h1 h2 h3 h4 l e hl
      refine ⟨chsRC, 2, _, rfl, by decide, q, .inl ⟨rfl, n, m', by omega, he, ?_⟩⟩
      have := okM2 o1 o2 o3 o4 o5 (Nat.zero_le _) (by omega)
      show okM 2 m' [0, (l.length : Int), 0, (cs.length : Int), ((l.length - v.length : Nat) : Int), (l.length : Int)] = true
      rw [show l.length - v.length = cs.length + 1 + tg.length + 1 by omega]
      exact this
  · exact h.elim
/-- a pattern's method -/
def M.reId : M → String
  | .match_ => "re.Pattern.match"
  | _ => "re.Pattern.search"
theorem m_re0 (I : Inv prog w F σ lo ah s) {a : Addr} {m : M} {l : List Nat} {v : Value} {k : KA} (hpat : ∀ code g, patC a = some (code, g) → PatAt s.heap a code g) (r : VR σ s.heap (.str l) v) (hl : l.length ≤ 1000000)
    (h : reM a m l 0 fun r => k (match r with | some sp => .mt l sp | none => .none) ah) : Op prog w F σ lo s (call (.builtin m.reId) [.ref a, v]) k := by
  obtain ⟨t, rfl⟩ := vr_str_inv r
  obtain ⟨code, g, r, e, hg, q, hh⟩ := re_of a m l 0 _ hl (Nat.zero_le _) h
  have hp := hpat code g e
  rcases hh with ⟨rfl, hh⟩ | ⟨rfl, hh⟩
  · exact call_meets slot_match hp.typeIs entry_match (args_match2 _ _) (meets_match0 a code g l t) ⟨hp, hl, hg, re_op I q hh⟩
  · exact call_meets slot_search hp.typeIs entry_search (args_search2 _ _) (meets_search0 a code g l t) ⟨hp, hl, hg, re_op I q hh⟩
theorem m_re1 (I : Inv prog w F σ lo ah s) {a : Addr} {m : M} {l : List Nat} {p : Int} {v u : Value} {k : KA} (hpat : ∀ code g, patC a = some (code, g) → PatAt s.heap a code g) (r : VR σ s.heap (.str l) v) (r' : VR σ s.heap (.int p) u) (hl : l.length ≤ 1000000)
    (h0 : 0 ≤ p) (h1 : p ≤ l.length) (h : reM a m l p.toNat fun r => k (match r with | some sp => .mt l sp | none => .none) ah) : Op prog w F σ lo s (call (.builtin m.reId) [.ref a, v, u]) k := by
  obtain ⟨t, rfl⟩ := vr_str_inv r; obtain ⟨t', rfl⟩ := vr_int_inv r'
  obtain ⟨code, g, r, e, hg, q, hh⟩ := re_of a m l p.toNat _ hl (by omega) h
  have hp := hpat code g e
  rcases hh with ⟨rfl, hh⟩ | ⟨rfl, hh⟩
  · exact call_meets slot_match hp.typeIs entry_match (args_match3 _ _ _) (meets_match a code g l t t' p h0 h1) ⟨hp, hl, hg, re_op I q hh⟩
  · exact call_meets slot_search hp.typeIs entry_search (args_search3 _ _ _) (meets_search a code g l t t' p h0 h1) ⟨hp, hl, hg, re_op I q hh⟩
end Mine
end
section
open PySem PySem.Spec PySem.Calls PyProof.Rows PySem.W PySem.Builtin PySem.Builtin.Re
set_option maxRecDepth 100000
namespace Mine
variable {prog : Program} {w : World} {H : Heap} {s : Shared} {F : FC} {σ : List Addr} {lo : Lo} {ah : AH}
theorem spans_back (sp : List Int) : Array.map reRawOf ((some (sp.map rawInt).toArray).getD #[]) = sp.toArray := by
  simp [rawInt, reRawOf, Function.comp_def]
set_option maxHeartbeats 4000000 in
theorem wp_found {A : Around} {E : Value → Shared → Prop} {p : Addr} {l : List Nat} {sp : List Int} {Q : ReFound → Shared → Prop} (hm : IsMt s.heap p l sp)
    (h : ∀ t pat pos lim li q, Q { fields := #[.str (S l) t, pat, rawInt pos, rawInt lim, rawInt li, .ref q], spans := sp.toArray } s) : wpAny (model prog w) A (reFound (.ref p)) Q E s := by
  obtain ⟨t, pat, pos, lim, li, q, e1, n, e2⟩ := hm
  unfold reFound reRawItems
  wp_walk using wpAny_load e1, AutoSeq1.wpAny_loadPart' e1, wpAny_load e2, AutoSeq1.wpAny_loadPart' e2
  have := h t pat pos lim li q
  rw [← spans_back] at this
  exact this
theorem getD_arr (sp : List Int) (i : Nat) : sp.toArray.getD i (-1) = sp.getD i (-1) := by
  simp [List.getD_eq_getElem?_getD]
set_option maxHeartbeats 4000000 in
theorem meets_end (p : Addr) (l : List Nat) (sp : List Int) : Meets (Builtin.«re.Match.end» ⟨[.ref p], []⟩) (fun _ R s => IsMt s.heap p l sp ∧ R (.ok (.ret (.int (sp.getD 1 (-1)) s.toks))) { s with toks := s.toks + 1 }) :=
  .of_wp fun prog w A R s ⟨hm, h⟩ => by
    unfold Builtin.«re.Match.end»
    wp_walk using wp_found hm
    intro t pat pos lim li q
    wp_walk
    refine ⟨_, rfl, ?_⟩
    rw [← getD_arr] at h
    exact h
set_option maxHeartbeats 4000000 in
theorem meets_start (p : Addr) (l : List Nat) (sp : List Int) : Meets (Builtin.«re.Match.start» ⟨[.ref p], []⟩) (fun _ R s => IsMt s.heap p l sp ∧ R (.ok (.ret (.int (sp.getD 0 (-1)) s.toks))) { s with toks := s.toks + 1 }) :=
  .of_wp fun prog w A R s ⟨hm, h⟩ => by
    unfold Builtin.«re.Match.start»
    wp_walk using wp_found hm
    intro t pat pos lim li q
    wp_walk
    refine ⟨_, rfl, ?_⟩
    rw [← getD_arr] at h
    exact h
/-- the text of a group -/
theorem wp_gtext {A : Around} {E : Value → Shared → Prop} {l : List Nat} {sp : List Int} {t : Tok} {fs : Array Value} {g : Nat} {dflt : Value} {Q : Value → Shared → Prop} (hf : fs.getD 0 .none = .str (S l) t) (hl : l.length ≤ 1000000)
    (h1 : (sp.getD (2 * g) (-1) < 0 ∨ sp.getD (2 * g + 1) (-1) < 0) → Q dflt s)
    (h2 : 0 ≤ sp.getD (2 * g) (-1) → 0 ≤ sp.getD (2 * g + 1) (-1) → Q (.str (S ((l.take (sp.getD (2 * g + 1) (-1)).toNat).drop (sp.getD (2 * g) (-1)).toNat)) s.toks) { s with toks := s.toks + 1 }) :
    wpAny (model prog w) A (reGroupText { fields := fs, spans := sp.toArray } g dflt) Q E s := by
  unfold reGroupText
  dsimp only
  rw [getD_arr, getD_arr]
  generalize sp.getD (2 * g) (-1) = b at *
  generalize sp.getD (2 * g + 1) (-1) = e at *
  by_cases hc : (decide (b < 0) || decide (e < 0)) = true
  · rw [if_pos hc]
    exact wpAny_pure (h1 (by simpa using hc))
  · rw [if_neg hc]
    simp at hc
    rw [hf]
    have ex : (⟨(S l).cps.extract b.toNat e.toNat⟩ : Str) = S ((l.take e.toNat).drop b.toNat) := by
      simp [S, List.drop_take]
    have key : wpAny (model prog w) A (do mkStr ⟨(S l).cps.extract b.toNat e.toNat⟩) Q E s := by
      rw [ex]
      exact wpAny_mkStr (h2 hc.1 hc.2) (by rw [S_length, List.length_drop, List.length_take, sizeLine_eq]; omega)
    exact key
set_option maxHeartbeats 4000000 in
theorem meets_group0 (p : Addr) (l : List Nat) (sp : List Int) (a b : Int) (ha : sp[0]? = some a) (hb : sp[1]? = some b) (h0 : 0 ≤ a) (h1 : 0 ≤ b) (hl : l.length ≤ 1000000) : Meets (Builtin.«re.Match.group» ⟨[.ref p], []⟩) (fun _ R s => IsMt s.heap p l sp ∧
    R (.ok (.ret (.str (S ((l.take b.toNat).drop a.toNat)) s.toks))) { s with toks := s.toks + 1 }) :=
  .of_wp fun prog w A R s ⟨hm, h⟩ => by
    have e0 : sp.getD (2 * 0) (-1) = a := by simp [List.getD_eq_getElem?_getD, ha]
    have e1 : sp.getD (2 * 0 + 1) (-1) = b := by simp [List.getD_eq_getElem?_getD, hb]
    unfold Builtin.«re.Match.group»
    wp_walk using wp_found hm
    intro t pat pos lim li q
    refine wpAny_bind (wp_gtext (t := t) rfl hl (fun hc => ?_) (fun _ _ => ?_))
    · rw [e0, e1] at hc; omega
    · rw [e0, e1]; exact wpAny_pure ⟨_, rfl, h⟩
set_option maxHeartbeats 4000000 in
theorem meets_group1 (p : Addr) (l : List Nat) (sp : List Int) (a b g : Int) (u : Tok) (hg : 0 ≤ g) (hg' : g ≤ 10) (ha : sp[2 * g.toNat]? = some a) (hb : sp[2 * g.toNat + 1]? = some b) (hl : l.length ≤ 1000000) : Meets (Builtin.«re.Match.group» ⟨[.ref p, .int g u], []⟩) (fun _ R s => IsMt s.heap p l sp ∧
    ((a < 0 ∨ b < 0) → R (.ok (.ret .none)) s) ∧ (0 ≤ a → 0 ≤ b → R (.ok (.ret (.str (S ((l.take b.toNat).drop a.toNat)) s.toks))) { s with toks := s.toks + 1 })) :=
  .of_wp fun prog w A R s ⟨hm, h, h'⟩ => by
    have e0 : sp.getD (2 * g.toNat) (-1) = a := by simp [List.getD_eq_getElem?_getD, ha]
    have e1 : sp.getD (2 * g.toNat + 1) (-1) = b := by simp [List.getD_eq_getElem?_getD, hb]
    unfold Builtin.«re.Match.group»
    wp_walk using wp_found hm
    intro t pat pos lim li q
    have fin : wpAny (model prog w) A.in1 (do ret (← reGroupText { fields := #[.str (S l) t, pat, rawInt pos, rawInt lim, rawInt li, .ref q], spans := sp.toArray } g.toNat .none)) (fun fin s' => ∃ v, fin = .done (.ret v) ∧ R (.ok (.ret v)) s') (fun e s' => R (.error e) s') s := by
      refine wpAny_bind (wp_gtext (t := t) rfl hl (fun hc => ?_) (fun h1 h2 => ?_))
      · rw [e0, e1] at hc; exact wpAny_pure ⟨_, rfl, h hc⟩
      · rw [e0] at h1; rw [e1] at h2; rw [e0, e1]; exact wpAny_pure ⟨_, rfl, h' h1 h2⟩
    unfold reGroupNumber
    wp_walk
    have hlt := (List.getElem?_eq_some_iff.mp hb).1
    rw [if_neg (by rw [Bool.or_eq_true, decide_eq_true_eq, decide_eq_true_eq, List.size_toArray]; omega)]
    exact wpAny_pure fin
set_option maxHeartbeats 4000000 in
theorem meets_groups (p : Addr) (l : List Nat) (x y a b c d : Int) (ha : 0 ≤ a) (hb : 0 ≤ b) (hc : 0 ≤ c) (hd : 0 ≤ d) (hl : l.length ≤ 1000000) : Meets (Builtin.«re.Match.groups» ⟨[.ref p], []⟩) (fun _ R s => IsMt s.heap p l [x, y, a, b, c, d] ∧
    R (.ok (.ret (.ref s.heap.objs.size))) { s with toks := s.toks + 1 + 1, heap := s.heap.push { cls := .type "tuple", data := .seq #[.str (S ((l.take b.toNat).drop a.toNat)) s.toks, .str (S ((l.take d.toNat).drop c.toNat)) (s.toks + 1)] } }) :=
  .of_wp fun prog w A R s ⟨hm, h⟩ => by
    unfold Builtin.«re.Match.groups»
    wp_walk using wp_found hm
    intro t pat pos lim li q
    wp_walk
    refine wpAny_eq (y := (do
      let u ← reGroupText { fields := #[.str (S l) t, pat, rawInt pos, rawInt lim, rawInt li, .ref q], spans := [x, y, a, b, c, d].toArray } 1 .none
      let v ← reGroupText { fields := #[.str (S l) t, pat, rawInt pos, rawInt lim, rawInt li, .ref q], spans := [x, y, a, b, c, d].toArray } 2 .none
      pure [u, v])) (by kernel_rfl) ?_
    refine wpAny_bind (wp_gtext (t := t) rfl hl (fun hc' => ?_) (fun _ _ => ?_))
    · have e0 : [x, y, a, b, c, d].getD (2 * 1) (-1) = a := rfl
      have e1 : [x, y, a, b, c, d].getD (2 * 1 + 1) (-1) = b := rfl
      rw [e0, e1] at hc'; omega
    refine wpAny_bind (wp_gtext (t := t) rfl hl (fun hc' => ?_) (fun _ _ => ?_))
    · have e0 : [x, y, a, b, c, d].getD (2 * 2) (-1) = c := rfl
      have e1 : [x, y, a, b, c, d].getD (2 * 2 + 1) (-1) = d := rfl
      rw [e0, e1] at hc'; omega
    refine wpAny_pure ?_
    refine wpAny_bind (wpAny_newTuple ?_ (by show 2 ≤ _; decide))
    exact wpAny_pure ⟨_, rfl, h⟩
theorem slot_mt_end : Slot "re.Match" "end" "re.Match.end" :=
  .of (owner := "re.Match") (n := "end") (by rw [typeLookup_type, builtinLookup_eq_fast]; kernel_rfl) (by decide +kernel) (by decide +kernel) (by decide +kernel)
    (by first | exact .inl (by decide +kernel) | exact .inr (by decide +kernel)) (by rw [isSubtype_type]; kernel_rfl)
theorem entry_mt_end : entryFor table "re.Match.end" = some Builtin.«re.Match.end» := entryFor_of_tree (by kernel_rfl)
theorem args_mt_end1 (a : Value) : argsOk "re.Match.end" ⟨[a], []⟩ := by unfold argsOk; kernel_rfl
theorem type_mt_end : typeOf (.builtin "re.Match.end") = pure (.type "method_descriptor") := by show builtinType _ = _; rw [builtinType_eq_fast]; kernel_rfl
theorem slot_mt_start : Slot "re.Match" "start" "re.Match.start" :=
  .of (owner := "re.Match") (n := "start") (by rw [typeLookup_type, builtinLookup_eq_fast]; kernel_rfl) (by decide +kernel) (by decide +kernel) (by decide +kernel)
    (by first | exact .inl (by decide +kernel) | exact .inr (by decide +kernel)) (by rw [isSubtype_type]; kernel_rfl)
theorem entry_mt_start : entryFor table "re.Match.start" = some Builtin.«re.Match.start» := entryFor_of_tree (by kernel_rfl)
theorem args_mt_start1 (a : Value) : argsOk "re.Match.start" ⟨[a], []⟩ := by unfold argsOk; kernel_rfl
theorem type_mt_start : typeOf (.builtin "re.Match.start") = pure (.type "method_descriptor") := by show builtinType _ = _; rw [builtinType_eq_fast]; kernel_rfl
theorem slot_mt_group : Slot "re.Match" "group" "re.Match.group" :=
  .of (owner := "re.Match") (n := "group") (by rw [typeLookup_type, builtinLookup_eq_fast]; kernel_rfl) (by decide +kernel) (by decide +kernel) (by decide +kernel)
    (by first | exact .inl (by decide +kernel) | exact .inr (by decide +kernel)) (by rw [isSubtype_type]; kernel_rfl)
theorem entry_mt_group : entryFor table "re.Match.group" = some Builtin.«re.Match.group» := entryFor_of_tree (by kernel_rfl)
theorem args_mt_group1 (a : Value) : argsOk "re.Match.group" ⟨[a], []⟩ := by unfold argsOk; kernel_rfl
theorem type_mt_group : typeOf (.builtin "re.Match.group") = pure (.type "method_descriptor") := by show builtinType _ = _; rw [builtinType_eq_fast]; kernel_rfl
theorem slot_mt_groups : Slot "re.Match" "groups" "re.Match.groups" :=
  .of (owner := "re.Match") (n := "groups") (by rw [typeLookup_type, builtinLookup_eq_fast]; kernel_rfl) (by decide +kernel) (by decide +kernel) (by decide +kernel)
    (by first | exact .inl (by decide +kernel) | exact .inr (by decide +kernel)) (by rw [isSubtype_type]; kernel_rfl)
theorem entry_mt_groups : entryFor table "re.Match.groups" = some Builtin.«re.Match.groups» := entryFor_of_tree (by kernel_rfl)
theorem args_mt_groups1 (a : Value) : argsOk "re.Match.groups" ⟨[a], []⟩ := by unfold argsOk; kernel_rfl
theorem type_mt_groups : typeOf (.builtin "re.Match.groups") = pure (.type "method_descriptor") := by show builtinType _ = _; rw [builtinType_eq_fast]; kernel_rfl
theorem args_mt_group2 (a b : Value) : argsOk "re.Match.group" ⟨[a, b], []⟩ := by unfold argsOk; kernel_rfl
theorem IsMt.ty {p : Addr} {l : List Nat} {sp : List Int} (x : IsMt s.heap p l sp) : s.TypeIs (.ref p) "re.Match" := x.typeIs
theorem m_end (I : Inv prog w F σ lo ah s) {l : List Nat} {sp : List Int} {b : Int} {v : Value} {k : KA} (r : VR σ s.heap (.mt l sp) v) (hb : sp[1]? = some b) (q : k (.int b) ah) : Op prog w F σ lo s (call (.builtin "re.Match.end") [v]) k := by
  obtain ⟨p, rfl, m⟩ := vr_mt_inv r
  refine call_meets slot_mt_end m.ty entry_mt_end (args_mt_end1 _) (meets_end p l sp) ⟨m, fun ht => ?_⟩
  have e : sp.getD 1 (-1) = b := by simp [List.getD_eq_getElem?_getD, hb]
  rw [e]; exact Op.val I vr_int q ht
theorem m_start (I : Inv prog w F σ lo ah s) {l : List Nat} {sp : List Int} {b : Int} {v : Value} {k : KA} (r : VR σ s.heap (.mt l sp) v) (hb : sp[0]? = some b) (q : k (.int b) ah) : Op prog w F σ lo s (call (.builtin "re.Match.start") [v]) k := by
  obtain ⟨p, rfl, m⟩ := vr_mt_inv r
  refine call_meets slot_mt_start m.ty entry_mt_start (args_mt_start1 _) (meets_start p l sp) ⟨m, fun ht => ?_⟩
  have e : sp.getD 0 (-1) = b := by simp [List.getD_eq_getElem?_getD, hb]
  rw [e]; exact Op.val I vr_int q ht
theorem m_group0 (I : Inv prog w F σ lo ah s) {l : List Nat} {sp : List Int} {a b : Int} {v : Value} {k : KA} (r : VR σ s.heap (.mt l sp) v) (ha : sp[0]? = some a) (hb : sp[1]? = some b) (h0 : 0 ≤ a) (h1 : 0 ≤ b) (hl : l.length ≤ 1000000)
    (q : k (.str ((l.take b.toNat).drop a.toNat)) ah) : Op prog w F σ lo s (call (.builtin "re.Match.group") [v]) k := by
  obtain ⟨p, rfl, m⟩ := vr_mt_inv r
  exact call_meets slot_mt_group m.ty entry_mt_group (args_mt_group1 _) (meets_group0 p l sp a b ha hb h0 h1 hl) ⟨m, fun ht => Op.val I vr_str q ht⟩
theorem m_group1 (I : Inv prog w F σ lo ah s) {l : List Nat} {sp : List Int} {a b g : Int} {v u : Value} {k : KA} (r : VR σ s.heap (.mt l sp) v) (r' : VR σ s.heap (.int g) u) (hg : 0 ≤ g) (hg' : g ≤ 10) (ha : sp[2 * g.toNat]? = some a) (hb : sp[2 * g.toNat + 1]? = some b) (hl : l.length ≤ 1000000)
    (q : k (if a < 0 ∨ b < 0 then .none else .str ((l.take b.toNat).drop a.toNat)) ah) : Op prog w F σ lo s (call (.builtin "re.Match.group") [v, u]) k := by
  obtain ⟨p, rfl, m⟩ := vr_mt_inv r; obtain ⟨t, rfl⟩ := vr_int_inv r'
  refine call_meets slot_mt_group m.ty entry_mt_group (args_mt_group2 _ _) (meets_group1 p l sp a b g t hg hg' ha hb hl) ⟨m, fun hc ht => ?_, fun h1 h2 ht => ?_⟩
  · rw [if_pos hc] at q; exact Op.here I vr_none q
  · rw [if_neg (by omega)] at q; exact Op.val I vr_str q ht
theorem m_groups (I : Inv prog w F σ lo ah s) {l : List Nat} {x y a b c d : Int} {v : Value} {k : KA} (r : VR σ s.heap (.mt l [x, y, a, b, c, d]) v) (ha : 0 ≤ a) (hb : 0 ≤ b) (hc : 0 ≤ c) (hd : 0 ≤ d) (hl : l.length ≤ 1000000)
    (q : k (.tup [.str ((l.take b.toNat).drop a.toNat), .str ((l.take d.toNat).drop c.toNat)]) ah) : Op prog w F σ lo s (call (.builtin "re.Match.groups") [v]) k := by
  obtain ⟨p, rfl, m⟩ := vr_mt_inv r
  exact call_meets slot_mt_groups m.ty entry_mt_groups (args_mt_groups1 _) (meets_groups p l x y a b c d ha hb hc hd hl) ⟨m, fun ht => Op.grow I (fun _ _ e => Heap.get?_push_of_some _ e) (vr_tup ⟨_, Heap.get?_push_size _ rfl⟩ (.cons vr_str (.cons vr_str .nil))) q ht⟩
end Mine
end
section
open PySem PySem.Spec PySem.Calls PyProof.Rows PySem.W PySem.Builtin PySem.Builtin.Re
set_option maxRecDepth 100000
namespace Mine
variable {prog : Program} {w : World} {H : Heap} {s : Shared} {F : FC} {σ : List Addr} {lo : Lo} {ah : AH}
theorem plainAttrs_pat : PlainAttrs "re.Pattern" :=
  ⟨⟨"object.__getattribute__", by rw [typeLookup_type, builtinLookup_eq_fast]; kernel_rfl, by decide +kernel⟩, by rw [typeLookup_type, builtinLookup_eq_fast]; kernel_rfl⟩
theorem plainAttrs_mt : PlainAttrs "re.Match" :=
  ⟨⟨"object.__getattribute__", by rw [typeLookup_type, builtinLookup_eq_fast]; kernel_rfl, by decide +kernel⟩, by rw [typeLookup_type, builtinLookup_eq_fast]; kernel_rfl⟩
theorem patC_is {a : Addr} (h : isPat a = true) : ∃ code g, patC a = some (code, g) := by
  unfold isPat at h
  simp at h
  rcases h with rfl | rfl | rfl | rfl | rfl | rfl <;> exact ⟨_, _, rfl⟩
/-- the patterns stand in the base -/
structure Pats (H : Heap) : Prop where
  at_ : ∀ a code g, patC a = some (code, g) → PatAt H a code g
theorem Pats.now (P : Pats H) (OK : FOk H F) (B : Base prog w H) (I : Inv prog w F σ lo ah s) {a : Addr} {code : Array Nat} {g : Nat} (h : patC a = some (code, g)) : PatAt s.heap a code g := by
  obtain ⟨ps, t, fl, ca, n, e1, e2⟩ := P.at_ a code g h
  refine ⟨ps, t, fl, ca, n, I.old OK e1 ?_ ?_, I.oldFrz OK B _ _ e2 rfl⟩
  · rintro rfl; cases h
  · rintro rfl; cases h
structure Recv (s : Shared) (v : Value) (m : M) (T id : String) : Prop where
  ty : s.TypeIs v T
  nd : ∀ a, v = .ref a → ∃ ob, s.heap.get? a = some ob ∧ ob.dict = none
  pa : PlainAttrs T
  slot : Slot T m.s id
  kind : typeOf (.builtin id) = pure (.type "method_descriptor")
theorem rcv_ok (P : Pats H) (OK : FOk H F) (B : Base prog w H) (I : Inv prog w F σ lo ah s) {x : AV} {m : M} {v : Value} {T id : String} (h : rcv x m ah = some (T, id)) (r : VR σ s.heap x v) : Recv s v m T id := by
  unfold rcv at h
  split at h <;> first | (cases h; done) | skip
  · cases h; obtain ⟨t, rfl⟩ := vr_str_inv r; exact ⟨typeIs_str _ _ _, (fun _ e => nomatch e), PySem.F.plainAttrs_str, PySem.F.slot_str_lower, PySem.F.type_str_lower⟩
  · cases h; obtain ⟨t, rfl⟩ := vr_str_inv r; exact ⟨typeIs_str _ _ _, (fun _ e => nomatch e), PySem.F.plainAttrs_str, PySem.F.slot_str_upper, PySem.F.type_str_upper⟩
  · cases h; obtain ⟨t, rfl⟩ := vr_str_inv r; exact ⟨typeIs_str _ _ _, (fun _ e => nomatch e), PySem.F.plainAttrs_str, PySem.F.slot_str_strip, PySem.F.type_str_strip⟩
  · cases h; obtain ⟨t, rfl⟩ := vr_str_inv r; exact ⟨typeIs_str _ _ _, (fun _ e => nomatch e), PySem.F.plainAttrs_str, PySem.F.slot_str_startswith, PySem.F.type_str_startswith⟩
  · cases h; obtain ⟨t, rfl⟩ := vr_str_inv r; exact ⟨typeIs_str _ _ _, (fun _ e => nomatch e), PySem.F.plainAttrs_str, PySem.F.slot_str_endswith, PySem.F.type_str_endswith⟩
  · cases h; obtain ⟨t, rfl⟩ := vr_str_inv r; exact ⟨typeIs_str _ _ _, (fun _ e => nomatch e), PySem.F.plainAttrs_str, PySem.F.slot_str_join, PySem.F.type_str_join⟩
  · cases h; obtain ⟨t, rfl⟩ := vr_str_inv r; exact ⟨typeIs_str _ _ _, (fun _ e => nomatch e), PySem.F.plainAttrs_str, PySem.F.slot_str_partition, PySem.F.type_str_partition⟩
  · cases h; obtain ⟨t, rfl⟩ := vr_bytes_inv r; exact ⟨typeIs_bytes _ _ _, (fun _ e => nomatch e), FB.plainAttrs_bytes, FB.slot_bytes_decode, FB.type_bytes_decode⟩
  · split at h
    · rename_i e; cases h
      obtain ⟨p, vs, n, _, rfl, hp, _⟩ := I.list e r
      exact ⟨⟨_, hp, rfl⟩, fun a e => by cases e; exact ⟨_, hp, rfl⟩, PySem.F.plainAttrs_list, PySem.F.slot_list_append, PySem.F.type_list_append⟩
    · cases h
  · split at h
    · rename_i e; cases h
      obtain ⟨p, kvs, _, rfl, hp, _⟩ := I.dict e r
      exact ⟨hp.typeIs, fun a e => by cases e; obtain ⟨o, es, ep, ho, hx, _⟩ := hp; exact ⟨o, ho, hx.2.1⟩, PySem.F.plainAttrs_dict, PySem.F.slot_dict_get, PySem.F.type_dict_get⟩
    · cases h
  · split at h
    · rename_i hp; cases h
      obtain ⟨code, g, e⟩ := patC_is hp
      have hq := P.now OK B I e
      rw [vr_con_inv r]
      obtain ⟨_, _, _, _, _, e1, _⟩ := id hq
      exact ⟨hq.typeIs, fun a e => by cases e; exact ⟨_, e1, rfl⟩, plainAttrs_pat, slot_match, type_match⟩
    · cases h
  · split at h
    · rename_i hp; cases h
      obtain ⟨code, g, e⟩ := patC_is hp
      have hq := P.now OK B I e
      rw [vr_con_inv r]
      obtain ⟨_, _, _, _, _, e1, _⟩ := id hq
      exact ⟨hq.typeIs, fun a e => by cases e; exact ⟨_, e1, rfl⟩, plainAttrs_pat, slot_search, type_search⟩
    · cases h
  · cases h; obtain ⟨p, rfl, m⟩ := vr_mt_inv r; exact ⟨m.typeIs, (fun a e => by cases e; obtain ⟨_, _, _, _, _, _, e1, _⟩ := m; exact ⟨_, e1, rfl⟩), plainAttrs_mt, slot_mt_group, type_mt_group⟩
  · cases h; obtain ⟨p, rfl, m⟩ := vr_mt_inv r; exact ⟨m.typeIs, (fun a e => by cases e; obtain ⟨_, _, _, _, _, _, e1, _⟩ := m; exact ⟨_, e1, rfl⟩), plainAttrs_mt, slot_mt_end, type_mt_end⟩
  · cases h; obtain ⟨p, rfl, m⟩ := vr_mt_inv r; exact ⟨m.typeIs, (fun a e => by cases e; obtain ⟨_, _, _, _, _, _, e1, _⟩ := m; exact ⟨_, e1, rfl⟩), plainAttrs_mt, slot_mt_start, type_mt_start⟩
  · cases h; obtain ⟨p, rfl, m⟩ := vr_mt_inv r; exact ⟨m.typeIs, (fun a e => by cases e; obtain ⟨_, _, _, _, _, _, e1, _⟩ := m; exact ⟨_, e1, rfl⟩), plainAttrs_mt, slot_mt_groups, type_mt_groups⟩
/-- the method's call -/
theorem op_meth (P : Pats H) (OK : FOk H F) (B : Base prog w H) (I : Inv prog w F σ lo ah s) {x : AV} {m : M} {xs : List AV} {v : Value} {vs : List Value} {T id : String} {k : KA} (hr : rcv x m ah = some (T, id)) (r : VR σ s.heap x v) (rs : VRs σ s.heap xs vs)
    (h : aMeth x m xs ah k) : Op prog w F σ lo s (call (.builtin id) (v :: vs)) k := by
  unfold aMeth at h
  split at h
  · cases hr; rw [rs.nil_inv]; exact m_lower I r h.1 h.2.1 h.2.2
  · cases hr; rw [rs.nil_inv]; exact m_upper I r h.1 h.2.1 h.2.2
  · cases hr; obtain ⟨u, _, rfl, r1, r2⟩ := rs.cons_inv; rw [r2.nil_inv]; exact m_strip I r r1 h.1 h.2
  · cases hr; obtain ⟨u, _, rfl, r1, r2⟩ := rs.cons_inv; rw [r2.nil_inv]; exact m_starts I r r1 h
  · cases hr; obtain ⟨u, _, rfl, r1, r2⟩ := rs.cons_inv; obtain ⟨u', _, rfl, r3, r4⟩ := r2.cons_inv; rw [r4.nil_inv]; exact m_startsP I r r1 r3 h.1 h.2.2.2
  · cases hr; obtain ⟨u, _, rfl, r1, r2⟩ := rs.cons_inv; obtain ⟨u', _, rfl, r3, r4⟩ := r2.cons_inv; rw [r4.nil_inv]; exact m_starts2 I r r1 r3 h.1 h.2.2.2
  · cases hr; obtain ⟨u, _, rfl, r1, r2⟩ := rs.cons_inv; rw [r2.nil_inv]; exact m_ends I r r1 h
  · cases hr; obtain ⟨u, _, rfl, r1, r2⟩ := rs.cons_inv; rw [r2.nil_inv]; obtain ⟨xs, ts, e1, e2, hl, q⟩ := h; exact m_join I r r1 e1 e2 hl q
  · cases hr; obtain ⟨u, _, rfl, r1, r2⟩ := rs.cons_inv; rw [r2.nil_inv]; exact m_partition I r r1 h.1 h.2.1 h.2.2
  · cases hr; obtain ⟨u, _, rfl, r1, r2⟩ := rs.cons_inv; obtain ⟨u', _, rfl, r3, r4⟩ := r2.cons_inv; rw [r4.nil_inv]; obtain ⟨he, hl, l, hd, q⟩ := h; exact m_decode I r r1 r3 he hl hd q
  · cases hr; obtain ⟨u, _, rfl, r1, r2⟩ := rs.cons_inv; rw [r2.nil_inv]; exact m_decode1 I r r1 h.1 h.2.1 h.2.2
  · obtain ⟨ys, e, hl, q⟩ := h
    obtain ⟨u, _, rfl, r1, r2⟩ := rs.cons_inv; rw [r2.nil_inv]
    simp only [rcv, e, Option.some.injEq, Prod.mk.injEq] at hr; obtain ⟨rfl, rfl⟩ := hr
    exact m_append I r r1 e hl q
  · obtain ⟨es, ep, e, q⟩ := h
    obtain ⟨u, _, rfl, r1, r2⟩ := rs.cons_inv; rw [r2.nil_inv]
    simp only [rcv, e, Option.some.injEq, Prod.mk.injEq] at hr; obtain ⟨rfl, rfl⟩ := hr
    exact m_get OK B I r r1 e q
  · rename_i a l
    obtain ⟨hl, hm⟩ := h
    obtain ⟨u, _, rfl, r1, r2⟩ := rs.cons_inv; rw [r2.nil_inv, vr_con_inv r]
    have := m_re0 I (fun code g e => P.now OK B I e) r1 hl hm
    simp only [rcv] at hr
    cases m <;> simp only [reduceCtorEq] at hr <;> split at hr <;> cases hr <;> exact this
  · rename_i a l p
    obtain ⟨hl, h0, h1, hm⟩ := h
    obtain ⟨u, _, rfl, r1, r2⟩ := rs.cons_inv; obtain ⟨u', _, rfl, r3, r4⟩ := r2.cons_inv; rw [r4.nil_inv, vr_con_inv r]
    have := m_re1 I (fun code g e => P.now OK B I e) r1 r3 hl h0 h1 hm
    simp only [rcv] at hr
    cases m <;> simp only [reduceCtorEq] at hr <;> split at hr <;> cases hr <;> exact this
  · cases hr; rw [rs.nil_inv]; obtain ⟨a, b, e1, e2, h0, h1, hl, q⟩ := h; exact m_group0 I r e1 e2 h0 h1 hl q
  · cases hr; obtain ⟨u, _, rfl, r1, r2⟩ := rs.cons_inv; rw [r2.nil_inv]; obtain ⟨h0, h1, a, b, e1, e2, hl, q⟩ := h; exact m_group1 I r r1 h0 h1 e1 e2 hl q
  · cases hr; rw [rs.nil_inv]; obtain ⟨b, e1, q⟩ := h; exact m_end I r e1 q
  · cases hr; rw [rs.nil_inv]; obtain ⟨b, e1, q⟩ := h; exact m_start I r e1 q
  · cases hr; rw [rs.nil_inv]; obtain ⟨ha, hb, hc, hd, hl, q⟩ := h; exact m_groups I r ha hb hc hd hl q
  · exact h.elim
end Mine
end
section
open PySem PySem.Spec PySem.Calls PyProof.Rows PySem.W PySem.Builtin
set_option maxRecDepth 100000
namespace Mine
variable {prog : Program} {w : World} {H : Heap} {s : Shared} {F : FC} {σ : List Addr} {lo : Lo} {ah : AH}

/-- an operation is done: the tokens rise -/
theorem Op.fin {t : Sem Value} {k : KA} {σ σ₂ : List Addr} {s s₂ : Shared} {lo₂ : Lo} {ah₂ : AH} (I : Inv prog w F σ₂ lo₂ ah₂ s₂) (p : σ <+: σ₂) (f : Frz s.heap s₂.heap) (o : Op prog w F σ₂ lo₂ s₂ t k) {K : AV → Lo → AH → Prop} (hK : ∀ z ah, k z ah → K z lo₂ ah) :
    wpAny (model prog w) F.A t (Post prog w F σ s.heap K) Nev s₂ :=
  wpAny_mono (wpAny_with_toks (Q := Post prog w F σ₂ s₂.heap (fun av lo' ah' => lo' = lo₂ ∧ k av ah')) (E := Nev) I.tk (wpAny_mono o (fun _ _ y => y) fun _ _ y => y.elim))
    (fun a s' ⟨σ', lo', ah', b, I', p', f', r, e, q⟩ => ⟨σ', lo', ah', b, I', p.trans p', f.trans f', r, e ▸ hK b ah' q⟩) fun _ _ y => y
/-- every slot that is a cell is the frame's own -/
def StOk (F : FC) : Prop := ∀ (i : Nat) (name : Str) (c : Addr), F.slots[i]? = some (name, some c) → F.env.kindOf name = some .cell
theorem cell_unique : ∀ (sl : List (Str × Option Addr)), (sl.filterMap (·.2)).Nodup → ∀ (i j : Nat) (n m : Str) (c : Addr), sl[i]? = some (n, some c) → sl[j]? = some (m, some c) → i = j
  | [], _, _, _, _, _, _, h, _ => by cases h
  | (x, o) :: r, hn, i, j, n, m, c, h1, h2 => by
    have hr : (r.filterMap (·.2)).Nodup := by
      cases o with
      | none => simpa using hn
      | some a => exact (List.nodup_cons.mp (show (a :: r.filterMap (·.2)).Nodup from hn)).2
    have hc : ∀ (k : Nat) (m : Str), r[k]? = some (m, some c) → o = some c → False := by
      intro k m hk ho
      subst ho
      exact (List.nodup_cons.mp (show (c :: r.filterMap (·.2)).Nodup from hn)).1 (List.mem_filterMap.mpr ⟨(m, some c), List.mem_of_getElem? hk, rfl⟩)
    cases i with
    | zero =>
      cases j with
      | zero => rfl
      | succ j =>
        have e : o = some c := by simp at h1; exact h1.2
        exact (hc j m (by simpa using h2) e).elim
    | succ i =>
      cases j with
      | zero =>
        have e : o = some c := by simp at h2; exact h2.2
        exact (hc i n (by simpa using h1) e).elim
      | succ j => rw [cell_unique r hr i j n m c (by simpa using h1) (by simpa using h2)]
/-- a name is bound -/
theorem st_loc (OK : FOk H F) (ST : StOk F) (I : Inv prog w F σ lo ah s) {i : Nat} (hi : i < lo.length) {av : AV} {v : Value} (r : VR σ s.heap av v) {Q : Unit → Shared → Prop}
    (h : ∀ s', Inv prog w F σ (setL lo i av) ah s' → Frz s.heap s'.heap → Q () s') : wpAny (model prog w) F.A (storeName F.env (F.nm i) v) Q Nev s := by
  have hl : i < F.slots.length := by rw [← I.llen]; exact hi
  obtain ⟨⟨name, c⟩, e⟩ : ∃ x, F.slots[i]? = some x := ⟨_, List.getElem?_eq_getElem hl⟩
  rw [FC.nm_of e]
  cases c with
  | none =>
    obtain ⟨m, hns, _⟩ := I.loc
    have key : wpAny (model prog w) F.A (storeName F.env name v) (fun u s' => 1 ≤ s'.toks → Q u s') Nev s :=
      wpAny_storeName_local (OK.sl i _ e) hns (fun h' hm hs ht => h _ (I.setLocal OK.nd e (fun m' hns' => by
        have : m' = m := by
          obtain ⟨o, es, ep, ho, hx, r1⟩ := hns
          obtain ⟨o', es', ep', ho', hx', r2⟩ := hns'
          rw [ho] at ho'; cases ho'
          rw [hx] at hx'; cases hx'
          funext x
          rw [← r1.2 x, ← r2.2 x]
        rw [this]; exact hm) hs r ht) (I.frz mem_locals hs.extBut)) (by rw [OK.kind]; rfl)
    exact wpAny_mono (wpAny_with_toks (Q := Q) (E := Nev) I.tk (wpAny_mono key (fun _ _ y => y) fun _ _ y => y.elim)) (fun _ _ y => y) fun _ _ y => y
  | some c =>
    obtain ⟨v0, hc⟩ := I.cl c (mem_cell e)
    refine wpAny_storeName_cell OK.kind (ST i _ c e) (OK.sc i _ c e).2 hc (fun h' hc' hs => ?_)
    exact h _ (I.setCell e (fun j nm hj => cell_unique F.slots OK.cnd j i nm name c hj e) hc' hs.extBut r I.tk) (I.frz (mem_cells (mem_cell e)) hs.extBut)
end Mine
end
section
open PySem PySem.Spec PySem.Calls PyProof.Rows PySem.W PySem.Builtin
set_option maxRecDepth 100000
namespace Mine
variable {prog : Program} {w : World} {H : Heap} {s : Shared} {F : FC} {σ : List Addr} {lo : Lo} {ah : AH} {sx : Nat → PySem.Expr}

structure SpOk (prog : Program) (w : World) (sx : Nat → PySem.Expr) (F : FC) (n : Nat) : Prop where
  val : ∀ lo ah (k : KA), aSp lo ah k n → WE prog w F (eval (sx n) F.env) lo ah (fun v lo' ah' => lo' = lo ∧ k v ah')
  swap : ∀ t l, swapsWith (sx n) t l F.env = pure false
  tru : ∀ lo ah (k : Bool → Lo → AH → Prop), aSp lo ah (fun v ah => Mine.tru v fun b => k b lo ah) n → WB prog w F (isTrue (sx n) F.env (eval (sx n) F.env)) lo ah k
/-- an own function keeps its contract -/
def UOk (prog : Program) (w : World) (H : Heap) (f : UF) : Prop := ∀ (F : FC) (σ : List Addr) (lo : Lo) (ah : AH) (s : Shared), FOk H F → f.lev ≤ F.lv → Inv prog w F σ lo ah s → ∀ (xs : List AV) (vs : List Value) (k : KA), aU f xs ah k → VRs σ s.heap xs vs →
  Op prog w F σ lo s (call (.ref f.a) vs) k
/-- the one that is called by a name -/
def UOkK (prog : Program) (w : World) (H : Heap) : Prop := ∀ (F : FC) (σ : List Addr) (lo : Lo) (ah : AH) (s : Shared), FOk H F → UF.unquote.lev ≤ F.lv → Inv prog w F σ lo ah s → ∀ (x y : AV) (v u : Value) (k : KA), aU .unquote [x, y] ah k → VR σ s.heap x v → VR σ s.heap y u →
  Op prog w F σ lo s (call (.ref UF.unquote.a) [v] [("encoding", u)]) k
/-- two pairs are compared -/
def PairOk (prog : Program) (w : World) (H : Heap) : Prop := ∀ (F : FC) (σ : List Addr) (lo : Lo) (ah : AH) (s : Shared), FOk H F → Inv prog w F σ lo ah s → ∀ a i b j es fs ep eq xs ys (u v : Value), getO ah i = some (.dict es ep) → getO ah j = some (.dict fs eq) → valsOf es = some xs → valsOf fs = some ys → es.length ≤ 1000 → fs.length ≤ 1000 → a = b → dEq xs ys = true →
  VR σ s.heap (.tup [.str a, .ref i]) u → VR σ s.heap (.tup [.str b, .ref j]) v → Cm prog w F s (compareOp .Eq u v) (fun z => z = true)
/-- the same frame, more objects kept -/
def FC.setPr (F : FC) (p : Addr → Obj → Prop) : FC := { F with pr := p }
structure Ctx (prog : Program) (w : World) (H : Heap) (sx : Nat → PySem.Expr) (F : FC) (P : Nat → Bool) : Prop where
  ok : FOk H F
  base : Base prog w H
  pats : Pats H
  st : StOk F
  fn : ∀ f : UF, ∃ o fd, H.get? f.a = some o ∧ o.data = .func fd
  u : ∀ f : UF, f.lev ≤ F.lv → UOk prog w H f
  uk : UF.unquote.lev ≤ F.lv → UOkK prog w H
  sp : ∀ n, P n = true → ∀ p, (∀ b o, F.pr b o → p b o) → SpOk prog w sx (F.setPr p) n
  pair : PairOk prog w H

theorem FOk.setPr (OK : FOk H F) {p : Addr → Obj → Prop} (h : ∀ b o, F.pr b o → p b o) : FOk H (F.setPr p) :=
  ⟨OK.kind, OK.glo, OK.bui, OK.sl, OK.sc, OK.nd, OK.ndb, OK.cnd, fun b o e h1 h2 => h b o (OK.base b o e h1 h2), OK.depth, OK.units, OK.hand, OK.guards⟩
theorem Ctx.sp1 {P : Nat → Bool} (C : Ctx prog w H sx F P) {n : Nat} (h : P n = true) : SpOk prog w sx F n := C.sp n h F.pr fun _ _ h => h
theorem Ctx.setPr {P : Nat → Bool} (C : Ctx prog w H sx F P) {p : Addr → Obj → Prop} (h : ∀ b o, F.pr b o → p b o) : Ctx prog w H sx (F.setPr p) P :=
  ⟨C.ok.setPr h, C.base, C.pats, C.st, C.fn, C.u, C.uk, fun n hn p' h' => C.sp n hn p' fun b o x => h' b o (h b o x), C.pair⟩
theorem Inv.addPr (I : Inv prog w F σ lo ah s) {it : Addr} {o : Obj} (hn : it ∉ F.mut σ) (ho : s.heap.get? it = some o) : Inv prog w (F.setPr fun b o' => F.pr b o' ∨ (b = it ∧ o' = o)) σ lo ah s :=
  ⟨I.loc, I.llen, I.len, I.nd, I.there, I.ob, fun b o' h => by
    rcases h with h | ⟨rfl, rfl⟩
    · exact I.pr b o' h
    · exact ⟨ho, hn⟩, I.tabs, I.gens, I.os, I.tk, I.cl⟩
theorem Inv.dropPr {p : Addr → Obj → Prop} (I : Inv prog w (F.setPr p) σ lo ah s) (h : ∀ b o, F.pr b o → p b o) : Inv prog w F σ lo ah s :=
  ⟨I.loc, I.llen, I.len, I.nd, I.there, I.ob, fun b o x => I.pr b o (h b o x), I.tabs, I.gens, I.os, I.tk, I.cl⟩
/-! ### the side check -/
def UF.isUnq : UF → Bool
  | .unquote => true | _ => false
theorem UF.isUnq_eq {f : UF} (h : f.isUnq = true) : f = .unquote := by cases f <;> first | rfl | exact Bool.noConfusion h
def okBase : CE → Bool
  | .call .. => false | .ucall _ (.cons _ _) _ _ => true | .ucall _ .nil _ _ => false | .ucallK .. => false | .bytes1 .. => false | .sorted2 .. => false | .sp .. => false
  | _ => true
def argOk : CE → Bool
  | .sp _ => false
  | _ => true
def celLen : CEL → Nat
  | .nil => 0
  | .cons _ r => celLen r + 1
section
variable (kd : Str → Bool) (P : Nat → Bool) (lv : Nat) (nm : Nat → Str) (sx : Nat → PySem.Expr)
mutual
def chk : CE → Bool
  | .loc _ _ => true
  | .glob g _ => kd g.s
  | .cnone .. => true | .cbool .. => true | .cint .. => true | .cstr .. => true | .cbytes .. => true
  | .bin a _ b _ => chk a && chk b
  | .cmp a op b _ => chk a && chk b && !behindInMarks op (toE nm sx b)
  | .not a _ => chk a
  | .bop _ xs _ => chkL xs
  | .ife t a b _ => chk t && chk a && chk b
  | .idx a i _ => chk a && chk i
  | .slAB a l h _ _ => chk a && chk l && chk h
  | .slA a l _ _ => chk a && chk l
  | .slB a h _ _ => chk a && chk h
  | .call f xs _ _ => kd f.s && chkA xs
  | .ucall f xs _ _ => kd f.s && decide (f.lev ≤ lv) && chkA xs
  | .ucallK f x kw y _ _ _ => kd f.s && f.isUnq && decide (f.lev ≤ lv) && chk x && argOk x && chk y && decide (kw = "encoding")
  | .meth o _ xs pa p => chk o && okBase o && (pa.endLine == p.line) && decide (celLen xs < 20) && chkA xs
  | .wal i e _ _ => !(nm i == Str.empty) && chk e
  | .tup xs _ _ => chkA xs
  | .list xs _ => chkA xs
  | .repl o _ _ _ _ _ _ pa p => chk o && okBase o && (pa.endLine == p.line)
  | .bytes1 e _ _ _ => kd "bytes" && chk e && argOk e
  | .sorted2 a b _ _ _ => kd "sorted" && chk a && argOk a && chk b && argOk b
  | .neNil a _ _ => chk a
  | .dict0 _ => true
  | .fmt e _ => chk e
  | .fstr xs _ => chkL xs
  | .sp n => P n
def chkL : CEL → Bool
  | .nil => true
  | .cons e r => chk e && chkL r
def chkA : CEL → Bool
  | .nil => true
  | .cons e r => chk e && argOk e && chkA r
end
end
theorem star_cons {nm : Nat → Str} {e : CE} (h : argOk e = true) (rest : List PySem.Expr) (env : Env) : starEach (toE nm sx e :: rest) env = (false, eval (toE nm sx e) env) :: starEach rest env := by
  cases e <;> first | rfl | (cases h; done)
theorem base_of {nm : Nat → Str} {e : CE} (h : okBase e = true) (name : Str) (env : Env) (t : Sem Value) : attributeBase (toE nm sx e) name env t = t := by
  cases e <;> first | rfl | (cases h; done) | skip
  rename_i f xs pf p
  cases xs with
  | nil => cases h
  | cons x r => rfl
/-- args, one after the other -/
theorem plainAll {nm : Nat → Str} (pos : Pos) (env : Env) : ∀ (kd : Str → Bool) (P : Nat → Bool) (lv : Nat) (xs : CEL), chkA kd P lv nm sx xs = true → (backTo pos (starEach (toEL nm sx xs) env)).any (·.1) = false
  | _, _, _, .nil, _ => rfl
  | kd, P, lv, .cons e r, h => by
    rw [chkA, Bool.and_eq_true, Bool.and_eq_true] at h
    rw [toEL, star_cons h.1.2]
    show (false || (backTo pos (starEach (toEL nm sx r) env)).any (·.1)) = false
    rw [plainAll pos env kd P lv r h.2]; rfl
theorem few_of {nm : Nat → Str} (pos : Pos) (env : Env) : ∀ (kd : Str → Bool) (P : Nat → Bool) (lv : Nat) (xs : CEL), chkA kd P lv nm sx xs = true → (backTo pos (starEach (toEL nm sx xs) env)).all (fun x => !x.1) = true
  | _, _, _, .nil, _ => rfl
  | kd, P, lv, .cons e r, h => by
    rw [chkA, Bool.and_eq_true, Bool.and_eq_true] at h
    rw [toEL, star_cons h.1.2]
    show (true && (backTo pos (starEach (toEL nm sx r) env)).all (fun x => !x.1)) = true
    rw [few_of pos env kd P lv r h.2]; rfl
theorem celLen_eq {nm : Nat → Str} : ∀ xs : CEL, (toEL nm sx xs).length = celLen xs
  | .nil => rfl
  | .cons e r => by rw [toEL, List.length_cons, celLen_eq r]; rfl
/-- the arguments of a call -/
theorem evalArgs_any {M : Model} {A : Around} {E : Value → Shared → Prop} {f : Value} {nm : Nat → Str} {pos : Pos} {env : Env} {kd : Str → Bool} {P : Nat → Bool} {lv : Nat} {xs : CEL} {Q : Args → Shared → Prop} (hx : chkA kd P lv nm sx xs = true)
    (h : wpAny M A (spliced (backTo pos (starEach (toEL nm sx xs) env))) (fun vs s' => Q ⟨vs, []⟩ s') E s) : wpAny M A (evalArgs f true (backTo pos (starEach (toEL nm sx xs) env)) []) Q E s := by
  cases xs with
  | nil =>
    unfold evalArgs
    show wpAny M A (spliced (backTo pos (starEach (toEL nm sx .nil) env)) >>= _) Q E s
    refine wpAny_bind (wpAny_mono h (fun vs s' h' => ?_) fun _ _ x => x)
    refine wpAny_bind (wpAny_pure (wpAny_holding ?_))
    exact wpAny_bind (wpAny_pure (wpAny_bind (wpAny_pure (wpAny_pure h'))))
  | cons e r =>
    rw [chkA, Bool.and_eq_true, Bool.and_eq_true] at hx
    rw [toEL, star_cons hx.1.2] at h ⊢
    exact evalArgs_plain h
/-- truth by the value -/
def plainT : CE → Bool
  | .not .. => false | .bop .. => false | .ife .. => false | .cmp .. => false | .neNil .. => false | .sp _ => false
  | _ => true
theorem isTrue_val {nm : Nat → Str} {e : CE} (he : plainT e = true) (env : Env) (whole : Sem Value) :
    isTrue (toE nm sx e) env whole = (do let v ← whole; standAt (toE nm sx e).pos; holding [v] (truthy v)) := by
  cases e <;> first | rfl | (cases he; done)
end Mine
end
section
open PySem PySem.Spec PySem.Calls PyProof.Rows PySem.W PySem.Builtin
set_option maxRecDepth 100000
namespace Mine
variable {prog : Program} {w : World} {H : Heap} {s : Shared} {F : FC} {σ : List Addr} {lo : Lo} {ah : AH} {sx : Nat → PySem.Expr} {P : Nat → Bool}

def kdOf (F : FC) (x : Str) : Bool := match F.env.kindOf x with
  | some .globalImplicit => true
  | _ => false
theorem kd_of {x : Str} (h : kdOf F x = true) : F.env.kindOf x = some .globalImplicit := by
  unfold kdOf at h
  split at h
  · assumption
  · cases h
abbrev PE (prog : Program) (w : World) (F : FC) (sx : Nat → PySem.Expr) (e : CE) : Prop := ∀ lo ah k, aE e lo ah k → WE prog w F (eval (toE F.nm sx e) F.env) lo ah k
abbrev PT (prog : Program) (w : World) (F : FC) (sx : Nat → PySem.Expr) (e : CE) : Prop := ∀ lo ah k, aT e lo ah k → WB prog w F (isTrue (toE F.nm sx e) F.env (eval (toE F.nm sx e) F.env)) lo ah k
abbrev PL (prog : Program) (w : World) (F : FC) (sx : Nat → PySem.Expr) (xs : CEL) : Prop := ∀ pos lo ah k, aEL xs lo ah k → WL prog w F (spliced (backTo pos (starEach (toEL F.nm sx xs) F.env))) lo ah k
abbrev PB (prog : Program) (w : World) (F : FC) (sx : Nat → PySem.Expr) (xs : CEL) : Prop := ∀ op pos lo ah k, aBop op xs lo ah k → WE prog w F (boolOp pos op (evalEach (toEL F.nm sx xs) F.env)) lo ah k
abbrev PTL (prog : Program) (w : World) (F : FC) (sx : Nat → PySem.Expr) (xs : CEL) : Prop := ∀ op lo ah k, aTL op xs lo ah k → WB prog w F (allTrue op (toEL F.nm sx xs) F.env) lo ah k

theorem Lk.fin {t : Sem Bool} {k : Bool → Prop} {σ σ₂ : List Addr} {s s₂ : Shared} {lo₂ : Lo} {ah₂ : AH} (I : Inv prog w F σ₂ lo₂ ah₂ s₂) (p : σ <+: σ₂) (f : Frz s.heap s₂.heap) (o : Lk prog w F s₂ t k) {K : Bool → Lo → AH → Prop} (hK : ∀ z, k z → K z lo₂ ah₂) :
    wpAny (model prog w) F.A t (PostR prog w RB F σ s.heap K) Nev s₂ :=
  wpAny_mono (wpAny_with_toks (Q := fun v s' => 1 ≤ s'.toks ∧ (∃ tk, s' = { s₂ with toks := tk }) ∧ k v) (E := Nev) I.tk (wpAny_mono o (fun _ _ y h => ⟨h, y⟩) fun _ _ y => y.elim))
    (fun a s' ⟨ht, ⟨tk, e⟩, q⟩ => by subst e; exact ⟨σ₂, lo₂, ah₂, a, I.tok ht, p, f, rfl, hK a q⟩) fun _ _ y => y
theorem Cm.fin {t : Sem Value} {k : Bool → Prop} {σ σ₂ : List Addr} {s s₂ : Shared} {lo₂ : Lo} {ah₂ : AH} (I : Inv prog w F σ₂ lo₂ ah₂ s₂) (p : σ <+: σ₂) (f : Frz s.heap s₂.heap) (o : Cm prog w F s₂ t k) {K : AV → Lo → AH → Prop} (hK : ∀ z, k z → K (.bool z) lo₂ ah₂) :
    wpAny (model prog w) F.A t (Post prog w F σ s.heap K) Nev s₂ :=
  wpAny_mono (wpAny_with_toks (Q := fun v s' => 1 ≤ s'.toks ∧ (∃ tk, s' = { s₂ with toks := tk }) ∧ ∃ z, v = .bool z ∧ k z) (E := Nev) I.tk (wpAny_mono o (fun _ _ y h => ⟨h, y⟩) fun _ _ y => y.elim))
    (fun a s' ⟨ht, ⟨tk, e⟩, z, e', q⟩ => by subst e; subst e'; exact ⟨σ₂, lo₂, ah₂, .bool z, I.tok ht, p, f, vr_bool, hK z q⟩) fun _ _ y => y
theorem Cm.finT {t : Sem Value} {k : Bool → Prop} {σ σ₂ : List Addr} {s s₂ : Shared} {lo₂ : Lo} {ah₂ : AH} (I : Inv prog w F σ₂ lo₂ ah₂ s₂) (p : σ <+: σ₂) (f : Frz s.heap s₂.heap) (o : Cm prog w F s₂ t k) {K : Bool → Lo → AH → Prop} (hK : ∀ z, k z → K z lo₂ ah₂) :
    wpAny (model prog w) F.A t (fun c s₃ => wpAny (model prog w) F.A (truthy c) (PostR prog w RB F σ s.heap K) Nev s₃) Nev s₂ :=
  wpAny_mono (wpAny_with_toks (Q := fun v s' => 1 ≤ s'.toks ∧ (∃ tk, s' = { s₂ with toks := tk }) ∧ ∃ z, v = .bool z ∧ k z) (E := Nev) I.tk (wpAny_mono o (fun _ _ y h => ⟨h, y⟩) fun _ _ y => y.elim))
    (fun a s' ⟨ht, ⟨tk, e⟩, z, e', q⟩ => by subst e; subst e'; exact wpAny_truthy_bool ⟨σ₂, lo₂, ah₂, z, I.tok ht, p, f, rfl, hK z q⟩) fun _ _ y => y
theorem Vl.fin {t : Sem Value} {k : AV → Prop} {σ σ₂ : List Addr} {s s₂ : Shared} {lo₂ : Lo} {ah₂ : AH} (I : Inv prog w F σ₂ lo₂ ah₂ s₂) (p : σ <+: σ₂) (f : Frz s.heap s₂.heap) (o : Vl prog w F σ₂ s₂ t k) {K : AV → Lo → AH → Prop} (hK : ∀ z, k z → K z lo₂ ah₂) :
    wpAny (model prog w) F.A t (Post prog w F σ s.heap K) Nev s₂ :=
  wpAny_mono (wpAny_with_toks (Q := fun v s' => 1 ≤ s'.toks ∧ (∃ tk, s' = { s₂ with toks := tk }) ∧ ∃ av, VR σ₂ s₂.heap av v ∧ k av) (E := Nev) I.tk (wpAny_mono o (fun _ _ y h => ⟨h, y⟩) fun _ _ y => y.elim))
    (fun a s' ⟨ht, ⟨tk, e⟩, z, r, q⟩ => by subst e; exact ⟨σ₂, lo₂, ah₂, z, I.tok ht, p, f, r, hK z q⟩) fun _ _ y => y

section
variable {C : Ctx prog w H sx F P}
theorem pe_bin {a b : CE} {op : Operator} {p : Pos} (ha : PE prog w F sx a) (hb : PE prog w F sx b) : PE prog w F sx (.bin a op b p) := fun lo ah k h σ s I => by
  simp only [aE] at h
  exact wpAny_BinOp ((ha _ _ _ h).then I fun σ1 s1 lo1 ah1 x va I1 p1 f1 r1 q1 => (hb _ _ _ q1).then I1 fun σ2 s2 lo2 ah2 y vb I2 p2 f2 r2 q2 => Op.fin I2 (p1.trans p2) (f1.trans f2) (op_bin I2 (r1.mono p2 f2) r2 q2) fun z ah h => h)
theorem pair_of (C : Ctx prog w H sx F P) (I : Inv prog w F σ lo ah s) (x y : AV) : ∀ a i b j es fs ep eq xs ys (u v : Value), x = .tup [.str a, .ref i] → y = .tup [.str b, .ref j] → getO ah i = some (.dict es ep) → getO ah j = some (.dict fs eq) → valsOf es = some xs → valsOf fs = some ys → es.length ≤ 1000 → fs.length ≤ 1000 → a = b → dEq xs ys = true → VR σ s.heap x u → VR σ s.heap y v → Cm prog w F s (compareOp .Eq u v) (fun z => z = true) :=
  fun a i b j es fs ep eq xs ys u v e1 e2 h1 h2 h3 h4 h5 h6 h7 h8 r1 r2 => C.pair F σ lo ah s C.ok I a i b j es fs ep eq xs ys u v h1 h2 h3 h4 h5 h6 h7 h8 (e1 ▸ r1) (e2 ▸ r2)
theorem pe_cmp (C : Ctx prog w H sx F P) {a b : CE} {op : CmpOp} {p : Pos} (ha : PE prog w F sx a) (hb : PE prog w F sx b) (hm : behindInMarks op (toE F.nm sx b) = false) : PE prog w F sx (.cmp a op b p) := fun lo ah k h σ s I => by
  simp only [aE] at h
  exact wpAny_Compare1 ((ha _ _ _ h).then I fun σ1 s1 lo1 ah1 x va I1 p1 f1 r1 q1 => (hb _ _ _ q1).then I1 fun σ2 s2 lo2 ah2 y vb I2 p2 f2 r2 q2 => Cm.fin I2 (p1.trans p2) (f1.trans f2) (op_cmp C.ok C.base I2 (r1.mono p2 f2) r2 (pair_of C I2 x y) q2) fun z h => h) hm
theorem pt_cmp (C : Ctx prog w H sx F P) {a b : CE} {op : CmpOp} {p : Pos} (ha : PE prog w F sx a) (hb : PE prog w F sx b) (hm : behindInMarks op (toE F.nm sx b) = false) : PT prog w F sx (.cmp a op b p) := fun lo ah k h σ s I => by
  simp only [aT] at h
  exact wpAny_isTrue_Compare1 ((ha _ _ _ h).then I fun σ1 s1 lo1 ah1 x va I1 p1 f1 r1 q1 => (hb _ _ _ q1).then I1 fun σ2 s2 lo2 ah2 y vb I2 p2 f2 r2 q2 => Cm.finT I2 (p1.trans p2) (f1.trans f2) (op_cmp C.ok C.base I2 (r1.mono p2 f2) r2 (pair_of C I2 x y) q2) fun z h => h) hm
theorem pe_not {a : CE} {p : Pos} (ha : PE prog w F sx a) : PE prog w F sx (.not a p) := fun lo ah k h σ s I => by
  simp only [aE] at h
  refine wpAny_UnaryOp ((ha _ _ _ h).then I fun σ1 s1 lo1 ah1 x va I1 p1 f1 r1 q1 => ?_)
  refine PyProof.Rows.not_of (wpAny_mono (Lk.fin (s := s) (σ := σ) I1 p1 f1 (op_tru r1 q1) (K := fun b lo' ah' => k (.bool !b) lo' ah') fun z h => h) (fun b s' ⟨σ', lo', ah', b', I', p', f', e, q'⟩ => ?_) fun _ _ e => e)
  have e : b' = b := e
  subst e
  exact ⟨σ', lo', ah', _, I', p', f', vr_bool, q'⟩
theorem pt_val {e : CE} (he : PE prog w F sx e) (hv : plainT e = true) : PT prog w F sx e := fun lo ah k h σ s I => by
  have h' : aE e lo ah fun v lo ah => tru v fun b => k b lo ah := by
    cases e <;> first | (cases hv; done) | (simp only [aT] at h; exact h)
  refine wpAny_isTrue_value ((he _ _ _ h').then I fun σ1 s1 lo1 ah1 x va I1 p1 f1 r1 q1 => Lk.fin I1 p1 f1 (op_tru r1 q1) fun z h => h) (isTrue_val hv _ _)
theorem pt_not {a : CE} {p : Pos} (ha : PT prog w F sx a) : PT prog w F sx (.not a p) := fun lo ah k h σ s I => by
  simp only [aT] at h
  exact wpAny_isTrue_Not ((ha _ _ _ h).then I fun σ1 s1 lo1 ah1 x va I1 p1 f1 r1 q1 => by have e : x = va := r1; subst e; exact ⟨σ1, lo1, ah1, _, I1, p1, f1, rfl, q1⟩)
theorem pe_ife {t a b : CE} {p : Pos} (ht : PT prog w F sx t) (ha : PE prog w F sx a) (hb : PE prog w F sx b) : PE prog w F sx (.ife t a b p) := fun lo ah k h σ s I => by
  simp only [aE] at h
  refine wpAny_IfExp ((ht _ _ _ h).then I fun σ1 s1 lo1 ah1 z z' I1 p1 f1 r1 q1 => ?_)
  have e : z = z' := r1
  subst e
  cases z with
  | true => exact (ha _ _ _ (q1.1 rfl)).then I1 fun σ2 s2 lo2 ah2 y vb I2 p2 f2 r2 q2 => ⟨σ2, lo2, ah2, y, I2, p1.trans p2, f1.trans f2, r2, q2⟩
  | false => exact (hb _ _ _ (q1.2 rfl)).then I1 fun σ2 s2 lo2 ah2 y vb I2 p2 f2 r2 q2 => ⟨σ2, lo2, ah2, y, I2, p1.trans p2, f1.trans f2, r2, q2⟩
theorem pt_ife {t a b : CE} {p : Pos} (ht : PT prog w F sx t) (ha : PT prog w F sx a) (hb : PT prog w F sx b) : PT prog w F sx (.ife t a b p) := fun lo ah k h σ s I => by
  simp only [aT] at h
  show wpAny _ _ (do if ← isTrue (toE F.nm sx t) F.env (eval (toE F.nm sx t) F.env) then isTrue (toE F.nm sx a) F.env (eval (toE F.nm sx a) F.env) else isTrue (toE F.nm sx b) F.env (eval (toE F.nm sx b) F.env)) _ _ s
  refine wpAny_bind ((ht _ _ _ h).then I fun σ1 s1 lo1 ah1 z z' I1 p1 f1 r1 q1 => ?_)
  have e : z = z' := r1
  subst e
  cases z with
  | true => exact (ha _ _ _ (q1.1 rfl)).then I1 fun σ2 s2 lo2 ah2 y vb I2 p2 f2 r2 q2 => ⟨σ2, lo2, ah2, y, I2, p1.trans p2, f1.trans f2, r2, q2⟩
  | false => exact (hb _ _ _ (q1.2 rfl)).then I1 fun σ2 s2 lo2 ah2 y vb I2 p2 f2 r2 q2 => ⟨σ2, lo2, ah2, y, I2, p1.trans p2, f1.trans f2, r2, q2⟩
theorem pe_idx (C : Ctx prog w H sx F P) {a i : CE} {p : Pos} (ha : PE prog w F sx a) (hi : PE prog w F sx i) : PE prog w F sx (.idx a i p) := fun lo ah k h σ s I => by
  simp only [aE] at h
  exact Subscript_ ((ha _ _ _ h).then I fun σ1 s1 lo1 ah1 x va I1 p1 f1 r1 q1 => (hi _ _ _ q1).then I1 fun σ2 s2 lo2 ah2 y vb I2 p2 f2 r2 q2 => Vl.fin I2 (p1.trans p2) (f1.trans f2) (op_idx C.ok C.base I2 (r1.mono p2 f2) r2 q2) fun z h => h)
/-- the tokens, for an operation behind a push -/
theorem fin_push {t : Sem Value} {k : KA} {σ σ₂ : List Addr} {s s₂ : Shared} {lo₂ : Lo} {ah₂ : AH} {o : Obj} (I : Inv prog w F σ₂ lo₂ ah₂ s₂) (p : σ <+: σ₂) (f : Frz s.heap s₂.heap)
    (x : wpAny (model prog w) F.A t (fun v s' => 1 ≤ s'.toks → Post prog w F σ₂ s₂.heap (fun av lo' ah' => lo' = lo₂ ∧ k av ah') v s') Nev { s₂ with heap := s₂.heap.push o }) {K : AV → Lo → AH → Prop} (hK : ∀ z ah, k z ah → K z lo₂ ah) :
    wpAny (model prog w) F.A t (Post prog w F σ s.heap K) Nev { s₂ with heap := s₂.heap.push o } :=
  wpAny_mono (wpAny_with_toks (Q := Post prog w F σ₂ s₂.heap (fun av lo' ah' => lo' = lo₂ ∧ k av ah')) (E := Nev) (s := { s₂ with heap := s₂.heap.push o }) I.tk (wpAny_mono x (fun _ _ y => y) fun _ _ y => y.elim))
    (fun a s' ⟨σ', lo', ah', b, I', p', f', r, e, q⟩ => ⟨σ', lo', ah', b, I', p.trans p', f.trans f', r, e ▸ hK b ah' q⟩) fun _ _ y => y
theorem pe_slAB {a l h : CE} {ps p : Pos} (ha : PE prog w F sx a) (hl : PE prog w F sx l) (hh : PE prog w F sx h) : PE prog w F sx (.slAB a l h ps p) := fun lo ah k q σ s I => by
  simp only [aE] at q
  refine Subscript_ ((ha _ _ _ q).then I fun σ1 s1 lo1 ah1 x va I1 p1 f1 r1 q1 => wpAny_Slice ?_)
  rw [evalPart_some]
  refine (hl _ _ _ q1).then I1 fun σ2 s2 lo2 ah2 y vb I2 p2 f2 r2 q2 => ?_
  rw [evalPart_some]
  refine (hh _ _ _ q2).then I2 fun σ3 s3 lo3 ah3 z vc I3 p3 f3 r3 q3 => ?_
  rw [evalPart_none]
  exact wpAny_pure (fin_push I3 ((p1.trans p2).trans p3) ((f1.trans f2).trans f3) (op_sl I3 (y := some y) (z := some z) (r1.mono (p2.trans p3) (f2.trans f3)) (r2.mono p3 f3) r3 q3) fun z ah h => h)
theorem pe_slA {a l : CE} {ps p : Pos} (ha : PE prog w F sx a) (hl : PE prog w F sx l) : PE prog w F sx (.slA a l ps p) := fun lo ah k q σ s I => by
  simp only [aE] at q
  refine Subscript_ ((ha _ _ _ q).then I fun σ1 s1 lo1 ah1 x va I1 p1 f1 r1 q1 => wpAny_Slice ?_)
  rw [evalPart_some]
  refine (hl _ _ _ q1).then I1 fun σ2 s2 lo2 ah2 y vb I2 p2 f2 r2 q2 => ?_
  rw [evalPart_none]
  refine wpAny_pure ?_
  exact wpAny_pure (fin_push I2 (p1.trans p2) (f1.trans f2) (op_sl I2 (y := some y) (z := none) (r1.mono p2 f2) r2 rfl q2) fun z ah h => h)
theorem pe_slB {a l : CE} {ps p : Pos} (ha : PE prog w F sx a) (hl : PE prog w F sx l) : PE prog w F sx (.slB a l ps p) := fun lo ah k q σ s I => by
  simp only [aE] at q
  refine Subscript_ ((ha _ _ _ q).then I fun σ1 s1 lo1 ah1 x va I1 p1 f1 r1 q1 => wpAny_Slice ?_)
  rw [evalPart_none]
  refine wpAny_pure ?_
  rw [evalPart_some]
  refine (hl _ _ _ q1).then I1 fun σ2 s2 lo2 ah2 y vb I2 p2 f2 r2 q2 => ?_
  exact wpAny_pure (fin_push I2 (p1.trans p2) (f1.trans f2) (op_sl I2 (y := none) (z := some y) (r1.mono p2 f2) rfl r2 q2) fun z ah h => h)
end
end Mine
end
section
open PySem PySem.Spec PySem.Calls PyProof.Rows PySem.W PySem.Builtin
set_option maxRecDepth 100000
namespace Mine
variable {prog : Program} {w : World} {H : Heap} {s : Shared} {F : FC} {σ : List Addr} {lo : Lo} {ah : AH} {sx : Nat → PySem.Expr} {P : Nat → Bool}

theorem pl_nil : PL prog w F sx .nil := fun pos lo ah k h σ s I => by
  simp only [aEL] at h
  exact spliced_nil ⟨σ, lo, ah, [], I, List.prefix_refl _, .refl _, .nil, h⟩
theorem pl_cons {e : CE} {r : CEL} (ha : argOk e = true) (he : PE prog w F sx e) (hr : PL prog w F sx r) : PL prog w F sx (.cons e r) := fun pos lo ah k h σ s I => by
  simp only [aEL] at h
  rw [toEL, star_cons ha]
  exact spliced_cons ((he _ _ _ h).then I fun σ1 s1 lo1 ah1 x va I1 p1 f1 r1 q1 => (hr pos _ _ _ q1).then I1 fun σ2 s2 lo2 ah2 xs vs I2 p2 f2 r2 q2 => ⟨σ2, lo2, ah2, x :: xs, I2, p1.trans p2, f1.trans f2, .cons (r1.mono p2 f2) r2, q2⟩)
theorem pb_nil : PB prog w F sx .nil := fun op pos lo ah k h => by simp only [aBop] at h
theorem pb_cons {e : CE} {r : CEL} (he : PE prog w F sx e) (hr : PB prog w F sx r) : PB prog w F sx (.cons e r) := fun op pos lo ah k h σ s I => by
  cases r with
  | nil =>
    simp only [aBop] at h
    exact he _ _ _ h σ s I
  | cons e' r' =>
    simp only [aBop] at h
    show wpAny _ _ (do
      let v ← eval (toE F.nm sx e) F.env
      standAt pos
      let t ← holding [v] (truthy v)
      match op, t with
      | .And, false | .Or, true => pure v
      | _, _ => boolOp pos op (evalEach (toEL F.nm sx (.cons e' r')) F.env)) _ _ s
    refine wpAny_bind ((he _ _ _ h).then I fun σ1 s1 lo1 ah1 x va I1 p1 f1 r1 q1 => wpAny_bind (wpAny_standAt (wpAny_bind (wpAny_holding ?_))))
    refine wpAny_mono (Lk.fin (s := s1) (σ := σ1) I1 (List.prefix_refl _) (.refl _) (op_tru r1 q1) (K := fun b lo' ah' => (match (generalizing := false) op with
        | .And => (b = true → aBop op (.cons e' r') lo1 ah1 k) ∧ (b = false → k x lo1 ah1)
        | .Or => (b = false → aBop op (.cons e' r') lo1 ah1 k) ∧ (b = true → k x lo1 ah1)) ∧ lo' = lo1 ∧ ah' = ah1) fun z h => ⟨h, rfl, rfl⟩) (fun b s2 ⟨σ2, lo2, ah2, b', I2, p2, f2, e2, q2, e3, e4⟩ => ?_) fun _ _ e => e
    have e5 : b' = b := e2
    subst e5 e3 e4
    cases op <;> cases b' <;> dsimp only at q2 ⊢
    · exact wpAny_pure ⟨σ2, _, _, x, I2, p1.trans p2, f1.trans f2, r1.mono p2 f2, q2.2 rfl⟩
    · exact (hr .And pos _ _ _ (q2.1 rfl)).then I2 fun σ3 s3 lo3 ah3 y vb I3 p3 f3 r3 q3 => ⟨σ3, lo3, ah3, y, I3, (p1.trans p2).trans p3, (f1.trans f2).trans f3, r3, q3⟩
    · exact (hr .Or pos _ _ _ (q2.1 rfl)).then I2 fun σ3 s3 lo3 ah3 y vb I3 p3 f3 r3 q3 => ⟨σ3, lo3, ah3, y, I3, (p1.trans p2).trans p3, (f1.trans f2).trans f3, r3, q3⟩
    · exact wpAny_pure ⟨σ2, _, _, x, I2, p1.trans p2, f1.trans f2, r1.mono p2 f2, q2.2 rfl⟩
theorem pe_bop {op : BoolOp} {xs : CEL} {p : Pos} (h : PB prog w F sx xs) : PE prog w F sx (.bop op xs p) := fun lo ah k q σ s I => by
  simp only [aE] at q
  rw [toE, arm_eval_BoolOp]
  exact h op p lo ah k q σ s I
theorem ptl_nil : PTL prog w F sx .nil := fun op lo ah k h σ s I => by
  cases op <;> simp only [aTL] at h
  · exact wpAny_allTrue_And_nil ⟨σ, lo, ah, true, I, List.prefix_refl _, .refl _, rfl, h⟩
  · exact wpAny_allTrue_Or_nil ⟨σ, lo, ah, false, I, List.prefix_refl _, .refl _, rfl, h⟩
theorem ptl_cons {e : CE} {r : CEL} (he : PT prog w F sx e) (hr : PTL prog w F sx r) : PTL prog w F sx (.cons e r) := fun op lo ah k h σ s I => by
  rw [toEL]
  cases op with
  | And =>
    simp only [aTL] at h
    show wpAny _ _ (do match BoolOp.And, ← isTrue (toE F.nm sx e) F.env (eval (toE F.nm sx e) F.env) with | .And, false => pure false | .Or, true => pure true | _, _ => allTrue .And (toEL F.nm sx r) F.env) _ _ s
    refine wpAny_bind ((he _ _ _ h).then I fun σ1 s1 lo1 ah1 x va I1 p1 f1 r1 q1 => ?_)
    have e1 : x = va := r1
    subst e1
    cases x
    · exact wpAny_pure ⟨σ1, _, _, false, I1, p1, f1, rfl, q1.2 rfl⟩
    · exact (hr .And _ _ _ (q1.1 rfl)).then I1 fun σ3 s3 lo3 ah3 y vb I3 p3 f3 r3 q3 => ⟨σ3, lo3, ah3, y, I3, p1.trans p3, f1.trans f3, r3, q3⟩
  | Or =>
    simp only [aTL] at h
    show wpAny _ _ (do match BoolOp.Or, ← isTrue (toE F.nm sx e) F.env (eval (toE F.nm sx e) F.env) with | .And, false => pure false | .Or, true => pure true | _, _ => allTrue .Or (toEL F.nm sx r) F.env) _ _ s
    refine wpAny_bind ((he _ _ _ h).then I fun σ1 s1 lo1 ah1 x va I1 p1 f1 r1 q1 => ?_)
    have e1 : x = va := r1
    subst e1
    cases x
    · exact (hr .Or _ _ _ (q1.1 rfl)).then I1 fun σ3 s3 lo3 ah3 y vb I3 p3 f3 r3 q3 => ⟨σ3, lo3, ah3, y, I3, p1.trans p3, f1.trans f3, r3, q3⟩
    · exact wpAny_pure ⟨σ1, _, _, true, I1, p1, f1, rfl, q1.2 rfl⟩
theorem pt_bop {op : BoolOp} {xs : CEL} {p : Pos} (h : PTL prog w F sx xs) : PT prog w F sx (.bop op xs p) := fun lo ah k q σ s I => by
  simp only [aT] at q
  exact wpAny_isTrue_BoolOp (h op lo ah k q σ s I)

theorem pe_call (C : Ctx prog w H sx F P) {f : BF} {xs : CEL} {pf p : Pos} {kd : Str → Bool} {lv : Nat} (hk : F.env.kindOf f.s = some .globalImplicit) (hx : chkA kd P lv F.nm sx xs = true) (h : PL prog w F sx xs) : PE prog w F sx (.call f xs pf p) := fun lo ah k q σ s I => by
  simp only [aE] at q
  have go : wpAny (model prog w) F.A (spliced (backTo p (starEach (toEL F.nm sx xs) F.env))) (fun vs s₁ => wpAny (model prog w) F.A (call f.v vs) (Post prog w F σ s.heap k) Nev s₁) Nev s :=
    (h p _ _ _ q).then I fun σ1 s1 lo1 ah1 xs vs I1 p1 f1 r1 q1 => Op.fin I1 p1 f1 (op_call C.ok I1 r1 q1) fun z ah h => h
  refine Call_ (ld_bfn C.ok C.base I hk ?_)
  cases f <;> first
    | exact PySem.Calls.callWith_builtin (plainAll p F.env kd P lv xs hx) (evalArgs_any hx go)
    | exact PySem.callWith_type (plainAll p F.env kd P lv xs hx) (evalArgs_any hx go)
theorem pe_ucall (C : Ctx prog w H sx F P) {f : UF} {xs : CEL} {pf p : Pos} {kd : Str → Bool} {lv : Nat} (hk : F.env.kindOf f.s = some .globalImplicit) (hlv : f.lev ≤ F.lv) (hx : chkA kd P lv F.nm sx xs = true) (h : PL prog w F sx xs) : PE prog w F sx (.ucall f xs pf p) := fun lo ah k q σ s I => by
  simp only [aE] at q
  obtain ⟨o, fd, ho, hd⟩ := C.fn f
  have hf : ∀ {σ' lo' ah' s'}, Inv prog w F σ' lo' ah' s' → s'.heap.get? f.a = some o := fun I' => I'.old C.ok ho (by cases f <;> decide) (by cases f <;> decide)
  have go : wpAny (model prog w) F.A (spliced (backTo p (starEach (toEL F.nm sx xs) F.env))) (fun vs s₁ => (s₁.heap.get? f.a = some o ∧ o.data = .func fd) ∧ wpAny (model prog w) F.A (call (.ref f.a) vs) (Post prog w F σ s.heap k) Nev s₁) Nev s :=
    (h p _ _ _ q).then I fun σ1 s1 lo1 ah1 xs vs I1 p1 f1 r1 q1 => ⟨⟨hf I1, hd⟩, Op.fin I1 p1 f1 (C.u f hlv F σ1 lo1 ah1 s1 C.ok hlv I1 xs vs _ q1 r1) fun z ah h => h⟩
  exact Call_ (ld_ufn C.ok C.base I hk (callWith_function (o := o) (fd := fd) (evalArgs_any hx go)))
theorem pe_ucallK (C : Ctx prog w H sx F P) {x y : CE} {pf pk p : Pos} (hk : F.env.kindOf UF.unquote.s = some .globalImplicit) (hlv : UF.unquote.lev ≤ F.lv) (ha : argOk x = true) (hx : PE prog w F sx x) (hy : PE prog w F sx y) : PE prog w F sx (.ucallK .unquote x "encoding" y pf pk p) := fun lo ah k q σ s I => by
  simp only [aE] at q
  obtain ⟨o, fd, ho, hd⟩ := C.fn .unquote
  have hf : ∀ {σ' lo' ah' s'}, Inv prog w F σ' lo' ah' s' → s'.heap.get? UF.unquote.a = some o := fun I' => I'.old C.ok ho (by decide) (by decide)
  have hs : starEach [toE F.nm sx x] F.env = (false, eval (toE F.nm sx x) F.env) :: starEach [] F.env := star_cons ha [] F.env
  have h1 : wpAny (model prog w) F.A (spliced (backTo p (starEach [toE F.nm sx x] F.env))) (fun vs s₁ => wpAny (model prog w) F.A (evalAll ((backToKw p (keywordEach [⟨some "encoding", toE F.nm sx y, pk⟩] F.env)).map (·.2)))
      (fun ks s₂ => (s₂.heap.get? UF.unquote.a = some o ∧ o.data = .func fd) ∧ wpAny (model prog w) F.A (call (.ref UF.unquote.a) ([] ++ vs) (((backToKw p (keywordEach [⟨some "encoding", toE F.nm sx y, pk⟩] F.env)).filterMap (·.1)).zip ks)) (Post prog w F σ s.heap k) Nev s₂) Nev s₁) Nev s := by
    rw [hs]
    refine spliced_cons ((hx _ _ _ q).then I fun σ1 s1 lo1 ah1 xv va I1 p1 f1 r1 q1 => spliced_nil ?_)
    refine PyProof.Rows.kwAll_cons ((hy _ _ _ q1).then I1 fun σ2 s2 lo2 ah2 yv vb I2 p2 f2 r2 q2 => PyProof.Rows.kwAll_nil ⟨⟨hf I2, hd⟩, ?_⟩)
    exact Op.fin I2 (p1.trans p2) (f1.trans f2) (C.uk hlv F σ2 lo2 ah2 s2 C.ok hlv I2 xv yv va vb _ q2 (r1.mono p2 f2) r2) fun z ah h => h
  refine wpAny_Call_ofName (ld_ufn C.ok C.base I hk ?_)
  exact callWith_function_kw (o := o) (fd := fd) (PyProof.Rows.evalArgs_kw2 rfl h1 hs)
theorem pe_wal (C : Ctx prog w H sx F P) {i : Nat} {e : CE} {pi p : Pos} (he : PE prog w F sx e) (hi : ∀ lo : Lo, ∀ s σ ah, Inv prog w F σ lo ah s → i < lo.length) : PE prog w F sx (.wal i e pi p) := fun lo ah k q σ s I => by
  simp only [aE] at q
  refine PySem.wpAny_NamedExpr ((he _ _ _ q).then I fun σ1 s1 lo1 ah1 x va I1 p1 f1 r1 q1 => wpAny_assign_Name ?_)
  exact st_loc C.ok C.st I1 (hi _ _ _ _ I1) r1 fun s' I' f' => ⟨σ1, _, ah1, x, I', p1, f1.trans f', r1.mono (List.prefix_refl _) f', q1⟩
theorem pe_tup {xs : CEL} {k0 : Nat} {p : Pos} (h : PL prog w F sx xs) : PE prog w F sx (.tup xs k0 p) := fun lo ah k q σ s I => by
  simp only [aE] at q
  refine PySem.wpAny_Tuple ((h p _ _ _ q).then I fun σ1 s1 lo1 ah1 xs vs I1 p1 f1 r1 q1 => ⟨by rw [r1.length, sizeLine_eq]; omega, ?_⟩)
  have kp : ∀ b o, s1.heap.get? b = some o → (s1.heap.push { cls := .type "tuple", data := .seq vs.toArray }).get? b = some o := fun b o e => Heap.get?_push_of_some _ e
  exact ⟨σ1, lo1, ah1, .tup xs, I1.keep (tk := s1.toks) kp I1.tk, p1, f1.trans (.of_keep kp), vr_tup ⟨_, Heap.get?_push_size _ rfl⟩ (r1.mono (List.prefix_refl _) (.of_keep kp)), q1.2⟩
theorem pe_list {xs : CEL} {p : Pos} (h : PL prog w F sx xs) : PE prog w F sx (.list xs p) := fun lo ah k q σ s I => by
  simp only [aE] at q
  refine PySem.wpAny_List ((h p _ _ _ q).then I fun σ1 s1 lo1 ah1 xs vs I1 p1 f1 r1 q1 => ⟨by rw [r1.length, sizeLine_eq]; omega, ?_⟩)
  have := Op.listPush (k := fun z ah => k z lo1 ah) (n := 0) (tk := s1.toks) I1 r1 q1.2 I1.tk
  obtain ⟨σ', lo', ah', b, I', p', f', r, e, q⟩ := this
  subst e
  exact ⟨σ', _, ah', b, I', p1.trans p', f1.trans f', r, q⟩
theorem pe_dict0 {p : Pos} : PE prog w F sx (.dict0 p) := fun lo ah k q σ s I => by
  simp only [aE] at q
  refine wpAny_Dict_empty ?_
  have hp : σ <+: σ ++ [s.heap.objs.size] := List.prefix_append ..
  have kp : ∀ b o, s.heap.get? b = some o → (s.heap.push { cls := .type "dict", data := .dict #[] }).get? b = some o := fun b o e => Heap.get?_push_of_some _ e
  exact ⟨σ ++ [s.heap.objs.size], lo, ah ++ [.dict [] 0], .ref ah.length, I.newObj (tk := s.toks) (ao := .dict [] 0) kp (size_none _) ⟨[], ⟨_, #[], Heap.get?_push_size _ rfl, ⟨rfl, rfl, rfl⟩, rfl, fun _ he => by simp at he, Pairs.nil, List.nodup_nil⟩, trivial⟩ I.tk, hp, .of_keep kp,
    vr_ref (by rw [← I.len, List.getElem?_append_right (Nat.le_refl _), Nat.sub_self]; rfl), q⟩
end Mine
end
section
open PySem PySem.Spec PySem.Calls PyProof.Rows PySem.W PySem.Builtin
set_option maxRecDepth 100000
namespace Mine
variable {prog : Program} {w : World} {H : Heap} {s : Shared} {F : FC} {σ : List Addr} {lo : Lo} {ah : AH} {sx : Nat → PySem.Expr} {P : Nat → Bool}
theorem pe_meth (C : Ctx prog w H sx F P) {o : CE} {m : M} {xs : CEL} {pa p : Pos} {kd : Str → Bool} {lv : Nat} (hb : okBase o = true) (hl : (pa.endLine == p.line) = true) (hn : celLen xs < 20) (hx : chkA kd P lv F.nm sx xs = true) (ho : PE prog w F sx o) (h : PL prog w F sx xs) :
    PE prog w F sx (.meth o m xs pa p) := fun lo ah k q σ s I => by
  simp only [aE] at q
  refine wpAny_Call_method_lateS (base_of hb _ _ _) ?_ hl ((ho _ _ _ q).then I fun σ1 s1 lo1 ah1 x va I1 p1 f1 r1 q1 => ?_)
  · rw [few_of p F.env kd P lv xs hx, celLen_eq]
    show ((true && true) && decide (celLen xs + 0 + 0 < 30)) = true
    rw [decide_eq_true (by omega)]; rfl
  · obtain ⟨⟨T, id⟩, hr, q1⟩ := q1
    have R := rcv_ok C.pats C.ok C.base I1 hr r1
    have go : wpAny (model prog w) F.A (spliced (backTo p (starEach (toEL F.nm sx xs) F.env))) (fun vs s₁ => wpAny (model prog w) F.A (call (.builtin id) ([va] ++ vs)) (Post prog w F σ s.heap k) Nev s₁) Nev s1 :=
      (h p _ _ _ q1).then I1 fun σ2 s2 lo2 ah2 ys vs I2 p2 f2 r2 ⟨ti', hr', he, q2⟩ => by
        subst he
        exact Op.fin I2 (p1.trans p2) (f1.trans f2) (op_meth C.pats C.ok C.base I2 hr' (r1.mono p2 f2) r2 q2) fun z ah h => h
    exact ⟨T, id, R.pa, R.slot, R.kind, R.ty, R.nd, PySem.Calls.callWith_builtin (plainAll p F.env kd P lv xs hx) (evalArgs_any hx go)⟩
theorem pe_loc (C : Ctx prog w H sx F P) {i : Nat} {p : Pos} : PE prog w F sx (.loc i p) := fun lo ah k q => by
  simp only [aE] at q
  split at q
  · rename_i v e; exact we_loc C.ok e q
  · exact q.elim
theorem pe_glob (C : Ctx prog w H sx F P) {g : GN} {p : Pos} (hk : F.env.kindOf g.s = some .globalImplicit) : PE prog w F sx (.glob g p) := fun lo ah k q => by
  simp only [aE] at q
  exact we_glob C.ok C.base hk q
theorem pe_neNil (C : Ctx prog w H sx F P) {a : CE} {pl p : Pos} (ha : PE prog w F sx a) : PE prog w F sx (.neNil a pl p) := fun lo ah k q σ s I => by
  simp only [aE] at q
  refine wpAny_Compare1 ((ha _ _ _ q).then I fun σ1 s1 lo1 ah1 x va I1 p1 f1 r1 q1 => ?_) rfl
  split at q1
  · rename_i o
    obtain ⟨xs, e, hl, q1⟩ := q1
    obtain ⟨p', vs, n, _, rfl, hp, r2⟩ := I1.list e r1
    refine PySem.wpAny_List (PySem.wpAny_items_nil ⟨by rw [sizeLine_eq]; decide, ?_⟩)
    have kp : ∀ b o, s1.heap.get? b = some o → (s1.heap.push { cls := .type "list", data := .seq ([] : List Value).toArray }).get? b = some o := fun b o e => Heap.get?_push_of_some _ e
    refine ne_list_nil (isList_of (kp _ _ hp)) (isList_of (Heap.get?_push_size _ rfl)) C.ok.hu ?_
    have e2 : vs.isEmpty = xs.isEmpty := by
      have := r2.length
      cases vs <;> cases xs <;> simp_all
    rw [e2]
    exact ⟨σ1, lo1, ah1, _, I1.keep (tk := s1.toks) kp I1.tk, p1, f1.trans (.of_keep kp), vr_bool, q1⟩
  · exact q1.elim
theorem pt_neNil (C : Ctx prog w H sx F P) {a : CE} {pl p : Pos} (ha : PE prog w F sx a) : PT prog w F sx (.neNil a pl p) := fun lo ah k q σ s I => by
  have q : aE (.neNil a pl p) lo ah fun v lo ah => tru v fun b => k b lo ah := by simp only [aT] at q; exact q
  simp only [aE] at q
  refine wpAny_isTrue_Compare1 ((ha _ _ _ q).then I fun σ1 s1 lo1 ah1 x va I1 p1 f1 r1 q1 => ?_) rfl
  split at q1
  · rename_i o
    obtain ⟨xs, e, hl, q1⟩ := q1
    obtain ⟨p', vs, n, _, rfl, hp, r2⟩ := I1.list e r1
    refine PySem.wpAny_List (PySem.wpAny_items_nil ⟨by rw [sizeLine_eq]; decide, ?_⟩)
    have kp : ∀ b o, s1.heap.get? b = some o → (s1.heap.push { cls := .type "list", data := .seq ([] : List Value).toArray }).get? b = some o := fun b o e => Heap.get?_push_of_some _ e
    refine ne_list_nil (isList_of (kp _ _ hp)) (isList_of (Heap.get?_push_size _ rfl)) C.ok.hu ?_
    have e2 : vs.isEmpty = xs.isEmpty := by
      have := r2.length
      cases vs <;> cases xs <;> simp_all
    rw [e2]
    exact wpAny_truthy_bool ⟨σ1, lo1, ah1, _, I1.keep (tk := s1.toks) kp I1.tk, p1, f1.trans (.of_keep kp), rfl, q1⟩
  · exact q1.elim
theorem pe_fmt {e : CE} {p : Pos} (he : PE prog w F sx e) : PE prog w F sx (.fmt e p) := fun lo ah k q σ s I => by
  simp only [aE] at q
  refine wpAny_FormattedValue_plain ((he _ _ _ q).then I fun σ1 s1 lo1 ah1 x va I1 p1 f1 r1 q1 => ?_)
  split at q1
  · obtain ⟨t, rfl⟩ := vr_str_inv r1
    exact wpAny_formatField_str ⟨σ1, lo1, ah1, _, I1, p1, f1, vr_str, q1.2⟩ ⟨σ1, lo1, ah1, _, I1.tok1, p1, f1, vr_str, q1.2⟩ (by rw [S_length, sizeLine_eq]; omega)
  · exact q1.elim
abbrev PJ (prog : Program) (w : World) (F : FC) (sx : Nat → PySem.Expr) (xs : CEL) : Prop := ∀ (acc : T) lo ah k, aJ xs acc lo ah k → acc.length ≤ 1000000 → ∀ (σ0 : List Addr) (h0 : Heap) (σ : List Addr) (s : Shared), Inv prog w F σ lo ah s → σ0 <+: σ → Frz h0 s.heap →
  Joins (model prog w) F.A Nev (evalEach (toEL F.nm sx xs) F.env) (S acc) (fun out s₁ => out.length ≤ sizeLine ∧ Post prog w F σ0 h0 k (.str out s₁.toks) { s₁ with toks := s₁.toks + 1 }) s
theorem pj_nil : PJ prog w F sx .nil := fun acc lo ah k h hl σ0 h0 σ s I p f => by
  simp only [aJ] at h
  exact ⟨by rw [S_length, sizeLine_eq]; omega, σ, lo, ah, _, I.tok1, p, f, vr_str, h⟩
theorem pj_cons {e : CE} {r : CEL} (he : PE prog w F sx e) (hr : PJ prog w F sx r) : PJ prog w F sx (.cons e r) := fun acc lo ah k h hl σ0 h0 σ s I p f => by
  simp only [aJ] at h
  refine (he _ _ _ h).then I fun σ1 s1 lo1 ah1 x va I1 p1 f1 r1 q1 => ?_
  split at q1
  · rename_i l
    obtain ⟨t, rfl⟩ := vr_str_inv r1
    refine ⟨S l, t, rfl, by rw [S_append, S_length, sizeLine_eq, List.length_append]; omega, ?_⟩
    rw [S_append]
    exact hr _ _ _ _ q1.2 (by rw [List.length_append]; omega) σ0 h0 σ1 s1 I1 (p.trans p1) (f.trans f1)
  · exact q1.elim
theorem pe_fstr {xs : CEL} {p : Pos} (h : PJ prog w F sx xs) : PE prog w F sx (.fstr xs p) := fun lo ah k q σ s I => by
  simp only [aE] at q
  obtain ⟨h2, q⟩ := q
  match xs, h2, h, q with
  | .cons a (.cons b r), _, h, q => exact wpAny_JoinedStr (h [] lo ah k q (by decide) σ s.heap σ s I (List.prefix_refl _) (.refl _))
theorem pe_sp (C : Ctx prog w H sx F P) {n : Nat} (hn : P n = true) : PE prog w F sx (.sp n) := fun lo ah k q => by
  simp only [aE] at q
  exact ((C.sp1 hn).val lo ah _ q).mono fun b lo' ah' ⟨e, q⟩ => by subst e; exact q
theorem pt_sp (C : Ctx prog w H sx F P) {n : Nat} (hn : P n = true) : PT prog w F sx (.sp n) := fun lo ah k q => by
  have q : aE (.sp n) lo ah fun v lo ah => tru v fun b => k b lo ah := by simp only [aT] at q; exact q
  simp only [aE] at q
  exact (C.sp1 hn).tru lo ah k q
theorem pe_bytes1 (C : Ctx prog w H sx F P) {e : CE} {pl pf p : Pos} (hk : F.env.kindOf BF.bytes.s = some .globalImplicit) (ha : argOk e = true) (he : PE prog w F sx e) : PE prog w F sx (.bytes1 e pl pf p) := fun lo ah k q σ s I => by
  simp only [aE] at q
  refine Call_ (ld_bfn (f := .bytes) C.ok C.base I hk ?_)
  refine PySem.callWith_type rfl (evalArgs_plain (spliced_cons (PySem.wpAny_List ?_)))
  rw [star_cons ha]
  refine spliced_cons ((he _ _ _ q).then I fun σ1 s1 lo1 ah1 x va I1 p1 f1 r1 q1 => ?_)
  split at q1
  · exact spliced_nil ⟨by show 1 ≤ sizeLine; rw [sizeLine_eq]; decide, spliced_nil (fin_push I1 p1 f1 (b1_bytes C.ok I1 r1 ⟨q1.1, q1.2.1⟩ (k := fun z ah => k z lo1 ah) q1.2.2) fun z ah h => h)⟩
  · exact q1.elim
theorem pe_sorted2 (C : Ctx prog w H sx F P) {a b : CE} {pl pf p : Pos} (hk : F.env.kindOf BF.sorted.s = some .globalImplicit) (ha : argOk a = true) (hb : argOk b = true) (hea : PE prog w F sx a) (heb : PE prog w F sx b) : PE prog w F sx (.sorted2 a b pl pf p) := fun lo ah k q σ s I => by
  simp only [aE] at q
  refine Call_ (ld_bfn (f := .sorted) C.ok C.base I hk ?_)
  refine PySem.Calls.callWith_builtin rfl (evalArgs_plain (spliced_cons (PySem.wpAny_List ?_)))
  rw [star_cons ha, star_cons hb]
  refine spliced_cons ((hea _ _ _ q).then I fun σ1 s1 lo1 ah1 x va I1 p1 f1 r1 q1 => ?_)
  refine spliced_cons ((heb _ _ _ q1).then I1 fun σ2 s2 lo2 ah2 y vb I2 p2 f2 r2 q2 => ?_)
  split at q2
  · exact spliced_nil ⟨by show 2 ≤ sizeLine; rw [sizeLine_eq]; decide, spliced_nil (fin_push I2 (p1.trans p2) (f1.trans f2) (op_sorted2 I2 (r1.mono p2 f2) r2 (k := fun z ah => k z lo2 ah) q2) fun z ah h => h)⟩
  · exact q2.elim
theorem pe_repl (C : Ctx prog w H sx F P) {o : CE} {a b : List Nat} {ka kb : Nat} {qa qb pa p : Pos} (hb : okBase o = true) (hl : (pa.endLine == p.line) = true) (ho : PE prog w F sx o) : PE prog w F sx (.repl o a b ka kb qa qb pa p) := fun lo ah k q σ s I => by
  simp only [aE] at q
  refine wpAny_Call_method_lateS (base_of hb _ _ _) rfl hl ((ho _ _ _ q).then I fun σ1 s1 lo1 ah1 x va I1 p1 f1 r1 q1 => ?_)
  have key : ∀ (l : List Nat) (c : Nat) (a' r : List Nat), VR σ1 s1.heap (.str l) va → a = c :: a' → l.length ≤ 100000 → b.length ≤ 10 → a ≠ b → ((a' = [] ∧ r = repl1 c b l) ∨ (c ∉ l ∧ r = l)) → k (.str r) lo1 ah1 →
      MethodOnS prog w F.A Nev "replace" va p (backTo p (starEach [.Constant (.str (S a)) ka qa, .Constant (.str (S b)) kb qb] F.env)) (Post prog w F σ s.heap k) s1 := by
    intro l c a' r rv ea h1 h2 h3 h4 h5
    obtain ⟨t, rfl⟩ := vr_str_inv rv
    refine ⟨"str", "str.replace", PySem.F.plainAttrs_str, PySem.F.slot_str_replace, PySem.F.type_str_replace, typeIs_str _ _ _, (fun _ e => nomatch e), ?_⟩
    refine PySem.Calls.callWith_builtin rfl (evalArgs_plain (spliced_cons (wpAny_Constant_str (k := ka) (pos := qa) (spliced_cons (wpAny_Constant_str (k := kb) (pos := qb) (spliced_nil ?_))))))
    have tk1 := I1.tk
    have I2 : Inv prog w F σ1 lo1 ah1 { s1 with toks := s1.toks + 1 + 1 } := I1.tok (by omega)
    have := m_replace (k := fun z ah => k z lo1 ah) I2 (l := l) (b := b) (c := c) (a := a') (r := r) (v := .str (S l) t) (u := s1.toks) (u' := s1.toks + 1) vr_str (Nat.pos_iff_ne_zero.mp tk1) (Nat.succ_ne_zero _) (Nat.ne_of_lt (Nat.lt_succ_self _)) h1 h2 (ea ▸ h3) h4 h5
    rw [← ea] at this
    exact Op.fin I2 p1 f1 this fun z ah h => h
  split at q1
  · exact key _ _ [] _ r1 rfl q1.1 q1.2.1 q1.2.2.1 (.inl ⟨rfl, rfl⟩) q1.2.2.2
  · exact key _ _ _ _ r1 rfl q1.1 q1.2.2.2.1 q1.2.2.1 (.inr ⟨q1.2.1, rfl⟩) q1.2.2.2.2
  · exact q1.elim

/-! ### all expressions -/
theorem nm_lt {i : Nat} (h : (F.nm i == Str.empty) = false) : i < F.slots.length := by
  rcases Nat.lt_or_ge i F.slots.length with h1 | h1
  · exact h1
  · have : F.nm i = Str.empty := by unfold FC.nm; rw [List.getD_eq_getElem?_getD, List.getElem?_eq_none_iff.mpr h1]; rfl
    rw [this] at h
    simp at h
theorem chk_wal_len (_C : Ctx prog w H sx F P) {i : Nat} (hi : i < F.slots.length) : ∀ lo : Lo, ∀ s σ ah, Inv prog w F σ lo ah s → i < lo.length := fun _ _ _ _ I => by rw [I.llen]; exact hi
mutual
theorem okET (C : Ctx prog w H sx F P) : ∀ e : CE, chk (kdOf F) P F.lv F.nm sx e = true → PE prog w F sx e ∧ PT prog w F sx e
  | .loc i p, h => have a : PE prog w F sx (.loc i p) := pe_loc C; ⟨a, pt_val a rfl⟩
  | .glob g p, h => by
    rw [chk] at h
    have a : PE prog w F sx (.glob g p) := pe_glob C (kd_of h); exact ⟨a, pt_val a rfl⟩
  | .cnone k p, h => have a : PE prog w F sx (.cnone k p) := fun lo ah k q => we_cnone (by simp only [aE] at q; exact q); ⟨a, pt_val a rfl⟩
  | .cbool b k p, h => have a : PE prog w F sx (.cbool b k p) := fun lo ah k q => we_cbool (by simp only [aE] at q; exact q); ⟨a, pt_val a rfl⟩
  | .cint i k p, h => have a : PE prog w F sx (.cint i k p) := fun lo ah k q => we_cint (by simp only [aE] at q; exact q); ⟨a, pt_val a rfl⟩
  | .cstr l k p, h => have a : PE prog w F sx (.cstr l k p) := fun lo ah k q => we_cstr (by simp only [aE] at q; exact q); ⟨a, pt_val a rfl⟩
  | .cbytes l k p, h => have a : PE prog w F sx (.cbytes l k p) := fun lo ah k q => we_cbytes (by simp only [aE] at q; exact q); ⟨a, pt_val a rfl⟩
  | .bin a op b p, h => by
    rw [chk, Bool.and_eq_true] at h
    have x : PE prog w F sx (.bin a op b p) := pe_bin (okET C a h.1).1 (okET C b h.2).1; exact ⟨x, pt_val x rfl⟩
  | .cmp a op b p, h => by
    rw [chk, Bool.and_eq_true, Bool.and_eq_true, Bool.not_eq_true'] at h
    exact ⟨pe_cmp C (okET C a h.1.1).1 (okET C b h.1.2).1 h.2, pt_cmp C (okET C a h.1.1).1 (okET C b h.1.2).1 h.2⟩
  | .not a p, h => by
    rw [chk] at h
    exact ⟨pe_not (okET C a h).1, pt_not (okET C a h).2⟩
  | .bop op xs p, h => by
    rw [chk] at h
    exact ⟨pe_bop (okL C xs h).1, pt_bop (okL C xs h).2.1⟩
  | .ife t a b p, h => by
    rw [chk, Bool.and_eq_true, Bool.and_eq_true] at h
    exact ⟨pe_ife (okET C t h.1.1).2 (okET C a h.1.2).1 (okET C b h.2).1, pt_ife (okET C t h.1.1).2 (okET C a h.1.2).2 (okET C b h.2).2⟩
  | .idx a i p, h => by
    rw [chk, Bool.and_eq_true] at h
    have x : PE prog w F sx (.idx a i p) := pe_idx C (okET C a h.1).1 (okET C i h.2).1; exact ⟨x, pt_val x rfl⟩
  | .slAB a l u ps p, h => by
    rw [chk, Bool.and_eq_true, Bool.and_eq_true] at h
    have x : PE prog w F sx (.slAB a l u ps p) := pe_slAB (okET C a h.1.1).1 (okET C l h.1.2).1 (okET C u h.2).1; exact ⟨x, pt_val x rfl⟩
  | .slA a l ps p, h => by
    rw [chk, Bool.and_eq_true] at h
    have x : PE prog w F sx (.slA a l ps p) := pe_slA (okET C a h.1).1 (okET C l h.2).1; exact ⟨x, pt_val x rfl⟩
  | .slB a l ps p, h => by
    rw [chk, Bool.and_eq_true] at h
    have x : PE prog w F sx (.slB a l ps p) := pe_slB (okET C a h.1).1 (okET C l h.2).1; exact ⟨x, pt_val x rfl⟩
  | .call f xs pf p, h => by
    rw [chk, Bool.and_eq_true] at h
    have x : PE prog w F sx (.call f xs pf p) := pe_call C (kd_of h.1) h.2 (okA C xs h.2); exact ⟨x, pt_val x rfl⟩
  | .ucall f xs pf p, h => by
    rw [chk, Bool.and_eq_true, Bool.and_eq_true, decide_eq_true_eq] at h
    have x : PE prog w F sx (.ucall f xs pf p) := pe_ucall C (kd_of h.1.1) h.1.2 h.2 (okA C xs h.2); exact ⟨x, pt_val x rfl⟩
  | .ucallK f x kw y pf pk p, h => by
    rw [chk] at h
    simp only [Bool.and_eq_true, decide_eq_true_eq] at h
    obtain ⟨⟨⟨⟨⟨⟨h1, h2⟩, h3⟩, h4⟩, h5⟩, h6⟩, rfl⟩ := h
    obtain rfl := UF.isUnq_eq h2
    have z : PE prog w F sx (.ucallK .unquote x "encoding" y pf pk p) := pe_ucallK C (kd_of h1) h3 h5 (okET C x h4).1 (okET C y h6).1; exact ⟨z, pt_val z rfl⟩
  | .meth o m xs pa p, h => by
    rw [chk] at h
    simp only [Bool.and_eq_true, decide_eq_true_eq] at h
    obtain ⟨⟨⟨⟨h1, h2⟩, h3⟩, h4⟩, h5⟩ := h
    have z : PE prog w F sx (.meth o m xs pa p) := pe_meth C h2 h3 h4 h5 (okET C o h1).1 (okA C xs h5); exact ⟨z, pt_val z rfl⟩
  | .wal i e pi p, h => by
    rw [chk, Bool.and_eq_true, Bool.not_eq_true'] at h
    have z : PE prog w F sx (.wal i e pi p) := pe_wal C (okET C e h.2).1 (chk_wal_len C (nm_lt h.1)); exact ⟨z, pt_val z rfl⟩
  | .tup xs k p, h => by
    rw [chk] at h
    have z : PE prog w F sx (.tup xs k p) := pe_tup (okA C xs h); exact ⟨z, pt_val z rfl⟩
  | .list xs p, h => by
    rw [chk] at h
    have z : PE prog w F sx (.list xs p) := pe_list (okA C xs h); exact ⟨z, pt_val z rfl⟩
  | .repl o a b ka kb qa qb pa p, h => by
    rw [chk, Bool.and_eq_true, Bool.and_eq_true] at h
    have z : PE prog w F sx (.repl o a b ka kb qa qb pa p) := pe_repl C h.1.2 h.2 (okET C o h.1.1).1; exact ⟨z, pt_val z rfl⟩
  | .bytes1 e pl pf p, h => by
    rw [chk, Bool.and_eq_true, Bool.and_eq_true] at h
    have z : PE prog w F sx (.bytes1 e pl pf p) := pe_bytes1 C (kd_of h.1.1) h.2 (okET C e h.1.2).1; exact ⟨z, pt_val z rfl⟩
  | .sorted2 a b pl pf p, h => by
    rw [chk] at h
    simp only [Bool.and_eq_true] at h
    obtain ⟨⟨⟨⟨h1, h2⟩, h3⟩, h4⟩, h5⟩ := h
    have z : PE prog w F sx (.sorted2 a b pl pf p) := pe_sorted2 C (kd_of h1) h3 h5 (okET C a h2).1 (okET C b h4).1; exact ⟨z, pt_val z rfl⟩
  | .neNil a pl p, h => by
    rw [chk] at h
    exact ⟨pe_neNil C (okET C a h).1, pt_neNil C (okET C a h).1⟩
  | .dict0 p, h => have a : PE prog w F sx (.dict0 p) := pe_dict0; ⟨a, pt_val a rfl⟩
  | .fmt e p, h => by
    rw [chk] at h
    have z : PE prog w F sx (.fmt e p) := pe_fmt (okET C e h).1; exact ⟨z, pt_val z rfl⟩
  | .fstr xs p, h => by
    rw [chk] at h
    have z : PE prog w F sx (.fstr xs p) := pe_fstr (okL C xs h).2.2; exact ⟨z, pt_val z rfl⟩
  | .sp n, h => by
    rw [chk] at h
    exact ⟨pe_sp C h, pt_sp C h⟩
theorem okL (C : Ctx prog w H sx F P) : ∀ xs : CEL, chkL (kdOf F) P F.lv F.nm sx xs = true → PB prog w F sx xs ∧ PTL prog w F sx xs ∧ PJ prog w F sx xs
  | .nil, _ => ⟨pb_nil, ptl_nil, pj_nil⟩
  | .cons e r, h => by
    rw [chkL, Bool.and_eq_true] at h
    have a := okET C e h.1
    have b := okL C r h.2
    exact ⟨pb_cons a.1 b.1, ptl_cons a.2 b.2.1, pj_cons a.1 b.2.2⟩
theorem okA (C : Ctx prog w H sx F P) : ∀ xs : CEL, chkA (kdOf F) P F.lv F.nm sx xs = true → PL prog w F sx xs
  | .nil, _ => pl_nil
  | .cons e r, h => by
    rw [chkA, Bool.and_eq_true, Bool.and_eq_true] at h
    exact pl_cons h.1.2 (okET C e h.1.1).1 (okA C r h.2)
end
end Mine
end
section
open PySem PySem.Spec PySem.Calls PyProof.Rows PySem.W PySem.Builtin
set_option maxRecDepth 100000
namespace Mine
variable {prog : Program} {w : World} {H : Heap} {s : Shared} {F : FC} {σ : List Addr} {lo : Lo} {ah : AH} {sx : Nat → PySem.Expr} {sy : Nat → PySem.Stmt} {P : Nat → Bool} {ns : List Int}
abbrev PS (prog : Program) (w : World) (F : FC) (sx : Nat → PySem.Expr) (sy : Nat → PySem.Stmt) (ns : List Int) (c : CS) : Prop := ∀ lo ah (k : KS), aS ns c lo ah k → WF prog w F (execs (toS F.nm sx sy c) F.env) lo ah k
theorem swap_of (C : Ctx prog w H sx F P) {e : CE} (h : chk (kdOf F) P F.lv F.nm sx e = true) (t : Option PySem.Expr) (l : Nat) : swapsWith (toE F.nm sx e) t l F.env = pure false := by
  cases e <;> first | rfl | (rw [chk] at h; exact (C.sp1 h).swap t l)
/-- a statement is done, the rest follows -/
theorem ps_cons {st : PySem.Stmt} {r : CS} {k : KS} {σ0 : List Addr} {h0 : Heap} (hr : PS prog w F sx sy ns r)
    (h : wpAny (model prog w) F.A (exec st F.env) (fun f s' => ∃ σ' lo' ah' a, Inv prog w F σ' lo' ah' s' ∧ σ0 <+: σ' ∧ Frz h0 s'.heap ∧ RF σ' s'.heap a f ∧ seqK (aS ns r) k a lo' ah') Nev s) :
    wpAny (model prog w) F.A (execs (st :: toS F.nm sx sy r) F.env) (PostR prog w RF F σ0 h0 k) Nev s := by
  refine wpAny_execs_cons (wpAny_mono h (fun f s' ⟨σ', lo', ah', a, I', p', f', e, q⟩ => ?_) fun _ _ e => e)
  cases a with
  | next =>
    have e : f = .next := e
    subst e
    exact (hr _ _ _ q).then I' fun σ2 s2 lo2 ah2 b x I2 p2 f2 r2 q2 => ⟨σ2, lo2, ah2, b, I2, p'.trans p2, f'.trans f2, r2, q2⟩
  | brk =>
    have e : f = .brk := e
    subst e
    exact ⟨σ', lo', ah', .brk, I', p', f', rfl, q⟩
  | cont =>
    have e : f = .cont := e
    subst e
    exact ⟨σ', lo', ah', .cont, I', p', f', rfl, q⟩
  | ret v =>
    obtain ⟨u, rfl, hu⟩ := e
    exact ⟨σ', lo', ah', .ret v, I', p', f', ⟨u, rfl, hu⟩, q⟩
theorem ps_nil : PS prog w F sx sy ns .nil := fun lo ah k h σ s I => by
  simp only [aS] at h
  exact wpAny_execs_nil ⟨σ, lo, ah, .next, I, List.prefix_refl _, .refl _, rfl, h⟩
theorem ps_asg (C : Ctx prog w H sx F P) {i : Nat} {e : CE} {pi p : Pos} {r : CS} (hi : i < F.slots.length) (hs : ∀ t l, swapsWith (toE F.nm sx e) t l F.env = pure false) (he : PE prog w F sx e) (hr : PS prog w F sx sy ns r) : PS prog w F sx sy ns (.asg i e pi p r) := fun lo ah k h σ s I => by
  simp only [aS] at h
  refine ps_cons hr (wpAny_Assign_Name ((he _ _ _ h).then I fun σ1 s1 lo1 ah1 x va I1 p1 f1 r1 q1 => ?_) (hs _ _))
  exact st_loc C.ok C.st I1 (by rw [I1.llen]; exact hi) r1 fun s' I' f' => ⟨σ1, _, ah1, .next, I', p1, f1.trans f', rfl, q1⟩
theorem ps_aug (C : Ctx prog w H sx F P) {i : Nat} {op : Operator} {e : CE} {pi p : Pos} {r : CS} (he : PE prog w F sx e) (hr : PS prog w F sx sy ns r) : PS prog w F sx sy ns (.aug i op e pi p r) := fun lo ah k h σ s I => by
  simp only [aS] at h
  split at h
  · rename_i x hx
    refine ps_cons hr (wpAny_AugAssign_Name (ld_loc C.ok I hx fun v0 r0 => (he _ _ _ h).then I fun σ1 s1 lo1 ah1 y vb I1 p1 f1 r1 q1 => ?_))
    refine wpAny_mono (Op.fin (K := fun z lo' ah' => lo' = lo1 ∧ ah' = ah1 ∧ aS ns r (setL lo1 i z) ah1 k) (s := s) (σ := σ) I1 p1 f1 (op_aug I1 (r0.mono p1 f1) r1 q1) fun z ah h => ⟨rfl, h.1, h.2⟩) (fun z s2 ⟨σ2, lo2, ah2, b, I2, p2, f2, r2, e1, e2, q2⟩ => ?_) fun _ _ e => e.elim
    subst e1; subst e2
    have hl : i < lo2.length := by rw [I2.llen, ← I.llen]; exact getL_lt _ _ _ hx
    exact st_loc C.ok C.st I2 hl r2 fun s' I' f' => ⟨σ2, _, _, .next, I', p2, f2.trans f', rfl, q2⟩
  · exact h.elim
theorem ps_ex (_C : Ctx prog w H sx F P) {e : CE} {p : Pos} {r : CS} (hi : interactive F.env = false) (hs : ∀ t l, swapsWith (toE F.nm sx e) t l F.env = pure false) (he : PE prog w F sx e) (hr : PS prog w F sx sy ns r) : PS prog w F sx sy ns (.ex e p r) := fun lo ah k h σ s I => by
  simp only [aS] at h
  refine ps_cons hr (wpAny_Expr_any ((he _ _ _ h).then I fun σ1 s1 lo1 ah1 x va I1 p1 f1 r1 q1 => ?_) hi (hs _ _))
  split at q1
  · exact ⟨σ1, lo1, ah1, .next, I1, p1, f1, rfl, q1⟩
  · exact q1.elim
theorem ps_ret {e : CE} {p : Pos} (he : PE prog w F sx e) : PS prog w F sx sy ns (.ret e p) := fun lo ah k h σ s I => by
  simp only [aS] at h
  refine ps_cons (ns := ns) (sx := sx) (sy := sy) (r := .nil) (k := k) ps_nil (wpAny_Return_some ((he _ _ _ h).then I fun σ1 s1 lo1 ah1 x va I1 p1 f1 r1 q1 => ⟨σ1, lo1, ah1, .ret x, I1, p1, f1, ⟨va, rfl, r1⟩, q1⟩))
theorem ps_brk {p : Pos} : PS prog w F sx sy ns (.brk p) := fun lo ah k h σ s I => by
  simp only [aS] at h
  exact ps_cons (ns := ns) (sx := sx) (sy := sy) (r := .nil) (k := k) ps_nil (wpAny_Break ⟨σ, lo, ah, .brk, I, List.prefix_refl _, .refl _, rfl, h⟩)
theorem ps_cnt {p : Pos} : PS prog w F sx sy ns (.cnt p) := fun lo ah k h σ s I => by
  simp only [aS] at h
  exact ps_cons (ns := ns) (sx := sx) (sy := sy) (r := .nil) (k := k) ps_nil (wpAny_Continue ⟨σ, lo, ah, .cont, I, List.prefix_refl _, .refl _, rfl, h⟩)
theorem ps_ife {t : CE} {a b : CS} {p : Pos} {r : CS} (ht : PT prog w F sx t) (ha : PS prog w F sx sy ns a) (hb : PS prog w F sx sy ns b) (hr : PS prog w F sx sy ns r) : PS prog w F sx sy ns (.ife t a b p r) := fun lo ah k h σ s I => by
  simp only [aS] at h
  refine ps_cons hr (wpAny_If ((ht _ _ _ h).then I fun σ1 s1 lo1 ah1 z z' I1 p1 f1 r1 q1 => ?_))
  have e : z = z' := r1
  subst e
  cases z with
  | true => exact (ha _ _ _ (q1.1 rfl)).then I1 fun σ2 s2 lo2 ah2 y vb I2 p2 f2 r2 q2 => ⟨σ2, lo2, ah2, y, I2, p1.trans p2, f1.trans f2, r2, q2⟩
  | false => exact (hb _ _ _ (q1.2 rfl)).then I1 fun σ2 s2 lo2 ah2 y vb I2 p2 f2 r2 q2 => ⟨σ2, lo2, ah2, y, I2, p1.trans p2, f1.trans f2, r2, q2⟩
theorem ps_whl {t : CE} {a b : CS} {p : Pos} {r : CS} (ht : PT prog w F sx t) (ha : PS prog w F sx sy ns a) (hb : PS prog w F sx sy ns b) (hr : PS prog w F sx sy ns r) : PS prog w F sx sy ns (.whl t a b p r) := fun lo ah k h σ s I => by
  simp only [aS] at h
  refine ps_cons hr (wpAny_While ?_)
  have key := h (fun lo ah => ∀ σ1 s1, Inv prog w F σ1 lo ah s1 → σ <+: σ1 → Frz s.heap s1.heap → WhlRest prog w F.A Nev F.env (toE F.nm sx t) (toS F.nm sx sy a) (toS F.nm sx sy b)
    (fun f s' => ∃ σ' lo' ah' x, Inv prog w F σ' lo' ah' s' ∧ σ <+: σ' ∧ Frz s.heap s'.heap ∧ RF σ' s'.heap x f ∧ seqK (aS ns r) k x lo' ah') 1 s1) ?_
  · exact key σ s I (List.prefix_refl _) (.refl _)
  · intro lo1 ah1 h1 σ1 s1 I1 p1 f1
    refine whl_turn (k := 0) (fun _ _ e => e.elim) ((ht _ _ _ h1).then (P := fun z s2 => _) (E := Nev) I1 fun σ2 s2 lo2 ah2 z z' I2 p2 f2 r2 q2 => ?_)
    have e : z = z' := r2
    subst e
    cases z with
    | true =>
      refine WhlIf.yes rfl ((ha _ _ _ (q2.1 rfl)).then (E := Nev) I2 fun σ3 s3 lo3 ah3 x f I3 p3 f3 r3 q3 => ?_)
      cases x with
      | next => have e : f = .next := r3; subst e; exact q3 σ3 s3 I3 ((p1.trans p2).trans p3) ((f1.trans f2).trans f3)
      | cont => have e : f = .cont := r3; subst e; exact q3 σ3 s3 I3 ((p1.trans p2).trans p3) ((f1.trans f2).trans f3)
      | brk => have e : f = .brk := r3; subst e; exact ⟨σ3, lo3, ah3, .next, I3, (p1.trans p2).trans p3, (f1.trans f2).trans f3, rfl, q3⟩
      | ret v => obtain ⟨u, rfl, hu⟩ := r3; exact ⟨σ3, lo3, ah3, .ret v, I3, (p1.trans p2).trans p3, (f1.trans f2).trans f3, ⟨u, rfl, hu⟩, q3⟩
    | false =>
      exact WhlIf.no rfl ((hb _ _ _ (q2.2 rfl)).then (E := Nev) I2 fun σ3 s3 lo3 ah3 x f I3 p3 f3 r3 q3 => ⟨σ3, lo3, ah3, x, I3, (p1.trans p2).trans p3, (f1.trans f2).trans f3, r3, q3⟩)
end Mine
end
section
open PySem PySem.Spec PySem.Calls PyProof.Rows PySem.W PySem.Builtin
set_option maxRecDepth 100000
namespace Mine
variable {prog : Program} {w : World} {H : Heap} {s : Shared} {F : FC} {σ : List Addr} {lo : Lo} {ah : AH} {sx : Nat → PySem.Expr} {sy : Nat → PySem.Stmt} {P : Nat → Bool} {ns : List Int}
/-- a list's place is written: the object stays a plain list -/
theorem set_at {A : Around} {E : Value → Shared → Prop} {l : Addr} {vs : List Value} {n : Nat} {k : Int} {t : Tok} {v : Value} {Q : Unit → Shared → Prop} (ho : s.heap.get? l = some { cls := .type "list", data := .seq vs.toArray n }) (h0 : 0 ≤ k) (hf : k < 2 ^ 63) (hn : k.toNat < vs.length)
    (hQ : ∀ h' n', h'.get? l = some { cls := .type "list", data := .seq (vs.set k.toNat v).toArray n' } → Heap.SameBut l s.heap h' → Q () { s with heap := h' }) :
    wpAny (model prog w) A (setItem (.ref l) (.int k t) v) Q E s := by
  obtain ⟨n', hd'⟩ := Obj.data_mapSeq (o := { cls := .type "list", data := .seq vs.toArray n }) rfl (·.setIfInBounds k.toNat v)
  refine ki_setAt ho h0 hf (by rw [List.size_toArray]; omega) (hQ _ (if (vs.toArray.setIfInBounds k.toNat v).size == vs.toArray.size then n else n + 1) ?_ (Heap.SameBut.update ..))
  rw [Heap.get?_update_self _ ho (Obj.isFreed_of_seq hd'), ← List.setIfInBounds_toArray]
  rfl
theorem ps_asg2 (C : Ctx prog w H sx F P) {i j : Nat} {e : CE} {pi pj p : Pos} {r : CS} (hi : i < F.slots.length) (hj : j < F.slots.length) (he : PE prog w F sx e) (hr : PS prog w F sx sy ns r) : PS prog w F sx sy ns (.asg2 i j e pi pj p r) := fun lo ah k h σ s I => by
  simp only [aS] at h
  refine ps_cons hr ?_
  rw [PyProof.Rows.exec_Assign]
  refine wpAny_bind (wpAny_standAt ?_)
  rw [show swapsWithSole [.Name (F.nm i) pi, .Name (F.nm j) pj] (toE F.nm sx e) p.line F.env = pure false from rfl]
  refine wpAny_bind (wpAny_pure ?_)
  rw [if_neg (by decide)]
  refine wpAny_bind ((he _ _ _ h).then I fun σ1 s1 lo1 ah1 x va I1 p1 f1 r1 q1 => ?_)
  rw [show swappedStores [.Name (F.nm i) pi, .Name (F.nm j) pj] (toE F.nm sx e) F.env = pure none from rfl]
  refine wpAny_bind (wpAny_pure ?_)
  show wpAny _ _ (do (do holding [va] (assign (.Name (F.nm i) pi) F.env va); assign (.Name (F.nm j) pj) F.env va); pure Flow.next) _ _ s1
  refine wpAny_bind (wpAny_bind (wpAny_holding (wpAny_assign_Name (st_loc C.ok C.st I1 (by rw [I1.llen]; exact hi) r1 fun s2 I2 f2 => ?_))))
  refine (wpAny_assign_Name (st_loc C.ok C.st I2 (by rw [I2.llen]; exact hj) (r1.mono (List.prefix_refl _) f2) fun s3 I3 f3 => ?_))
  exact wpAny_pure ⟨σ1, _, ah1, .next, I3, p1, (f1.trans f2).trans f3, rfl, q1⟩
theorem ps_setI (C : Ctx prog w H sx F P) {o i v : CE} {ps p : Pos} {r : CS} (hs : ∀ t l, swapsWith (toE F.nm sx v) t l F.env = pure false) (ho : PE prog w F sx o) (hi : PE prog w F sx i) (hv : PE prog w F sx v) (hr : PS prog w F sx sy ns r) : PS prog w F sx sy ns (.setI o i v ps p r) := fun lo ah k h σ s I => by
  simp only [aS] at h
  refine ps_cons hr (wpAny_Assign_Subscript ((hv _ _ _ h).then I fun σ1 s1 lo1 ah1 x va I1 p1 f1 r1 q1 => (ho _ _ _ q1).then I1 fun σ2 s2 lo2 ah2 y vo I2 p2 f2 r2 q2 => (hi _ _ _ q2).then I2 fun σ3 s3 lo3 ah3 z vi I3 p3 f3 r3 q3 => ?_) (hs _ _))
  have rx := r1.mono (p2.trans p3) (f2.trans f3)
  have ry := r2.mono p3 f3
  have pp := (p1.trans p2).trans p3
  have ff := (f1.trans f2).trans f3
  split at q3
  · rename_i o key
    obtain ⟨es, ep, e, hl, q3⟩ := q3
    obtain ⟨a, kvs, ea, rfl, hp, r4⟩ := I3.dict e ry
    obtain ⟨t, rfl⟩ := vr_str_inv r3
    have hln := r4.length
    have hnd : (kvs.map (·.1)).Nodup := by obtain ⟨_, _, _, _, _, _, _, _, hn⟩ := hp; exact hn
    refine wpAny_setItem_pairs (strKind_is _ _ _ _) hp (fun h' hd hs => ?_) (by rw [sizeLine_eq]; omega)
    have f4 := I3.frz (mem_obj ea) hs.extBut
    have rf := List.prefix_refl σ3
    obtain ⟨ep', hd⟩ := dict_at hd
    exact ⟨σ3, lo3, _, .next, I3.setObj (tk := s3.toks + 1) ea hs.extBut (ao := .dict (dput es key x) ep') ⟨_, hd, (r4.mono rf f4).put (rx.mono rf f4) hnd⟩ (by omega), pp, ff.trans f4, rfl, q3 ep'⟩
  · rename_i o j
    obtain ⟨h0, xs, e, hj, hl, q3⟩ := q3
    obtain ⟨a, vs, n, ea, rfl, hp, r4⟩ := I3.list e ry
    obtain ⟨t, rfl⟩ := vr_int_inv r3
    have hln := r4.length
    refine set_at hp h0 (by omega) (by omega) (fun h' n' hd hs => ?_)
    have f4 := I3.frz (mem_obj ea) hs.extBut
    have rf := List.prefix_refl σ3
    exact ⟨σ3, lo3, _, .next, I3.setObj (tk := s3.toks) ea hs.extBut (ao := .list (xs.set j.toNat x)) ⟨_, ⟨n', hd⟩, (r4.mono rf f4).set _ (rx.mono rf f4)⟩ I3.tk, pp, ff.trans f4, rfl, q3⟩
  · exact q3.elim
end Mine
end
section
open PySem PySem.Spec PySem.Calls PyProof.Rows PySem.W PySem.Builtin
set_option maxRecDepth 100000
namespace Mine
variable {prog : Program} {w : World} {H : Heap} {s : Shared} {F : FC} {σ : List Addr} {lo : Lo} {ah : AH} {sx : Nat → PySem.Expr} {sy : Nat → PySem.Stmt} {P : Nat → Bool} {ns : List Int}
/-- stores, one after the other -/
theorem in_order (OK : FOk H F) (ST : StOk F) (mkf : Nat × Pos → Value → Sem Unit) (hf : ∀ x v (Q : Unit → Shared → Prop) s, wpAny (model prog w) F.A (storeName F.env (F.nm x.1) v) Q Nev s → wpAny (model prog w) F.A (mkf x v) Q Nev s) :
    ∀ (ids : List (Nat × Pos)) (avs : List AV) (vs : List Value) (lo : Lo) (ah : AH) (s : Shared) (Q : Unit → Shared → Prop), (∀ x ∈ ids, x.1 < F.slots.length) → avs.length = ids.length → Inv prog w F σ lo ah s → VRs σ s.heap avs vs →
      (∀ s', Inv prog w F σ (setLs lo ids avs) ah s' → Frz s.heap s'.heap → Q () s') → wpAny (model prog w) F.A (assignInOrder (ids.map mkf) vs) Q Nev s
  | [], [], vs, lo, ah, s, Q, _, _, I, r, h => by
    rw [r.nil_inv]
    exact wpAny_pure (h s I (.refl _))
  | x :: ids, av :: avs, vs, lo, ah, s, Q, hi, hl, I, r, h => by
    obtain ⟨v, vs, rfl, r1, r2⟩ := r.cons_inv
    show wpAny _ _ (do holding vs (mkf x v); assignInOrder (ids.map mkf) vs) _ _ s
    refine wpAny_bind (wpAny_holding (hf x v _ s (st_loc OK ST I (by rw [I.llen]; exact hi x (List.mem_cons_self ..)) r1 fun s2 I2 f2 => ?_)))
    exact in_order OK ST mkf hf ids avs vs _ ah s2 Q (fun y hy => hi y (List.mem_cons_of_mem _ hy)) (Nat.succ.inj hl) I2 (r2.mono (List.prefix_refl _) f2) fun s' I' f' => h s' I' (f2.trans f')
  | [], _ :: _, _, _, _, _, _, _, hl, _, _, _ => absurd hl (by simp)
  | _ :: _, [], _, _, _, _, _, _, hl, _, _, _ => absurd hl (by simp)
theorem each_nms {nm : Nat → Str} (env : Env) : ∀ ids : List (Nat × Pos), (assignEach (nms nm ids) env).map (·.2) = ids.map (fun x v => assign (.Name (nm x.1) x.2) env v) ∧ (assignEach (nms nm ids) env).length = ids.length ∧ (assignEach (nms nm ids) env).findIdx? (·.1) = none
  | [] => ⟨rfl, rfl, rfl⟩
  | x :: r => by
    obtain ⟨h1, h2, h3⟩ := each_nms (nm := nm) env r
    have e : assignEach (nms nm (x :: r)) env = (false, assign (.Name (nm x.1) x.2) env) :: assignEach (nms nm r) env := rfl
    rw [e]
    refine ⟨by rw [List.map_cons, h1]; rfl, by rw [List.length_cons, h2]; rfl, ?_⟩
    rw [List.findIdx?_cons]
    simp [h3]
theorem kept_but {h h' : Heap} (x : Heap.ExtBut h.objs.size h h') : ∀ b o, h.get? b = some o → h'.get? b = some o := fun b o e => x b o (Nat.ne_of_lt (Heap.lt_size e)) e
/-- a tuple goes into names -/
theorem to_names (C : Ctx prog w H sx F P) {ids : List (Nat × Pos)} {k1 : Nat} {pt : Pos} {avs : List AV} {v : Value} (hi : ∀ x ∈ ids, x.1 < F.slots.length) (hl : avs.length = ids.length) (I : Inv prog w F σ lo ah s) (r : VR σ s.heap (.tup avs) v) {Q : Unit → Shared → Prop}
    (h : ∀ s', Inv prog w F σ (setLs lo ids avs) ah s' → Frz s.heap s'.heap → Q () s') : wpAny (model prog w) F.A (assign (.Tuple (nms F.nm ids) k1 pt) F.env v) Q Nev s := by
  obtain ⟨p, vs, rfl, hp, r1⟩ := vr_tup_inv r
  obtain ⟨e1, e2, e3⟩ := each_nms (nm := F.nm) F.env ids
  refine wpAny_assign_Tuple C.ok.hand (isTup_lib hp) (by rw [e2, List.size_toArray, r1.length, hl]) e3 (fun h' hx => ?_)
  have kp := kept_but hx
  have I' := I.keep (tk := s.toks) kp I.tk
  rw [e1]
  refine wpAny_mono (in_order (σ := σ) C.ok C.st (fun x v => assign (.Name (F.nm x.1) x.2) F.env v) (fun x v Q s hq => wpAny_assign_Name hq) ids avs vs lo ah _ Q hi hl I' (r1.mono (List.prefix_refl _) (.of_keep kp)) fun s' I' f' => h s' I' ((Frz.of_keep kp).trans f')) (fun _ _ x => x) fun _ _ x => x
theorem ps_unp (C : Ctx prog w H sx F P) {ids : List (Nat × Pos)} {e : CE} {k1 : Nat} {pt p : Pos} {r : CS} (hi : ∀ x ∈ ids, x.1 < F.slots.length) (hw : swappedStores [.Tuple (nms F.nm ids) k1 pt] (toE F.nm sx e) F.env = pure none) (hs : swapsWithSole [.Tuple (nms F.nm ids) k1 pt] (toE F.nm sx e) p.line F.env = pure false) (he : PE prog w F sx e) (hr : PS prog w F sx sy ns r) :
    PS prog w F sx sy ns (.unp ids e k1 pt p r) := fun lo ah k h σ s I => by
  simp only [aS] at h
  refine ps_cons hr ?_
  rw [PyProof.Rows.exec_Assign]
  refine wpAny_bind (wpAny_standAt ?_)
  rw [hs]
  refine wpAny_bind (wpAny_pure ?_)
  rw [if_neg (by decide)]
  refine wpAny_bind ((he _ _ _ h).then I fun σ1 s1 lo1 ah1 x va I1 p1 f1 r1 q1 => ?_)
  rw [hw]
  refine wpAny_bind (wpAny_pure ?_)
  show wpAny _ _ (do assign (.Tuple (nms F.nm ids) k1 pt) F.env va; pure Flow.next) _ _ s1
  split at q1
  · exact wpAny_bind (to_names C hi q1.1 I1 r1 fun s' I' f' => wpAny_pure ⟨σ1, _, ah1, .next, I', p1, f1.trans f', rfl, q1.2⟩)
  · exact q1.elim
theorem pe_tupL {xs : CEL} {k0 n : Nat} {p : Pos} (h : PL prog w F sx xs) (hn : n ≤ 10) {k : List AV → Lo → AH → Prop} (q : aEL xs lo ah fun vs lo ah => vs.length = n ∧ k vs lo ah) :
    WE prog w F (eval (.Tuple (toEL F.nm sx xs) k0 p) F.env) lo ah (fun v lo ah => ∃ vs, v = .tup vs ∧ vs.length = n ∧ k vs lo ah) := fun σ s I => by
  refine PySem.wpAny_Tuple ((h p _ _ _ q).then I fun σ1 s1 lo1 ah1 xs vs I1 p1 f1 r1 q1 => ⟨by rw [r1.length, sizeLine_eq, q1.1]; omega, ?_⟩)
  have kp : ∀ b o, s1.heap.get? b = some o → (s1.heap.push { cls := .type "tuple", data := .seq vs.toArray }).get? b = some o := fun b o e => Heap.get?_push_of_some _ e
  exact ⟨σ1, lo1, ah1, .tup xs, I1.keep (tk := s1.toks) kp I1.tk, p1, f1.trans (.of_keep kp), vr_tup ⟨_, Heap.get?_push_size _ rfl⟩ (r1.mono (List.prefix_refl _) (.of_keep kp)), xs, rfl, q1.1, q1.2⟩
theorem ps_tupK (C : Ctx prog w H sx F P) {ids : List (Nat × Pos)} {es : CEL} {k1 k2 : Nat} {pt pv p : Pos} {r : CS} (hi : ∀ x ∈ ids, x.1 < F.slots.length) (hw : swappedStores [.Tuple (nms F.nm ids) k1 pt] (.Tuple (toEL F.nm sx es) k2 pv) F.env = pure none) (hs : swapsWithSole [.Tuple (nms F.nm ids) k1 pt] (.Tuple (toEL F.nm sx es) k2 pv) p.line F.env = pure false) (hsz : ids.length ≤ 10) (he : PL prog w F sx es) (hr : PS prog w F sx sy ns r) :
    PS prog w F sx sy ns (.tupK ids es k1 k2 pt pv p r) := fun lo ah k h σ s I => by
  simp only [aS] at h
  refine ps_cons hr ?_
  rw [PyProof.Rows.exec_Assign]
  refine wpAny_bind (wpAny_standAt ?_)
  rw [hs]
  refine wpAny_bind (wpAny_pure ?_)
  rw [if_neg (by decide)]
  refine wpAny_bind ((pe_tupL (k0 := k2) (p := pv) he hsz h).then I fun σ1 s1 lo1 ah1 x va I1 p1 f1 r1 q1 => ?_)
  obtain ⟨vs, rfl, hl, q1⟩ := q1
  rw [hw]
  refine wpAny_bind (wpAny_pure ?_)
  show wpAny _ _ (do assign (.Tuple (nms F.nm ids) k1 pt) F.env va; pure Flow.next) _ _ s1
  exact wpAny_bind (to_names C hi hl I1 r1 fun s' I' f' => wpAny_pure ⟨σ1, _, ah1, .next, I', p1, f1.trans f', rfl, q1⟩)
theorem VRs.rev {σ : List Addr} {h : Heap} : ∀ {as : List AV} {vs : List Value}, VRs σ h as vs → VRs σ h as.reverse vs.reverse
  | [], _, x => by rw [x.nil_inv]; exact .nil
  | a :: as, vs, x => by
    obtain ⟨v, r, rfl, x1, x2⟩ := x.cons_inv
    rw [List.reverse_cons, List.reverse_cons]
    exact x2.rev.append (.cons x1 .nil)
theorem ps_tupS (C : Ctx prog w H sx F P) {ids : List (Nat × Pos)} {es : CEL} {k1 k2 : Nat} {pt pv p : Pos} {r : CS} (hi : ∀ x ∈ ids, x.1 < F.slots.length) (hw : swappedStores [.Tuple (nms F.nm ids) k1 pt] (.Tuple (toEL F.nm sx es) k2 pv) F.env = pure (some (ids.map fun x => F.nm x.1)))
    (hs : swapsWithSole [.Tuple (nms F.nm ids) k1 pt] (.Tuple (toEL F.nm sx es) k2 pv) p.line F.env = pure false) (hsz : ids.length ≤ 10) (he : PL prog w F sx es) (hr : PS prog w F sx sy ns r) :
    PS prog w F sx sy ns (.tupS ids es k1 k2 pt pv p r) := fun lo ah k h σ s I => by
  simp only [aS] at h
  refine ps_cons hr (PyProof.Rows.Assign_Tuple_swapped ((pe_tupL (k0 := k2) (p := pv) he hsz h).then I fun σ1 s1 lo1 ah1 x va I1 p1 f1 r1 q1 => ?_) hs hw)
  obtain ⟨avs, rfl, hl, q1⟩ := q1
  obtain ⟨p', vs, rfl, hp, r2⟩ := vr_tup_inv r1
  have hn : (ids.map fun x => F.nm x.1).length = vs.toArray.size := by rw [List.length_map, List.size_toArray, r2.length, hl]
  rw [hn]
  refine wpAny_unpackItems_tuple C.ok.hand (isTup_lib hp) (fun h' hx => ?_)
  have kp := kept_but hx
  have I' := I1.keep (tk := s1.toks) kp I1.tk
  have em : ((ids.map fun x => F.nm x.1).reverse.map fun n => bindName F.env n) = ids.reverse.map (fun x v => bindName F.env (F.nm x.1) v) := by
    rw [← List.map_reverse, List.map_map]; rfl
  rw [em]
  have rr : VRs σ1 h' avs.reverse vs.reverse := (r2.mono (List.prefix_refl _) (.of_keep kp)).rev
  exact in_order (σ := σ1) C.ok C.st (fun x v => bindName F.env (F.nm x.1) v) (fun x v Q s hq => wpAny_bindName hq) ids.reverse avs.reverse vs.reverse lo1 ah1 _ _ (fun x hx => hi x (List.mem_reverse.mp hx)) (by rw [List.length_reverse, List.length_reverse, hl]) I' rr fun s' I2 f2 => ⟨σ1, _, ah1, .next, I2, p1, (f1.trans (.of_keep kp)).trans f2, rfl, q1⟩
end Mine
end
section
open PySem PySem.Spec PySem.Calls PyProof.Rows PySem.W PySem.Builtin
set_option maxRecDepth 100000
namespace Mine
variable {prog : Program} {w : World} {H : Heap} {s : Shared} {F : FC} {σ : List Addr} {lo : Lo} {ah : AH} {sx : Nat → PySem.Expr} {sy : Nat → PySem.Stmt} {P : Nat → Bool} {ns : List Int}
/-- one turn of a for -/
theorem for_step {A : Around} {R : Result → Shared → Prop} {target : PySem.Expr} {it : Value} {body : List PySem.Stmt} {env : Env}
    (turn : wpAny (model prog w) A (pyNext it) (fun r s₁ => match r with
      | none => R (.ok .next) s₁
      | some v => wpAny (model prog w) A (letOwnedTupleGo target it v) (fun _ s₁' => wpAny (model prog w) A (assign target env v) (fun _ s₂ => wpAny (model prog w) A (execs body env) (fun f s₃ => match f with
            | .next | .cont => codeAny (model prog w) A (.forLoop target it body [] env) R s₃
            | .brk => R (.ok .next) s₃
            | .ret v => R (.ok (.ret v)) s₃) Nev s₂) Nev s₁') Nev s₁) Nev s) : codeAny (model prog w) A (.forLoop target it body [] env) R s := by
  refine codeAny_of_tree ?_
  show wpAny _ A ((forTurn target it body [] env).onRaise (fun x => do noteFrame x env; theTreesLotGoes x)) _ _ s
  refine wpAny_noted ?_
  simp only [forTurn]
  refine wpAny_bind (wpAny_standAt (wpAny_bind (wpAny_onRaise (wpAny_mono turn (fun r s₁ h₁ => ?_) fun _ _ h' => h'.elim))))
  cases r with
  | none => exact wpAny_pure ⟨rfl, codeAny_block (wpAny_execs_nil h₁)⟩
  | some v =>
    refine wpAny_bind (wpAny_mono h₁ (fun _ s₁' h₁' => ?_) fun _ _ h' => h'.elim)
    refine wpAny_bind (wpAny_mono h₁' (fun _ s₂ h₂ => wpAny_bind (wpAny_mono h₂ (fun f s₃ h₃ => ?_) fun _ _ h' => h'.elim)) fun _ _ h' => h'.elim)
    cases f with
    | next => exact wpAny_pure ⟨rfl, h₃⟩
    | cont => exact wpAny_pure ⟨rfl, h₃⟩
    | brk => exact wpAny_pure h₃
    | ret v => exact wpAny_pure h₃
/-- what a loop's end says -/
abbrev RL (prog : Program) (w : World) (F : FC) (σ : List Addr) (h0 : Heap) (ns : List Int) (r : CS) (k : KS) : Result → Shared → Prop := fun rr s' => match rr with
  | .ok f => ∃ σ' lo' ah' x, Inv prog w F σ' lo' ah' s' ∧ σ <+: σ' ∧ Frz h0 s'.heap ∧ RF σ' s'.heap x f ∧ seqK (aS ns r) k x lo' ah'
  | .error e => cameBackBy (model prog w) F.A F.env Nev e s'
/-- an iterator moves: it is none of the own things -/
theorem Inv.iter (I : Inv prog w F σ lo ah s) {it : Addr} {o : Obj} {h' : Heap} {tk : Nat} (hn : it ∉ F.mut σ) (hpr : ∀ o, ¬ F.pr it o) (ho : s.heap.get? it = some o) (hf : frozen o = false) (hx : Heap.ExtBut it s.heap h') (ht : 1 ≤ tk) : Inv prog w F σ lo ah { s with heap := h', toks := tk } := by
  have f : Frz s.heap h' := Frz.of_same hx ho hf
  have hr := List.prefix_refl σ
  have ne : ∀ b, b ∈ F.mut σ → b ≠ it := fun b hb e => hn (e ▸ hb)
  refine ⟨I.loc.mono hr f fun b hb o e => hx b o ?_ e, I.llen, I.len, I.nd, fun b hb => ?_, fun j ao e => ?_, fun b o x => ⟨hx b o (fun e => hpr o (e ▸ x)) (I.pr b o x).1, (I.pr b o x).2⟩, ?_, I.gens, I.os, ht, fun c hc => ?_⟩
  · rcases List.mem_cons.mp hb with q | q
    · exact ne b (q ▸ mem_locals)
    · exact ne b (mem_cells q)
  · obtain ⟨o', e, ff⟩ := I.there b hb; exact ⟨o', hx b o' (ne b hb) e, ff⟩
  · obtain ⟨a, e', r⟩ := I.ob j ao e
    exact ⟨a, e', r.mono hr f fun o => hx a o (ne a (mem_obj e'))⟩
  · exact ⟨I.tabs.1.mono f fun o => hx _ o (ne _ mem_48), I.tabs.2.mono f fun o => hx _ o (ne _ mem_60)⟩
  · obtain ⟨v, o', e, d⟩ := I.cl c hc; exact ⟨v, o', hx c o' (ne c (mem_cells hc)) e, d⟩
/-- an iterator over plain values, one name -/
theorem for_plain {α : Type} (C : Ctx prog w H sx F P) (mkv : α → AV) {it : Addr} (St : List α → Obj → Prop) (hfr : ∀ xs o, St xs o → frozen o = false)
    (item : ∀ x xs o (s : Shared) (Q : Option Value → Shared → Prop), s.heap.get? it = some o → St (x :: xs) o → (∀ h' tk v o', h'.get? it = some o' → St xs o' → Heap.ExtBut it s.heap h' → (∀ σ h, VR σ h (mkv x) v) → s.toks ≤ tk → Q (some v) { s with heap := h', toks := tk }) → wpAny (model prog w) F.A (pyNext (.ref it)) Q Nev s)
    (done : ∀ o (s : Shared) (Q : Option Value → Shared → Prop), s.heap.get? it = some o → St [] o → (∀ h', Heap.ExtBut it s.heap h' → Q none { s with heap := h' }) → wpAny (model prog w) F.A (pyNext (.ref it)) Q Nev s)
    {i : Nat} {pi : Pos} {a r : CS} {k : KS} (hi : i < F.slots.length) (hpr : ∀ o, ¬ F.pr it o) (ha : ∀ p, (∀ b o, F.pr b o → p b o) → PS prog w (F.setPr p) sx sy ns a) {σ0 : List Addr} {h0 : Heap} :
    ∀ (xs : List α) (lo : Lo) (ah : AH) (σ : List Addr) (s : Shared), loopL (fun x lo ah k => aS ns a (setL lo i (mkv x)) ah k) xs lo ah (seqK (aS ns r) k) → Inv prog w F σ lo ah s → σ0 <+: σ → Frz h0 s.heap → it ∉ F.mut σ → (∃ o, s.heap.get? it = some o ∧ St xs o) →
      codeAny (model prog w) F.A (.forLoop (.Name (F.nm i) pi) (.ref it) (toS F.nm sx sy a) [] F.env) (RL prog w F σ0 h0 ns r k) s
  | [], lo, ah, σ, s, h, I, p, f, hn, ⟨o, ho, hst⟩ => by
    refine for_step (done o s _ ho hst fun h' hx => ?_)
    exact ⟨σ, lo, ah, .next, I.iter (tk := s.toks) hn hpr ho (hfr _ _ hst) hx I.tk, p, f.trans (Frz.of_same hx ho (hfr _ _ hst)), rfl, h⟩
  | x :: xs, lo, ah, σ, s, h, I, p, f, hn, ⟨o, ho, hst⟩ => by
    refine for_step (item x xs o s _ ho hst fun h' tk v o' ho' hst' hx hv ht => ?_)
    have tk1 := I.tk
    have I1 := I.iter (tk := tk) hn hpr ho (hfr _ _ hst) hx (by omega)
    have f1 := f.trans (Frz.of_same hx ho (hfr _ _ hst))
    refine wpAny_of_eq (a := ()) rfl ?_
    have I1' := I1.addPr hn ho'
    have C' : Ctx prog w H sx (F.setPr fun b o'' => F.pr b o'' ∨ (b = it ∧ o'' = o')) P := C.setPr fun b o x => .inl x
    refine wpAny_assign_Name (st_loc (F := F.setPr fun b o'' => F.pr b o'' ∨ (b = it ∧ o'' = o')) C'.ok C'.st I1' (by rw [I1'.llen]; exact hi) (hv _ _) fun s2 I3 f2 => ?_)
    simp only [loopL] at h
    refine ((ha (fun b o'' => F.pr b o'' ∨ (b = it ∧ o'' = o')) (fun b o x => .inl x) _ _ _ h).then I3 fun σ3 s3 lo3 ah3 y fl I4 p4 f4 r4 q4 => ?_)
    have hk4 := I4.pr it o' (.inr ⟨rfl, rfl⟩)
    have I5 : Inv prog w F σ3 lo3 ah3 s3 := I4.dropPr fun b o x => .inl x
    cases y with
    | next => have e : fl = .next := r4; subst e; exact for_plain C mkv St hfr item done hi hpr ha xs lo3 ah3 σ3 s3 q4 I5 (p.trans p4) ((f1.trans f2).trans f4) hk4.2 ⟨o', hk4.1, hst'⟩
    | cont => have e : fl = .cont := r4; subst e; exact for_plain C mkv St hfr item done hi hpr ha xs lo3 ah3 σ3 s3 q4 I5 (p.trans p4) ((f1.trans f2).trans f4) hk4.2 ⟨o', hk4.1, hst'⟩
    | brk => have e : fl = .brk := r4; subst e; exact ⟨σ3, lo3, ah3, .next, I5, p.trans p4, (f1.trans f2).trans f4, rfl, q4⟩
    | ret u => obtain ⟨u', rfl, hu⟩ := r4; exact ⟨σ3, lo3, ah3, .ret u, I5, p.trans p4, (f1.trans f2).trans f4, ⟨u', rfl, hu⟩, q4⟩
end Mine
end
section
open PySem PySem.Spec PySem.Calls PyProof.Rows PySem.W PySem.Builtin
set_option maxRecDepth 100000
namespace Mine
variable {prog : Program} {w : World} {H : Heap} {s : Shared} {F : FC} {σ : List Addr} {lo : Lo} {ah : AH} {sx : Nat → PySem.Expr} {sy : Nat → PySem.Stmt} {P : Nat → Bool} {ns : List Int}
def StrSt (l : List Nat) (t : Tok) (xs : List Nat) (o : Obj) : Prop := ∃ (i : Nat), xs = l.drop i ∧ o.cls = .type (strIterType (S l)) ∧ o.data = .fields #[.str (S l) t, .int i 0]
theorem strTy (l : List Nat) : strIterType (S l) = "str_ascii_iterator" ∨ strIterType (S l) = "str_iterator" := by
  unfold strIterType
  split
  · exact .inl rfl
  · exact .inr rfl
theorem StrSt.nf {l : List Nat} {t : Tok} {xs : List Nat} {o : Obj} (h : StrSt l t xs o) : frozen o = false := by
  obtain ⟨i, _, hc, hd⟩ := h
  unfold frozen
  rw [hd, hc]
  rcases strTy l with e | e <;> rw [e] <;> rfl
theorem ps_forS (C : Ctx prog w H sx F P) {i : Nat} {e : CE} {a r : CS} {pi p : Pos} (hi : i < F.slots.length) (hs : ∀ x, foldedSetIterable (toE F.nm sx e) F.env x = pure x) (he : PE prog w F sx e)
    (ha : ∀ p, (∀ b o, F.pr b o → p b o) → PS prog w (F.setPr p) sx sy ns a) (hr : PS prog w F sx sy ns r) : PS prog w F sx sy ns (.forS i e a pi p r) := fun lo ah k h σ s I => by
  simp only [aS] at h
  refine ps_cons hr (wpAny_For ((he _ _ _ h).then I fun σ1 s1 lo1 ah1 x va I1 p1 f1 r1 q1 => ?_) hs)
  split at q1
  · rename_i l
    obtain ⟨t, rfl⟩ := vr_str_inv r1
    refine wpAny_pyIter_strU ?_
    have hnew := size_none s1.heap
    have kp : ∀ b o, s1.heap.get? b = some o → (s1.heap.push { cls := .type (strIterType (S l)), data := .fields #[.str (S l) t, .int 0 0] }).get? b = some o := fun b o e => Heap.get?_push_of_some _ e
    have hpr : ∀ o, ¬ F.pr s1.heap.objs.size o := fun o x => by have := (I1.pr _ _ x).1; rw [hnew] at this; cases this
    have hn : s1.heap.objs.size ∉ F.mut σ1 := fun x => by obtain ⟨o, e, _⟩ := I1.there _ x; rw [hnew] at e; cases e
    refine for_plain C (fun c => .str [c]) (StrSt l t) (fun _ _ h => h.nf) ?_ ?_ hi hpr ha l lo1 ah1 σ1 _ q1.2 (I1.keep (tk := s1.toks) kp I1.tk) p1 (f1.trans (.of_keep kp)) hn ⟨_, Heap.get?_push_size _ rfl, 0, rfl, rfl, rfl⟩
    · intro x xs o s2 Q ho ⟨j, e, hc, hd⟩ hq
      have hj : l[j]? = some x := by
        have := congrArg List.head? e
        rw [List.head?_drop] at this
        exact this.symm
      have e2 : xs = l.drop (j + 1) := by
        have := congrArg List.tail e
        rw [List.tail_drop] at this
        exact this
      have hx : (S l).cps[j]? = some x := by simpa [S] using hj
      rcases strTy l with et | et
      · refine wpAny_pyNext_ascii_item ⟨o, ho, et ▸ hc, hd⟩ hx fun h' ⟨o', ho', hc', hd'⟩ hs' => ?_
        exact hq h' _ _ o' ho' ⟨j + 1, e2, by rw [et]; exact hc', hd'⟩ hs'.extBut (fun σ h => vr_str (l := [x])) (Nat.le_succ _)
      · refine wpAny_pyNext_wide_item ⟨o, ho, et ▸ hc, hd⟩ hx fun h' ⟨o', ho', hc', hd'⟩ hs' => ?_
        exact hq h' _ _ o' ho' ⟨j + 1, e2, by rw [et]; exact hc', hd'⟩ hs'.extBut (fun σ h => vr_str (l := [x])) (Nat.le_succ _)
    · intro o s2 Q ho ⟨j, e, hc, hd⟩ hq
      have hx : (S l).cps[j]? = none := by
        have : l.length ≤ j := by have := e.symm; rwa [List.drop_eq_nil_iff] at this
        simpa [S] using this
      rcases strTy l with et | et
      · exact wpAny_pyNext_ascii_end C.ok.hand ⟨o, ho, et ▸ hc, hd⟩ hx hq
      · exact wpAny_pyNext_wide_end C.ok.hand ⟨o, ho, et ▸ hc, hd⟩ hx hq
  · exact q1.elim
end Mine
end
section
open PySem PySem.Spec PySem.Calls PyProof.Rows PySem.W PySem.Builtin
set_option maxRecDepth 100000
namespace Mine
variable {prog : Program} {w : World} {H : Heap} {s : Shared} {F : FC} {σ : List Addr} {lo : Lo} {ah : AH} {sx : Nat → PySem.Expr} {sy : Nat → PySem.Stmt} {P : Nat → Bool} {ns : List Int}
def RgSt (n : Nat) (xs : List Nat) (o : Obj) : Prop := ∃ (i : Nat), i ≤ n ∧ xs = (List.range n).drop i ∧ o = { cls := .type "range_iterator", dict := none, data := .fields #[rawInt i, rawInt ((n : Int) - i), rawInt 1], slots := #[] }
theorem RgSt.nf {n : Nat} {xs : List Nat} {o : Obj} (h : RgSt n xs o) : frozen o = false := by
  obtain ⟨i, _, _, rfl⟩ := h; rfl
theorem ld_range (OK : FOk H F) (B : Base prog w H) (I : Inv prog w F σ lo ah s) {p : Pos} {Q : Value → Shared → Prop} {E : Value → Shared → Prop} (hk : F.env.kindOf "range" = some .globalImplicit) (q : Q (.type "range") s) :
    wpAny (model prog w) F.A (eval (.Name "range" p) F.env) Q E s := by
  obtain ⟨mg, hns, _, _, hg, _⟩ := B.g
  obtain ⟨mb, hnb, _, hb⟩ := B.b
  exact Name_function_global OK.kind hk (loadGlobal_builtin (OK.glo ▸ I.oldNs OK hns (by decide) (by decide)) hg (OK.bui ▸ I.oldNs OK hnb (by decide) (by decide)) hb q) (by decide +kernel)
theorem ps_forR (C : Ctx prog w H sx F P) {i : Nat} {e : CE} {a r : CS} {pi pf pc p : Pos} (hi : i < F.slots.length) (hk : F.env.kindOf "range" = some .globalImplicit) (hae : argOk e = true) (he : PE prog w F sx e)
    (ha : ∀ p, (∀ b o, F.pr b o → p b o) → PS prog w (F.setPr p) sx sy ns a) (hr : PS prog w F sx sy ns r) : PS prog w F sx sy ns (.forR i e a pi pf pc p r) := fun lo ah k h σ s I => by
  simp only [aS] at h
  refine ps_cons hr (wpAny_For (Call_ (ld_range C.ok C.base I hk ?_)) (fun _ => rfl))
  refine PySem.callWith_type (by rw [star_cons hae]; rfl) ?_
  rw [star_cons hae]
  refine evalArgs_plain (spliced_cons ((he _ _ _ h).then I fun σ1 s1 lo1 ah1 x va I1 p1 f1 r1 q1 => spliced_nil ?_))
  split at q1
  · rename_i n
    obtain ⟨h0, h1, q1⟩ := q1
    obtain ⟨t, rfl⟩ := vr_int_inv r1
    refine call_range_1 ?_
    have hsz : Builtin.Range.rangeSize 0 n 1 = n := by
      unfold Builtin.Range.rangeSize
      split <;> (try split) <;> omega
    have hfl : ∀ v : Int, 0 ≤ v → v ≤ 1000 → Builtin.Range.rangeFitsLong v = true := fun v h1 h2 => by
      unfold Builtin.Range.rangeFitsLong
      simp; omega
    have hsm : Builtin.Range.small 0 n 1 = true := by
      unfold Builtin.Range.small
      rw [hsz]
      simp [hfl 0 (by decide) (by decide), hfl n h0 h1, hfl 1 (by decide) (by decide)]
    refine wpAny_pyIter_range (IsRange.new s1.heap 0 n 1 _ _ _) hsm ?_
    rw [hsz]
    have e0 : (s1.heap.push { cls := .type "range", data := .fields #[.int 0 s1.toks, .int n t, .int 1 (s1.toks + 1)] }).objs.size = s1.heap.objs.size + 1 := by simp [Heap.push]
    have kp : ∀ b o, s1.heap.get? b = some o → ((s1.heap.push { cls := .type "range", data := .fields #[.int 0 s1.toks, .int n t, .int 1 (s1.toks + 1)] }).push { cls := .type "range_iterator", data := .fields #[rawInt 0, rawInt n, rawInt 1] }).get? b = some o := fun b o e => Heap.get?_push_of_some _ (Heap.get?_push_of_some _ e)
    have hnew : s1.heap.get? (s1.heap.objs.size + 1) = none := by rw [← e0]; exact size_none2 _ _
    have hpr : ∀ o, ¬ F.pr (s1.heap.objs.size + 1) o := fun o x => by have := (I1.pr _ _ x).1; rw [hnew] at this; cases this
    have hn : s1.heap.objs.size + 1 ∉ F.mut σ1 := fun x => by obtain ⟨o, e, _⟩ := I1.there _ x; rw [hnew] at e; cases e
    have hit := Heap.get?_push_size (s1.heap.push { cls := .type "range", data := .fields #[.int 0 s1.toks, .int n t, .int 1 (s1.toks + 1)] }) (o := { cls := .type "range_iterator", data := .fields #[rawInt 0, rawInt n, rawInt 1] }) rfl
    rw [e0] at hit
    dsimp only
    rw [e0]
    refine for_plain C (fun c : Nat => .int c) (RgSt n.toNat) (fun _ _ h => h.nf) ?_ ?_ hi hpr ha (List.range n.toNat) lo1 ah1 σ1 _ q1 (I1.keep (tk := s1.toks + 1 + 1) kp (by omega)) p1 (f1.trans (.of_keep kp)) hn ⟨_, hit, 0, Nat.zero_le _, rfl, by rw [show ((n.toNat : Nat) : Int) - ((0 : Nat) : Int) = n by omega]; rfl⟩
    · intro x xs o s2 Q ho ⟨j, hj, e, eo⟩ hq
      subst eo
      have hx : j < n.toNat ∧ x = j := by
        have h2 := congrArg List.head? e
        rw [List.head?_drop] at h2
        have h3 := List.getElem?_eq_some_iff.mp h2.symm
        obtain ⟨h4, h5⟩ := h3
        rw [List.length_range] at h4
        rw [List.getElem_range] at h5
        exact ⟨h4, h5.symm⟩
      obtain ⟨hj2, rfl⟩ := hx
      have e2 : xs = (List.range n.toNat).drop (x + 1) := by
        have := congrArg List.tail e
        rw [List.tail_drop] at this
        exact this
      refine wpAny_pyNext_range_item ho (by omega) fun h' hit' hs' => ?_
      refine hq h' _ _ _ hit' ⟨x + 1, hj2, e2, ?_⟩ hs'.extBut (fun σ h => vr_int) (Nat.le_succ _)
      rw [show ((n.toNat : Nat) : Int) - ((x + 1 : Nat) : Int) = ((n.toNat : Nat) : Int) - (x : Int) - 1 by omega, show ((x + 1 : Nat) : Int) = (x : Int) + 1 by omega]
    · intro o s2 Q ho ⟨j, hj, e, eo⟩ hq
      subst eo
      have hj2 : n.toNat ≤ j := by have := e.symm; rw [List.drop_eq_nil_iff, List.length_range] at this; exact this
      exact wpAny_pyNext_range_end C.ok.hand ho (by omega) hq
  · exact q1.elim
end Mine
end
section
open PySem PySem.Spec PySem.Calls PyProof.Rows PySem.W PySem.Builtin
set_option maxRecDepth 100000
namespace Mine
variable {prog : Program} {w : World} {H : Heap} {s : Shared} {F : FC} {σ : List Addr} {lo : Lo} {ah : AH} {sx : Nat → PySem.Expr} {sy : Nat → PySem.Stmt} {P : Nat → Bool} {ns : List Int}
/-- the turns of a for over a list of tuples -/
abbrev stepT (ns : List Int) (a : CS) (ids : List (Nat × Pos)) (o : Nat) (xs : List AV) : AV → Lo → AH → KS → Prop := fun x lo ah k => match x with
  | .tup vs => vs.length = ids.length ∧ aS ns a (setLs lo ids vs) ah fun f lo ah => (f = .next ∨ f = .cont → getO ah o = some (.list xs)) ∧ k f lo ah
  | _ => False
theorem forT_loop (C : Ctx prog w H sx F P) {it l : Addr} {o : Nat} {all : List AV} {ids : List (Nat × Pos)} {k1 : Nat} {pt : Pos} {a r : CS} {k : KS} (hi : ∀ x ∈ ids, x.1 < F.slots.length) (hpr : ∀ o, ¬ F.pr it o)
    (ha : ∀ p, (∀ b o, F.pr b o → p b o) → PS prog w (F.setPr p) sx sy ns a) {σ0 : List Addr} {h0 : Heap} :
    ∀ (xs : List AV) (j : Nat) (lo : Lo) (ah : AH) (σ : List Addr) (s : Shared), xs = all.drop j → getO ah o = some (.list all) → σ[o]? = some l → loopL (stepT ns a ids o all) xs lo ah (seqK (aS ns r) k) → Inv prog w F σ lo ah s → σ0 <+: σ → Frz h0 s.heap → it ∉ F.mut σ → s.heap.IsListIter it l j →
      codeAny (model prog w) F.A (.forLoop (.Tuple (nms F.nm ids) k1 pt) (.ref it) (toS F.nm sx sy a) [] F.env) (RL prog w F σ0 h0 ns r k) s
  | [], j, lo, ah, σ, s, e, eo, el, h, I, p, f, hn, hit => by
    obtain ⟨a', vs, n, ea, e2, hl, rv⟩ := I.list eo (vr_ref el)
    rw [el] at ea; cases ea
    have hj : vs.toArray[j]? = none := by
      have : all.length ≤ j := by have := e.symm; rwa [List.drop_eq_nil_iff] at this
      rw [List.getElem?_toArray, List.getElem?_eq_none_iff, rv.length]; exact this
    obtain ⟨oo, ho, hc, hd⟩ := id hit
    have hf : frozen oo = false := by unfold frozen; rw [hd, hc]; rfl
    refine for_step (wpAny_pyNext_list_end C.ok.hand hit (isList_of hl) hj fun h' hx => ?_)
    exact ⟨σ, lo, ah, .next, I.iter (tk := s.toks) hn hpr ho hf hx I.tk, p, f.trans (Frz.of_same hx ho hf), rfl, h⟩
  | x :: xs, j, lo, ah, σ, s, e, eo, el, h, I, p, f, hn, hit => by
    obtain ⟨a', vs, n, ea, e2, hl, rv⟩ := I.list eo (vr_ref el)
    rw [el] at ea; cases ea
    have hx : all[j]? = some x := by
      have := congrArg List.head? e
      rw [List.head?_drop] at this
      exact this.symm
    have e3 : xs = all.drop (j + 1) := by
      have := congrArg List.tail e
      rw [List.tail_drop] at this
      exact this
    obtain ⟨v, hv, r1⟩ := rv.get hx
    obtain ⟨oo, ho, hc, hd⟩ := id hit
    have hf : frozen oo = false := by unfold frozen; rw [hd, hc]; rfl
    simp only [loopL] at h
    cases x with
    | tup avs =>
      simp only [stepT] at h
      obtain ⟨hlen, h⟩ := h
      refine for_step (wpAny_pyNext_list_item hit (isList_of hl) (by simpa using hv) fun h' hit' hs' => ?_)
      have hx' := hs'.extBut
      have I1 := I.iter (tk := s.toks) hn hpr ho hf hx' I.tk
      have fx := Frz.of_same hx' ho hf
      have f1 := f.trans fx
      obtain ⟨q, ws, rfl, hq, rw1⟩ := vr_tup_inv r1
      refine wpAny_letOwnedTupleGo_listiter hit' ?_
      obtain ⟨o', ho', hc', hd'⟩ := id hit'
      have I1' := I1.addPr hn ho'
      have C' : Ctx prog w H sx (F.setPr fun b o'' => F.pr b o'' ∨ (b = it ∧ o'' = o')) P := C.setPr fun b o x => .inl x
      refine to_names (F := F.setPr fun b o'' => F.pr b o'' ∨ (b = it ∧ o'' = o')) C' hi hlen I1' (r1.mono (List.prefix_refl _) fx) fun s2 I3 f2 => ?_
      refine ((ha (fun b o'' => F.pr b o'' ∨ (b = it ∧ o'' = o')) (fun b o x => .inl x) _ _ _ h).then I3 fun σ3 s3 lo3 ah3 y fl I4 p4 f4 r4 q4 => ?_)
      obtain ⟨q4, q5⟩ := q4
      have hk4 := I4.pr it o' (.inr ⟨rfl, rfl⟩)
      have I5 : Inv prog w F σ3 lo3 ah3 s3 := I4.dropPr fun b o x => .inl x
      cases y with
      | next => have e : fl = .next := r4; subst e; exact forT_loop C hi hpr ha xs (j + 1) lo3 ah3 σ3 s3 e3 (q4 (.inl rfl)) (prefix_get p4 el) q5 I5 (p.trans p4) ((f1.trans f2).trans f4) hk4.2 ⟨o', hk4.1, hc', hd'⟩
      | cont => have e : fl = .cont := r4; subst e; exact forT_loop C hi hpr ha xs (j + 1) lo3 ah3 σ3 s3 e3 (q4 (.inr rfl)) (prefix_get p4 el) q5 I5 (p.trans p4) ((f1.trans f2).trans f4) hk4.2 ⟨o', hk4.1, hc', hd'⟩
      | brk => have e : fl = .brk := r4; subst e; exact ⟨σ3, lo3, ah3, .next, I5, p.trans p4, (f1.trans f2).trans f4, rfl, q5⟩
      | ret u => obtain ⟨u', rfl, hu⟩ := r4; exact ⟨σ3, lo3, ah3, .ret u, I5, p.trans p4, (f1.trans f2).trans f4, ⟨u', rfl, hu⟩, q5⟩
    | _ => exact h.elim
theorem ps_forT (C : Ctx prog w H sx F P) {ids : List (Nat × Pos)} {e : CE} {a r : CS} {k1 : Nat} {pt p : Pos} (hi : ∀ x ∈ ids, x.1 < F.slots.length) (hs : ∀ x, foldedSetIterable (toE F.nm sx e) F.env x = pure x) (he : PE prog w F sx e)
    (ha : ∀ p, (∀ b o, F.pr b o → p b o) → PS prog w (F.setPr p) sx sy ns a) (hr : PS prog w F sx sy ns r) : PS prog w F sx sy ns (.forT ids e a k1 pt p r) := fun lo ah k h σ s I => by
  simp only [aS] at h
  refine ps_cons hr (wpAny_For ((he _ _ _ h).then I fun σ1 s1 lo1 ah1 x va I1 p1 f1 r1 q1 => ?_) hs)
  split at q1
  · rename_i o
    obtain ⟨xs, eo, hlen, q1⟩ := q1
    obtain ⟨l, vs, n, el, rfl, hl, rv⟩ := I1.list eo r1
    refine wpAny_pyIter_list (isList_of hl) ?_
    have hnew := size_none s1.heap
    have kp : ∀ b o, s1.heap.get? b = some o → (s1.heap.push { cls := .type "list_iterator", data := .fields #[.ref l, .int 0 0] }).get? b = some o := fun b o e => Heap.get?_push_of_some _ e
    have hpr : ∀ o, ¬ F.pr s1.heap.objs.size o := fun o x => by have := (I1.pr _ _ x).1; rw [hnew] at this; cases this
    have hn : s1.heap.objs.size ∉ F.mut σ1 := fun x => by obtain ⟨o, e, _⟩ := I1.there _ x; rw [hnew] at e; cases e
    exact forT_loop C hi hpr ha xs 0 lo1 ah1 σ1 _ rfl eo el q1 (I1.keep (tk := s1.toks) kp I1.tk) p1 (f1.trans (.of_keep kp)) hn ⟨_, Heap.get?_push_size _ rfl, rfl, rfl⟩
  · exact q1.elim
end Mine
end
section
open PySem PySem.Spec PySem.Calls PyProof.Rows PySem.W PySem.Builtin
set_option maxRecDepth 100000
namespace Mine
variable {prog : Program} {w : World} {H : Heap} {s : Shared} {F : FC} {σ : List Addr} {lo : Lo} {ah : AH} {sx : Nat → PySem.Expr} {sy : Nat → PySem.Stmt} {P : Nat → Bool} {ns : List Int}
theorem KRs.nth {h : Heap} : ∀ {es : List (T × AV)} {kvs : List (Str × Value)}, KRs σ h es kvs → ∀ {j : Nat} {x : T × AV}, es[j]? = some x → ∃ v, kvs[j]? = some (S x.1, v) ∧ VR σ h x.2 v
  | [], [], _, _, _, e => by cases e
  | (k, a) :: es, (y, v) :: kvs, ⟨e1, r, _⟩, 0, x, e => by cases e; exact ⟨v, by rw [e1]; rfl, r⟩
  | _ :: _, (_, _) :: _, ⟨_, _, r⟩, j + 1, x, e => by
    obtain ⟨v, h1, h2⟩ := KRs.nth r (j := j) (x := x) (by simpa using e)
    exact ⟨v, by simpa using h1, h2⟩
abbrev stepD (ns : List Int) (a : CS) (ids : List (Nat × Pos)) (o : Nat) (es : List (T × AV)) (ep : Nat) : T × AV → Lo → AH → KS → Prop := fun x lo ah k =>
  aS ns a (setLs lo ids [.str x.1, x.2]) ah fun f lo ah => (f = .next ∨ f = .cont → getO ah o = some (.dict es ep)) ∧ k f lo ah
theorem forD_loop (C : Ctx prog w H sx F P) {it l : Addr} {o ep : Nat} {all : List (T × AV)} {ids : List (Nat × Pos)} {k1 : Nat} {pt : Pos} {a r : CS} {k : KS} (hi : ∀ x ∈ ids, x.1 < F.slots.length) (h2 : ids.length = 2) (hpr : ∀ o, ¬ F.pr it o)
    (ha : ∀ p, (∀ b o, F.pr b o → p b o) → PS prog w (F.setPr p) sx sy ns a) {σ0 : List Addr} {h0 : Heap} :
    ∀ (xs : List (T × AV)) (j : Nat) (lo : Lo) (ah : AH) (σ : List Addr) (s : Shared), xs = all.drop j → getO ah o = some (.dict all ep) → σ[o]? = some l → loopL (stepD ns a ids o all ep) xs lo ah (seqK (aS ns r) k) → Inv prog w F σ lo ah s → σ0 <+: σ → Frz h0 s.heap → it ∉ F.mut σ → (∃ ok ov, IsItemIter s.heap it l j all.length ep ok ov) →
      codeAny (model prog w) F.A (.forLoop (.Tuple (nms F.nm ids) k1 pt) (.ref it) (toS F.nm sx sy a) [] F.env) (RL prog w F σ0 h0 ns r k) s
  | [], j, lo, ah, σ, s, e, eo, el, h, I, p, f, hn, ⟨ok, ov, hit⟩ => by
    obtain ⟨a', kvs, ea, e2, hl, rv⟩ := I.dictA eo (vr_ref el)
    rw [el] at ea; cases ea
    have hlen := rv.length
    have hj : kvs[j]? = none := by
      have : all.length ≤ j := by have := e.symm; rwa [List.drop_eq_nil_iff] at this
      rw [List.getElem?_eq_none_iff]; omega
    rw [← hlen] at hit
    refine for_step (wpAny_pyNext_items_end C.ok.hand hit hl hj fun h' hx => ?_)
    exact ⟨σ, lo, ah, .next, I.iter (tk := s.toks) hn hpr hit rfl hx I.tk, p, f.trans (Frz.of_same hx hit rfl), rfl, h⟩
  | x :: xs, j, lo, ah, σ, s, e, eo, el, h, I, p, f, hn, ⟨ok, ov, hit⟩ => by
    obtain ⟨a', kvs, ea, e2, hl, rv⟩ := I.dictA eo (vr_ref el)
    rw [el] at ea; cases ea
    have hlen := rv.length
    have hx : all[j]? = some x := by
      have := congrArg List.head? e
      rw [List.head?_drop] at this
      exact this.symm
    have e3 : xs = all.drop (j + 1) := by
      have := congrArg List.tail e
      rw [List.tail_drop] at this
      exact this
    obtain ⟨v, hv, r1⟩ := rv.nth hx
    rw [← hlen] at hit
    simp only [loopL, stepD] at h
    refine for_step (wpAny_pyNext_items_item hit hl hv fun key h' hkey hout htup hsz hkeep => ?_)
    have hx' : Heap.ExtBut it s.heap h' := fun b o hb e => hkeep b o hb e
    have I1 := I.iter (tk := s.toks) hn hpr hit rfl hx' I.tk
    have fx := Frz.of_same hx' hit rfl
    have f1 := f.trans fx
    refine wpAny_letOwnedTupleGo_items hout fun h2' hit' hs' => ?_
    have hx2 := hs'.extBut
    have fx2 := Frz.of_same hx2 hout rfl
    have I2 := I1.iter (s := { s with heap := h' }) (tk := s.toks) hn hpr hout rfl hx2 I.tk
    have f2 := f1.trans fx2
    obtain ⟨t, ekey⟩ := Value.isStrOf_shape hkey
    subst ekey
    have rt : VR σ h2' (.tup [.str x.1, x.2]) (.ref s.heap.objs.size) := vr_tup (vs := [.str (S x.1) t, v]) ⟨0, fx2 _ _ htup rfl⟩ (.cons vr_str (.cons (r1.mono (List.prefix_refl _) (fx.trans fx2)) .nil))
    have I2' := I2.addPr hn hit'
    generalize hpp : (fun b o'' => F.pr b o'' ∨ (b = it ∧ o'' = ({ cls := .type "dict_itemiterator", dict := none, data := .fields #[.none, .bool false, .ref l, .int (j + 1 : Nat) 0, .int kvs.length 0, .int ep 0, .str (S x.1) t, v], slots := #[] } : Obj))) = pp at I2'
    have hsub : ∀ b o, F.pr b o → pp b o := fun b o x => by rw [← hpp]; exact .inl x
    have hme : pp it { cls := .type "dict_itemiterator", dict := none, data := .fields #[.none, .bool false, .ref l, .int (j + 1 : Nat) 0, .int kvs.length 0, .int ep 0, .str (S x.1) t, v], slots := #[] } := by rw [← hpp]; exact .inr ⟨rfl, rfl⟩
    have C' : Ctx prog w H sx (F.setPr pp) P := C.setPr hsub
    refine to_names (F := F.setPr pp) C' hi (by rw [h2]; rfl) I2' rt fun s2 I3 f2' => ?_
    refine ((ha pp hsub _ _ _ h).then I3 fun σ3 s3 lo3 ah3 y fl I4 p4 f4 r4 q4 => ?_)
    obtain ⟨q4, q5⟩ := q4
    have hk4 := I4.pr it _ hme
    have I5 : Inv prog w F σ3 lo3 ah3 s3 := I4.dropPr hsub
    have fin := (f2.trans f2').trans f4
    have hit5 : IsItemIter s3.heap it l (j + 1) all.length ep (.str (S x.1) t) v := by rw [← hlen]; exact hk4.1
    cases y with
    | next => have e : fl = .next := r4; subst e; exact forD_loop C hi h2 hpr ha xs (j + 1) lo3 ah3 σ3 s3 e3 (q4 (.inl rfl)) (prefix_get p4 el) q5 I5 (p.trans p4) fin hk4.2 ⟨_, _, hit5⟩
    | cont => have e : fl = .cont := r4; subst e; exact forD_loop C hi h2 hpr ha xs (j + 1) lo3 ah3 σ3 s3 e3 (q4 (.inr rfl)) (prefix_get p4 el) q5 I5 (p.trans p4) fin hk4.2 ⟨_, _, hit5⟩
    | brk => have e : fl = .brk := r4; subst e; exact ⟨σ3, lo3, ah3, .next, I5, p.trans p4, fin, rfl, q5⟩
    | ret u => obtain ⟨u', rfl, hu⟩ := r4; exact ⟨σ3, lo3, ah3, .ret u, I5, p.trans p4, fin, ⟨u', rfl, hu⟩, q5⟩
theorem ps_forD (C : Ctx prog w H sx F P) {ids : List (Nat × Pos)} {e : CE} {a r : CS} {k1 : Nat} {pt pa pc p : Pos} (hi : ∀ x ∈ ids, x.1 < F.slots.length) (hb : okBase e = true) (hl : (pa.endLine == pc.line) = true) (he : PE prog w F sx e)
    (ha : ∀ p, (∀ b o, F.pr b o → p b o) → PS prog w (F.setPr p) sx sy ns a) (hr : PS prog w F sx sy ns r) : PS prog w F sx sy ns (.forD ids e a k1 pt pa pc p r) := fun lo ah k h σ s I => by
  simp only [aS] at h
  refine ps_cons hr (wpAny_For (wpAny_Call_method_lateS (base_of hb _ _ _) rfl hl ((he _ _ _ h).then I fun σ1 s1 lo1 ah1 x va I1 p1 f1 r1 q1 => ?_)) (fun _ => rfl))
  split at q1
  · rename_i o
    obtain ⟨es, ep, eo, hlen, h2, q1⟩ := q1
    obtain ⟨l, kvs, el, rfl, hd, rv⟩ := I1.dictA eo r1
    have hln := rv.length
    refine ⟨"dict", "dict.items", PySem.F.plainAttrs_dict, PySem.F.slot_dict_items, PySem.F.type_dict_items, (dict_of hd).typeIs, fun a e => by cases e; obtain ⟨o, es, ho, hx, _⟩ := hd; exact ⟨o, ho, hx.2.1⟩, ?_⟩
    refine callWith_method0 ?_
    refine call_meetsIn PySem.F.slot_dict_items (dict_of hd).typeIs PySem.F.entry_dict_items (PySem.F.args_dict_items_1 _) (meets_dict_items (strKind prog w) l (I1.notSys C.ok C.base el)) ⟨⟨_, dict_of hd⟩, ?_⟩
    have kp : ∀ b o, s1.heap.get? b = some o → (s1.heap.push { cls := .type "dict_items", data := .fields #[.ref l] }).get? b = some o := fun b o e => Heap.get?_push_of_some _ e
    have hd2 : (s1.heap.push { cls := .type "dict_items", data := .fields #[.ref l] }).DictAt (strKind prog w) l kvs ep := by
      obtain ⟨o, es, ho, hx⟩ := hd; exact ⟨o, es, kp _ _ ho, hx⟩
    refine wpAny_pyIter_items (s := { s1 with heap := s1.heap.push { cls := .type "dict_items", data := .fields #[.ref l] } }) ⟨_, Heap.get?_push_size _ rfl, rfl, rfl⟩ hd2 ?_
    have e0 : (s1.heap.push { cls := .type "dict_items", data := .fields #[.ref l] }).objs.size = s1.heap.objs.size + 1 := by simp [Heap.push]
    dsimp only
    have hnew2 := size_none (s1.heap.push { cls := .type "dict_items", data := .fields #[.ref l] })
    have hit := Heap.get?_push_size (s1.heap.push { cls := .type "dict_items", data := .fields #[.ref l] }) (o := { cls := .type "dict_itemiterator", data := .fields #[.none, .bool false, .ref l, .int 0 0, .int kvs.length 0, .int ep 0, .none, .none] }) rfl
    have kp2 : ∀ b o, s1.heap.get? b = some o → ((s1.heap.push { cls := .type "dict_items", data := .fields #[.ref l] }).push { cls := .type "dict_itemiterator", data := .fields #[.none, .bool false, .ref l, .int 0 0, .int kvs.length 0, .int ep 0, .none, .none] }).get? b = some o := fun b o e => Heap.get?_push_of_some _ (kp b o e)
    have hpr : ∀ o, ¬ F.pr (s1.heap.push { cls := .type "dict_items", data := .fields #[.ref l] }).objs.size o := fun o x => by have := kp _ _ (I1.pr _ _ x).1; rw [hnew2] at this; cases this
    have hn : (s1.heap.push { cls := .type "dict_items", data := .fields #[.ref l] }).objs.size ∉ F.mut σ1 := fun x => by obtain ⟨o, e, _⟩ := I1.there _ x; rw [kp _ _ e] at hnew2; cases hnew2
    exact forD_loop C hi h2 hpr ha es 0 lo1 ah1 σ1 _ rfl eo el q1 (I1.keep (tk := s1.toks) kp2 I1.tk) p1 (f1.trans (.of_keep kp2)) hn ⟨.none, .none, by rw [← hln]; exact hit⟩
  · exact q1.elim
end Mine
end
section
open PySem PySem.Spec PySem.Calls PyProof.Rows PySem.W PySem.Builtin
set_option maxRecDepth 100000
namespace Mine
variable {prog : Program} {w : World} {H : Heap} {s : Shared} {σ : List Addr} {lo : Lo} {ah : AH} {sx : Nat → PySem.Expr} {sy : Nat → PySem.Stmt} {P Z : Nat → Bool} {ns : List Int}
/-- a special statement does what it should -/
def SpSOk (prog : Program) (w : World) (sy : Nat → PySem.Stmt) (ns : List Int) (F : FC) (n : Nat) : Prop :=
  ∀ lo ah (k : Lo → AH → Prop), aSpS ns lo ah k n → WF prog w F (exec (sy n) F.env) lo ah (fun f lo' ah' => f = .next ∧ k lo' ah')
section
variable (kd : Str → Bool) (P Z : Nat → Bool) (lv : Nat) (nm : Nat → Str) (sx : Nat → PySem.Expr) (env : Env)
def idsOk (ids : List (Nat × Pos)) : Bool := ids.all fun x => !(nm x.1 == Str.empty)
def chkS : CS → Prop
  | .nil => True
  | .asg i e _ _ r => (!(nm i == Str.empty) && chk kd P lv nm sx e) = true ∧ chkS r
  | .asg2 i j e _ _ _ r => (!(nm i == Str.empty) && !(nm j == Str.empty) && chk kd P lv nm sx e) = true ∧ chkS r
  | .tupS ids es k1 k2 pt pv _ r => (idsOk nm ids && decide (ids.length ≤ 10) && chkA kd P lv nm sx es) = true ∧ swappedStores [.Tuple (nms nm ids) k1 pt] (.Tuple (toEL nm sx es) k2 pv) env = pure (some (ids.map fun x => nm x.1)) ∧ chkS r
  | .tupK ids es k1 k2 pt pv _ r => (idsOk nm ids && decide (ids.length ≤ 10) && chkA kd P lv nm sx es) = true ∧ swappedStores [.Tuple (nms nm ids) k1 pt] (.Tuple (toEL nm sx es) k2 pv) env = pure none ∧ chkS r
  | .unp ids e k1 pt _ r => (idsOk nm ids && chk kd P lv nm sx e) = true ∧ swappedStores [.Tuple (nms nm ids) k1 pt] (toE nm sx e) env = pure none ∧ chkS r
  | .setI o i v _ _ r => (chk kd P lv nm sx o && chk kd P lv nm sx i && chk kd P lv nm sx v) = true ∧ chkS r
  | .aug _ _ e _ _ r => chk kd P lv nm sx e = true ∧ chkS r
  | .ex e _ r => (!interactive env && chk kd P lv nm sx e) = true ∧ chkS r
  | .ife t a b _ r => chk kd P lv nm sx t = true ∧ chkS a ∧ chkS b ∧ chkS r
  | .whl t a b _ r => chk kd P lv nm sx t = true ∧ chkS a ∧ chkS b ∧ chkS r
  | .forS i e a _ _ r => (!(nm i == Str.empty) && chk kd P lv nm sx e) = true ∧ (∀ x, foldedSetIterable (toE nm sx e) env x = pure x) ∧ chkS a ∧ chkS r
  | .forR i e a _ _ _ _ r => (!(nm i == Str.empty) && kd "range" && argOk e && chk kd P lv nm sx e) = true ∧ chkS a ∧ chkS r
  | .forT ids e a _ _ _ r => (idsOk nm ids && chk kd P lv nm sx e) = true ∧ (∀ x, foldedSetIterable (toE nm sx e) env x = pure x) ∧ chkS a ∧ chkS r
  | .forD ids e a _ _ pa pc _ r => (idsOk nm ids && okBase e && (pa.endLine == pc.line) && chk kd P lv nm sx e) = true ∧ chkS a ∧ chkS r
  | .ret e _ => chk kd P lv nm sx e = true
  | .brk _ => True
  | .cnt _ => True
  | .sp n r => Z n = true ∧ chkS r
  | .raw _ r => chkS r
end
theorem ids_lt {F : FC} {ids : List (Nat × Pos)} (h : idsOk F.nm ids = true) : ∀ x ∈ ids, x.1 < F.slots.length := fun x hx => by
  have := List.all_eq_true.mp h x hx
  rw [Bool.not_eq_true'] at this
  exact nm_lt this
theorem ps_sp {F : FC} {n : Nat} {r : CS} (h : SpSOk prog w sy ns F n) (hr : PS prog w F sx sy ns r) : PS prog w F sx sy ns (.sp n r) := fun lo ah k q σ s I => by
  simp only [aS] at q
  refine ps_cons hr ((h _ _ _ q).then I fun σ1 s1 lo1 ah1 x f I1 p1 f1 r1 q1 => ?_)
  obtain ⟨rfl, q1⟩ := q1
  exact ⟨σ1, lo1, ah1, .next, I1, p1, f1, r1, q1⟩
theorem okS : ∀ (c : CS) {F : FC} (C : Ctx prog w H sx F P) (_ : ∀ n, Z n = true → ∀ p, (∀ b o, F.pr b o → p b o) → SpSOk prog w sy ns (F.setPr p) n), chkS (kdOf F) P Z F.lv F.nm sx F.env c → PS prog w F sx sy ns c
  | .nil, _, _, _, _ => ps_nil
  | .asg i e pi p r, F, C, z, h => by
    simp only [chkS, Bool.and_eq_true, Bool.not_eq_true'] at h
    obtain ⟨⟨h1, h2⟩, h3⟩ := h
    exact ps_asg C (nm_lt h1) (swap_of C h2) (okET C e h2).1 (okS r C z h3)
  | .asg2 i j e pi pj p r, F, C, z, h => by
    simp only [chkS, Bool.and_eq_true, Bool.not_eq_true'] at h
    obtain ⟨⟨⟨h1, h2⟩, h4⟩, h3⟩ := h
    exact ps_asg2 C (nm_lt h1) (nm_lt h2) (okET C e h4).1 (okS r C z h3)
  | .tupS ids es k1 k2 pt pv p r, F, C, z, h => by
    simp only [chkS, Bool.and_eq_true, decide_eq_true_eq] at h
    obtain ⟨⟨⟨h1, h2⟩, h3⟩, h4, h5⟩ := h
    exact ps_tupS C (ids_lt h1) h4 rfl h2 (okA C es h3) (okS r C z h5)
  | .tupK ids es k1 k2 pt pv p r, F, C, z, h => by
    simp only [chkS, Bool.and_eq_true, decide_eq_true_eq] at h
    obtain ⟨⟨⟨h1, h2⟩, h3⟩, h4, h5⟩ := h
    exact ps_tupK C (ids_lt h1) h4 rfl h2 (okA C es h3) (okS r C z h5)
  | .unp ids e k1 pt p r, F, C, z, h => by
    simp only [chkS, Bool.and_eq_true] at h
    obtain ⟨⟨h1, h2⟩, h4, h5⟩ := h
    exact ps_unp C (ids_lt h1) h4 (by unfold swapsWithSole; exact swap_of C h2 _ _) (okET C e h2).1 (okS r C z h5)
  | .setI o i v ps p r, F, C, z, h => by
    simp only [chkS, Bool.and_eq_true] at h
    obtain ⟨⟨⟨h1, h2⟩, h3⟩, h4⟩ := h
    exact ps_setI C (swap_of C h3) (okET C o h1).1 (okET C i h2).1 (okET C v h3).1 (okS r C z h4)
  | .aug i op e pi p r, F, C, z, h => by
    simp only [chkS] at h
    exact ps_aug C (okET C e h.1).1 (okS r C z h.2)
  | .ex e p r, F, C, z, h => by
    simp only [chkS, Bool.and_eq_true, Bool.not_eq_true'] at h
    obtain ⟨⟨h1, h2⟩, h3⟩ := h
    exact ps_ex C h1 (swap_of C h2) (okET C e h2).1 (okS r C z h3)
  | .ife t a b p r, F, C, z, h => by
    simp only [chkS] at h
    exact ps_ife (okET C t h.1).2 (okS a C z h.2.1) (okS b C z h.2.2.1) (okS r C z h.2.2.2)
  | .whl t a b p r, F, C, z, h => by
    simp only [chkS] at h
    exact ps_whl (okET C t h.1).2 (okS a C z h.2.1) (okS b C z h.2.2.1) (okS r C z h.2.2.2)
  | .forS i e a pi p r, F, C, z, h => by
    simp only [chkS, Bool.and_eq_true, Bool.not_eq_true'] at h
    obtain ⟨⟨h1, h2⟩, h3, h4, h5⟩ := h
    exact ps_forS C (nm_lt h1) h3 (okET C e h2).1 (fun p hp => okS a (C.setPr hp) (fun n hn p' hp' => z n hn p' fun b o x => hp' b o (hp b o x)) h4) (okS r C z h5)
  | .forR i e a pi pf pc p r, F, C, z, h => by
    simp only [chkS, Bool.and_eq_true, Bool.not_eq_true'] at h
    obtain ⟨⟨⟨⟨h1, h2⟩, h6⟩, h3⟩, h4, h5⟩ := h
    exact ps_forR C (nm_lt h1) (kd_of h2) h6 (okET C e h3).1 (fun p hp => okS a (C.setPr hp) (fun n hn p' hp' => z n hn p' fun b o x => hp' b o (hp b o x)) h4) (okS r C z h5)
  | .forT ids e a k1 pt p r, F, C, z, h => by
    simp only [chkS, Bool.and_eq_true] at h
    obtain ⟨⟨h1, h2⟩, h3, h4, h5⟩ := h
    exact ps_forT C (ids_lt h1) h3 (okET C e h2).1 (fun p hp => okS a (C.setPr hp) (fun n hn p' hp' => z n hn p' fun b o x => hp' b o (hp b o x)) h4) (okS r C z h5)
  | .forD ids e a k1 pt pa pc p r, F, C, z, h => by
    simp only [chkS, Bool.and_eq_true] at h
    obtain ⟨⟨⟨⟨h1, h6⟩, h7⟩, h2⟩, h4, h5⟩ := h
    exact ps_forD C (ids_lt h1) h6 h7 (okET C e h2).1 (fun p hp => okS a (C.setPr hp) (fun n hn p' hp' => z n hn p' fun b o x => hp' b o (hp b o x)) h4) (okS r C z h5)
  | .ret e p, F, C, z, h => by
    simp only [chkS] at h
    exact ps_ret (okET C e h).1
  | .brk p, F, C, z, h => ps_brk
  | .cnt p, F, C, z, h => ps_cnt
  | .sp n r, F, C, z, h => by
    simp only [chkS] at h
    exact ps_sp (z n h.1 F.pr fun _ _ h => h) (okS r C z h.2)
  | .raw _ r, F, C, z, h => fun lo ah k q => by
    simp only [aS] at q
end Mine
end
section
open PySem PySem.Spec PySem.Calls PyProof.Rows PySem.W PySem.Builtin
set_option maxRecDepth 100000
namespace Mine
variable {prog : Program} {w : World} {H : Heap} {s : Shared} {F : FC} {σ : List Addr} {lo : Lo} {ah : AH} {sx : Nat → PySem.Expr} {sy : Nat → PySem.Stmt} {P Z : Nat → Bool} {ns : List Int}
/-! ## a call of an own function -/
def FnAt (H : Heap) (a : Addr) (fd : FuncData) : Prop := (∃ o, H.get? a = some o ∧ o.data = .func fd) ∧ H.CodeRec fd.code fd.qualname
/-- the slots of a frame: names, which of them is a cell -/
abbrev SL := List (Str × Bool)
def slotsAt (sl : SL) (c : Addr) : List (Str × Option Addr) := sl.map fun x => (x.1, if x.2 then some c else none)
structure ScOk (sc : Scope) (sl : SL) : Prop where
  kind : sc.kind = .function
  co : sc.isCoroutine = false
  gen : sc.isGenerator = false
  cs : ∀ k, cellsFrom k sc.names [] = (sl.filter (·.2)).map fun x => (x.1, k)
  one : (sl.filter (·.2)).length ≤ 1
  look : sl.all (fun x => sc.names.lookup x.1 == some (if x.2 then NameKind.cell else .local)) = true
  nd : (sl.map (·.1)).Nodup
  ndb : sl.all (fun x => !(x.1 == ("__debug__" : Str)) && !(x.1 == ("__classdict__" : Str))) = true
theorem ScOk.lookup {sc : Scope} {sl : SL} (h : ScOk sc sl) {x : Str × Bool} (hx : x ∈ sl) : sc.names.lookup x.1 = some (if x.2 then NameKind.cell else .local) := by
  have := List.all_eq_true.mp h.look x hx
  exact eq_of_beq this
theorem slotsAt_get {sl : SL} {c : Addr} {i : Nat} {n : Str} {oc : Option Addr} (h : (slotsAt sl c)[i]? = some (n, oc)) : ∃ b, sl[i]? = some (n, b) ∧ oc = if b then some c else none := by
  unfold slotsAt at h
  rw [List.getElem?_map] at h
  cases e : sl[i]? with
  | none => rw [e] at h; cases h
  | some x => rw [e] at h; cases h; exact ⟨x.2, rfl, rfl⟩
theorem slotsAt_names {sl : SL} {c : Addr} : (slotsAt sl c).map (·.1) = sl.map (·.1) := by
  unfold slotsAt; rw [List.map_map]; rfl
theorem cells_slots {sl : SL} {c : Addr} : (slotsAt sl c).filterMap (·.2) = (sl.filter (·.2)).map fun _ => c := by
  induction sl with
  | nil => rfl
  | cons x r ih =>
    obtain ⟨n, b⟩ := x
    cases b with
    | true => show c :: (slotsAt r c).filterMap (·.2) = _; rw [ih]; rfl
    | false => show (slotsAt r c).filterMap (·.2) = _; rw [ih]; rfl
theorem lookup_one {l : SL} (h1 : l.length ≤ 1) {n : Str} {b : Bool} (hm : (n, b) ∈ l) (k : Addr) : (l.map fun x => (x.1, k)).lookup n = some k := by
  match l, h1, hm with
  | [x], _, hm =>
    rw [List.mem_singleton] at hm; subst hm
    show List.lookup n [(n, k)] = some k
    rw [List.lookup_cons, beq_self_eq_true]
/-- what stands ahead of a frame -/
structure Pre (prog : Program) (w : World) (σ : List Addr) (ah : AH) (s : Shared) : Prop where
  len : σ.length = ah.length
  nd : (48 :: 60 :: σ).Nodup
  there : ∀ b ∈ 48 :: 60 :: σ, ∃ o, s.heap.get? b = some o ∧ frozen o = false
  ob : ∀ (i : Nat) (ao : AO), ah[i]? = some ao → ∃ a, σ[i]? = some a ∧ OR prog w σ s.heap a ao
  tabs : Tabs s.heap
  gens : AllBare s.gens
/-- the frame that a call makes -/
def callF (A : Around) (fd : FuncData) (L a : Addr) (sl : SL) (pr : Addr → Obj → Prop) (os : OsState) (lv : Nat) : FC :=
  { A := A.deeper (callEnvC fd L a), env := callEnvC fd L a, slots := slotsAt sl (L + 1), pr := pr, os := os, lv := lv }
theorem bindL_val {kindOf : Str → Option NameKind} : ∀ (names : List Str) (vs : List Value) (m : Str → Option Value) (n : Str), n ∉ names → bindL kindOf (names.zip vs) m n = m n
  | [], _, _, _, _ => rfl
  | _ :: _, [], _, _, _ => rfl
  | x :: r, v :: vs, m, n, h => by
    rw [List.mem_cons, not_or] at h
    show bindL kindOf (r.zip vs) (if kindOf x = some .local then fun y => if y = x then some v else m y else m) n = m n
    rw [bindL_val r vs _ n h.2]
    split
    · show (if n = x then some v else m n) = m n
      rw [if_neg h.1]
    · rfl
theorem bindL_at {kindOf : Str → Option NameKind} : ∀ (names : List Str) (vs : List Value) (m : Str → Option Value) (i : Nat) (n : Str) (v : Value), names.Nodup → (∀ x ∈ names, kindOf x = some .local) → names[i]? = some n → vs[i]? = some v → bindL kindOf (names.zip vs) m n = some v
  | [], _, _, _, _, _, _, _, h, _ => by cases h
  | _ :: _, [], _, _, _, _, _, _, _, h => by cases h
  | x :: r, u :: vs, m, 0, n, v, hd, hk, h1, h2 => by
    cases h1; cases h2
    show bindL kindOf (r.zip vs) (if kindOf x = some .local then fun y => if y = x then some u else m y else m) x = some u
    rw [bindL_val r vs _ x (List.nodup_cons.mp hd).1, if_pos (hk x (List.mem_cons_self ..)), if_pos rfl]
  | x :: r, u :: vs, m, i + 1, n, v, hd, hk, h1, h2 => by
    show bindL kindOf (r.zip vs) _ n = some v
    exact bindL_at r vs _ i n v (List.nodup_cons.mp hd).2 (fun y hy => hk y (List.mem_cons_of_mem _ hy)) (by simpa using h1) (by simpa using h2)
theorem getL_init : ∀ (avs : List AV) (n i : Nat) (av : AV), getL (avs.map some ++ List.replicate n none) i = some av → avs[i]? = some av
  | [], n, i, av, h => by
    exfalso
    have : ∀ (n i : Nat), getL (List.replicate n none) i = none := by
      intro n
      induction n with
      | zero => intro i; rfl
      | succ n ih => intro i; cases i with
        | zero => rfl
        | succ i => exact ih i
    rw [List.map_nil, List.nil_append, this] at h; cases h
  | a :: r, n, 0, av, h => h
  | a :: r, n, i + 1, av, h => by
    rw [List.getElem?_cons_succ]
    exact getL_init r n i av h
theorem st_tk {M : Model} {A : Around} {E : Value → Shared → Prop} {s₀ s : Shared} {env : Env} {m cm : Str → Option Value} {n : Str} {v : Value} {Q : Unit → Shared → Prop} (x : InCallC s₀ env.locals m env.cells cm s) (hk : env.scope.kind = .function) (hl : env.kindOf n = some .local)
    (h : ∀ s', 1 ≤ s'.toks → InCallC s₀ env.locals (fun y => if y = n then some v else m y) env.cells cm s' → Q () s') : wpAny M A (storeName env n v) Q E s := by
  refine wpAny_storeName_local hl x.toInCall.ns (fun h' hn' hs' => h _ (Nat.le_add_left 1 _) ⟨⟨?_, hn', fun b o e => ?_, x.toInCall.fresh⟩, fun k c hc => ?_, x.apart, x.above⟩) (by rw [hk]; rfl)
  · obtain ⟨h₁, tk, rfl⟩ := x.toInCall.same
    exact ⟨h', _, rfl⟩
  · exact hs'.extBut b o (Nat.ne_of_lt (Nat.lt_of_lt_of_le (Heap.lt_size e) x.toInCall.fresh)) (x.toInCall.keep b o e)
  · exact (x.cell k c hc).sameBut hs' (Nat.ne_of_gt (x.above k c (mem_of_lookup hc)))
/-- a frame with a first binding: a token has been drawn -/
theorem newEnv_tk {M : Model} {A : Around} {E : Value → Shared → Prop} {scope : Scope} {globals : Addr} {n : Str} {v : Value} {r : List (Str × Value)} {qual : Str} {func : Option Addr} {code : Value} {builtins : Addr} {Q : Env → Shared → Prop}
    (hk : scope.kind = .function) (hl : scope.names.lookup n = some .local)
    (hkind : ∀ x ∈ r, scope.names.lookup x.1 = some .local ∨ (scope.names.lookup x.1 = some .cell ∧ ((cellsFrom (s.heap.objs.size + 1) scope.names []).lookup x.1).isSome = true))
    (hQ : ∀ env, env = newEnv scope s.heap.objs.size globals (cellsFrom (s.heap.objs.size + 1) scope.names []) qual func code none builtins →
      ∀ s', InCallC s env.locals (bindL env.kindOf ((n, v) :: r) fun _ => none) env.cells (bindC env.kindOf ((n, v) :: r) fun _ => none) s' → 1 ≤ s'.toks → Q env s') :
    wpAny M A (newFunctionEnv scope globals [] ((n, v) :: r) qual func code none builtins) Q E s := by
  simp only [newFunctionEnv, Option.isSome_none, Bool.false_eq_true, if_false]
  refine wpAny_bind (wpAny_alloc ?_)
  refine wpAny_bind (wpAny_layCells _ (fun name kind cells => by cases hkc : kind == NameKind.cell <;> simp [hkc]) _ _ _ _ ?_)
  have ok := cellsFrom_ok scope.names (s.heap.push { cls := .type "frame", data := .dict #[] }) (s.heap.objs.size + 1) [] ⟨fun _ _ hm => (nomatch hm), List.Pairwise.nil⟩ (by rw [Heap.size_push]; exact Nat.le_refl _)
  rw [Heap.size_push] at ok
  rw [show ({ s with heap := s.heap.push { cls := .type "frame", data := .dict #[] } } : Shared).heap.objs.size = s.heap.objs.size + 1 from Heap.size_push ..]
  rw [List.forIn_cons]
  have x0 : InCallC s s.heap.objs.size (fun _ => none) (cellsFrom (s.heap.objs.size + 1) scope.names []) (fun _ => none) { s with heap := pushCells (s.heap.push { cls := .type "frame", data := .dict #[] }) scope.names } :=
    ⟨⟨⟨_, _, rfl⟩, (Heap.Ns.new s.heap (.type "frame")).keeps (pushCells_keeps _ _), fun b o e => pushCells_keeps _ _ b o (Heap.get?_push_of_some _ e), Nat.le_refl _⟩,
      fun n c hc => (ok.empty n c (mem_of_lookup hc)).1, ok.apart, fun n c hm => (ok.empty n c hm).2⟩
  let env := newEnv scope s.heap.objs.size globals (cellsFrom (s.heap.objs.size + 1) scope.names []) qual func code none builtins
  refine wpAny_bind (wpAny_bind (wpAny_bind (st_tk (env := env) x0 hk hl fun s' htk x' => wpAny_pure ?_)))
  refine wpAny_mono (wpAny_with_toks (E := fun _ _ => False) (Q := fun _ s'' => InCallC s env.locals (bindL env.kindOf ((n, v) :: r) fun _ => none) env.cells (bindC env.kindOf ((n, v) :: r) fun _ => none) s'' ∧ 1 ≤ s''.toks) htk (wpAny_bindParams (s₀ := s) (env := env)
    _ (fun _ _ _ => rfl) hk r _ _ _ _ x' hkind fun s'' x'' h1 => ⟨?_, h1⟩)) (fun _ s'' h2 => wpAny_pure (hQ _ rfl s'' h2.1 h2.2)) fun _ _ e => e.elim
  have hl' : env.kindOf n = some .local := hl
  unfold bindL bindC; rw [if_pos hl', if_pos hl']; exact x''
/-- a call of an own function: the frame and what holds in it -/
theorem call_fn (B : Base prog w H) {A : Around} {a : Addr} {fd : FuncData} {sl : SL} {body : List PySem.Stmt} {args : Args} {avs : List AV} {vs : List Value} {lv : Nat} {Q : Value → Shared → Prop} {E : Value → Shared → Prop}
    (old : ∀ b o, H.get? b = some o → b ≠ 48 → b ≠ 60 → s.heap.get? b = some o ∧ b ∉ σ) (hfn : FnAt H a fd) (ha : a ≠ 48 ∧ a ≠ 60)
    (hsc : ScOk fd.scope sl) (hglo : fd.globals = mainGlobals) (hbui : fd.builtins = builtinsNs) (hclo : fd.closure = []) (hbody : fd.body = .stmts body)
    (hloc : (sl.take vs.length).all (fun x => !x.2) = true) (hlen : vs.length ≤ sl.length)
    (hbind : BindsTo s fd args ((sl.map (·.1)).zip vs)) (hd : A.depth + 1 + 20 * lv ≤ 800) (hu : A.units + 3 + 200 * lv ≤ 9000) (hh : A.handled = none) (hg : A.guards = some [])
    (htk : 1 ≤ s.toks ∨ ∃ x r, (sl.map (·.1)).zip vs = x :: r) (X : Pre prog w σ ah s) (r : VRs σ s.heap avs vs)
    (h : ∀ F s', F = callF A fd s.heap.objs.size a sl (fun b o => s.heap.get? b = some o ∧ b ∉ 48 :: 60 :: σ) s.os lv → FOk H F → StOk F → Inv prog w F σ (avs.map some ++ List.replicate (sl.length - vs.length) none) ah s' → (∀ b o, s.heap.get? b = some o → s'.heap.get? b = some o) →
      wpAny (model prog w) F.A (execs body F.env) (fun f s'' => Q (match f with | .ret v => v | _ => .none) s'') Nev s') :
    wpAny (model prog w) A (call (.ref a) args.pos args.kw) Q E s := by
  obtain ⟨⟨o, ho, hdat⟩, hcd⟩ := hfn
  have ho' := (old a o ho ha.1 ha.2).1
  have hcd' : s.heap.CodeRec fd.code fd.qualname := by
    obtain ⟨c, oc, ws, t, e1, e2, e3, e4⟩ := hcd
    refine ⟨c, oc, ws, t, e1, (old c oc e2 ?_ ?_).1, e3, e4⟩
    · rintro rfl; rw [B.t48] at e2; cases e2; cases e3; cases e4
    · rintro rfl; rw [B.t60] at e2; cases e2; cases e3; cases e4
  have hlim : s.heap.NoLimit := by
    obtain ⟨mc, ⟨oc, es, ep, e, r⟩, hm⟩ := B.nolim
    exact ⟨mc, ⟨oc, es, ep, (old _ oc e (by decide) (by decide)).1, r⟩, hm⟩
  refine wpAny_call ?_
  refine codeAny_call_function (by unfold recursionLimit; omega) ho' hdat hsc.co hsc.gen hbody hcd' ?_
  rw [hclo]
  have hk2 : ∀ x ∈ (sl.map (·.1)).take vs.length, fd.scope.names.lookup x = some .local := by
    intro x hx
    rw [← List.map_take, List.mem_map] at hx
    obtain ⟨y, hy, rfl⟩ := hx
    have h1 := hsc.lookup (List.mem_of_mem_take hy)
    have h2 := List.all_eq_true.mp hloc y hy
    rw [Bool.not_eq_true'] at h2
    rw [h1, h2]; rfl
  have hzip : (sl.map (·.1)).zip vs = ((sl.map (·.1)).take vs.length).zip vs := by
    rw [List.zip_eq_zip_take_min, Nat.min_eq_right (by rw [List.length_map]; exact hlen), List.take_length]
  refine hbind _ _ _ _ ?_
  rw [hzip]
  rw [hzip] at htk
  have mk : ∀ (A' : Around) (Q' : Env → Shared → Prop) (E' : Value → Shared → Prop), (∀ env, env = newEnv fd.scope s.heap.objs.size fd.globals (cellsFrom (s.heap.objs.size + 1) fd.scope.names []) (fd.qualname ++ ".<locals>.") (some a) fd.code none fd.builtins →
      ∀ s', InCallC s env.locals (bindL env.kindOf (((sl.map (·.1)).take vs.length).zip vs) fun _ => none) env.cells (bindC env.kindOf (((sl.map (·.1)).take vs.length).zip vs) fun _ => none) s' → 1 ≤ s'.toks → Q' env s') →
      wpAny (model prog w) A' (newFunctionEnv fd.scope fd.globals [] (((sl.map (·.1)).take vs.length).zip vs) (fd.qualname ++ ".<locals>.") (some a) fd.code none fd.builtins) Q' E' s := by
    intro A' Q' E' h'
    have hall : ∀ x ∈ ((sl.map (·.1)).take vs.length).zip vs, fd.scope.names.lookup x.1 = some .local := fun x hx => hk2 x.1 (List.of_mem_zip hx).1
    rcases htk with htk | ⟨y, r', e⟩
    · exact wpAny_mono (wpAny_with_toks (E := fun e s' => False) htk (wpAny_newFunctionEnv_cells (Q := fun env s' => 1 ≤ s'.toks → Q' env s') hsc.kind (fun x hx => .inl (hall x hx)) fun env he s' x htk => h' env he s' x htk)) (fun _ _ q => q) fun _ _ e => e.elim
    · rw [e] at hall h' ⊢
      exact newEnv_tk hsc.kind (hall y (List.mem_cons_self ..)) (fun x hx => .inl (hall x (List.mem_cons_of_mem _ hx))) h'
  refine mk _ _ _ fun env he s' x htk => ?_
  have he' : env = callEnvC fd s.heap.objs.size a := he
  subst he'
  have hkeep := x.toInCall.keep
  have Ln := size_none s.heap
  obtain ⟨h1, tk1, es'⟩ := x.toInCall.same
  have hcells : (callEnvC fd s.heap.objs.size a).cells = (sl.filter (·.2)).map fun y => (y.1, s.heap.objs.size + 1) := hsc.cs _
  have hkindOf : ∀ {y : Str × Bool}, y ∈ sl → (callEnvC fd s.heap.objs.size a).kindOf y.1 = some (if y.2 then NameKind.cell else .local) := fun hy => hsc.lookup hy
  refine ⟨hlim.keeps hkeep, codeAny_func ?_⟩
  let F := callF A fd s.heap.objs.size a sl (fun b o => s.heap.get? b = some o ∧ b ∉ 48 :: 60 :: σ) s.os lv
  have hbn : ∀ b : Nat, b ∈ (48 :: 60 :: σ : List Nat) → b < s.heap.objs.size := fun b hb => let ⟨o, e, _⟩ := X.there b hb; Heap.lt_size e
  have hcOf : F.cellsOf = (sl.filter (·.2)).map fun _ => s.heap.objs.size + 1 := cells_slots
  have hcm : ∀ c ∈ F.cellsOf, c = s.heap.objs.size + 1 ∧ s'.heap.IsCell c none := by
    intro c hc
    rw [hcOf, List.mem_map] at hc
    obtain ⟨y, hy, rfl⟩ := hc
    refine ⟨rfl, ?_⟩
    have hl : (callEnvC fd s.heap.objs.size a).cells.lookup y.1 = some (s.heap.objs.size + 1) := by rw [hcells]; exact lookup_one hsc.one hy _
    have := x.cell y.1 _ hl
    have e0 : ∀ (names : List Str) (vs : List Value) (m : Str → Option Value), (∀ z ∈ names, (callEnvC fd s.heap.objs.size a).kindOf z = some .local) → bindC (callEnvC fd s.heap.objs.size a).kindOf (names.zip vs) m = m := by
      intro names
      induction names with
      | nil => intro vs m _; rfl
      | cons z zs ih =>
        intro vs m hz
        cases vs with
        | nil => rfl
        | cons v vs =>
          show bindC _ (zs.zip vs) (if (callEnvC fd s.heap.objs.size a).kindOf z = some .local then m else _) = m
          rw [if_pos (hz z (List.mem_cons_self ..))]
          exact ih vs m fun y hy => hz y (List.mem_cons_of_mem _ hy)
    rw [e0 _ _ _ hk2] at this
    exact this
  have hcnd : F.cellsOf.Nodup := by
    rw [hcOf]
    match (generalizing := false) hq : sl.filter (·.2), hsc.one with
    | [], _ => rw [hq]; exact List.nodup_nil
    | [y], _ => rw [hq]; exact List.nodup_cons.mpr ⟨List.not_mem_nil, List.nodup_nil⟩
    | _ :: _ :: _, h => exact absurd (hq ▸ hsc.one) (by simp)
  have OK : FOk H F := by
    refine ⟨hsc.kind, hglo, hbui, fun i n e => ?_, fun i n c e => ?_, ?_, fun y hy => ?_, hcnd, fun b o e h1 h2 => ?_, ?_, ?_, hh, hg⟩
    · obtain ⟨b, e1, e2⟩ := slotsAt_get e
      cases b with
      | true => cases e2
      | false => exact hkindOf (List.mem_of_getElem? e1)
    · obtain ⟨b, e1, e2⟩ := slotsAt_get e
      cases b with
      | false => cases e2
      | true =>
        rw [if_pos rfl] at e2; cases e2
        refine ⟨.inl (hkindOf (List.mem_of_getElem? e1)), ?_⟩
        show (callEnvC fd s.heap.objs.size a).cells.lookup n = _
        rw [hcells]
        exact lookup_one hsc.one (List.mem_filter.mpr ⟨List.mem_of_getElem? e1, rfl⟩) _
    · show ((slotsAt sl _).map (·.1)).Nodup
      rw [slotsAt_names]; exact hsc.nd
    · have hy : y ∈ (slotsAt sl (s.heap.objs.size + 1)).map (·.1) := hy
      rw [slotsAt_names, List.mem_map] at hy
      obtain ⟨z, hz, rfl⟩ := hy
      have := List.all_eq_true.mp hsc.ndb z hz
      rw [Bool.and_eq_true, Bool.not_eq_true', Bool.not_eq_true'] at this
      exact this
    · obtain ⟨h3, h4⟩ := old b o e h1 h2
      exact ⟨h3, by simp only [List.mem_cons, not_or]; exact ⟨h1, h2, h4⟩⟩
    · show A.depth + 1 + 20 * lv ≤ 800; exact hd
    · show A.units + 3 + 200 * lv ≤ 9000; exact hu
  have ST : StOk F := fun i n c e => by
    obtain ⟨b, e1, e2⟩ := slotsAt_get e
    cases b with
    | false => cases e2
    | true => exact hkindOf (List.mem_of_getElem? e1)
  have hmut : ∀ b, b ∈ F.mut σ ↔ b ∈ 48 :: 60 :: σ ∨ b = s.heap.objs.size ∨ b ∈ F.cellsOf := fun b => by
    unfold FC.mut
    simp only [List.mem_cons, List.mem_append]
    show b = 48 ∨ b = 60 ∨ b = s.heap.objs.size ∨ b ∈ F.cellsOf ∨ b ∈ σ ↔ _
    constructor
    · rintro (h | h | h | h | h)
      · exact .inl (.inl h)
      · exact .inl (.inr (.inl h))
      · exact .inr (.inl h)
      · exact .inr (.inr h)
      · exact .inl (.inr (.inr h))
    · rintro ((h | h | h) | h | h)
      · exact .inl h
      · exact .inr (.inl h)
      · exact .inr (.inr (.inr (.inr h)))
      · exact .inr (.inr (.inl h))
      · exact .inr (.inr (.inr (.inl h)))
  have hr := List.prefix_refl σ
  have fz : Frz s.heap s'.heap := .of_keep hkeep
  have I : Inv prog w F σ (avs.map some ++ List.replicate (sl.length - vs.length) none) ah s' := by
    refine ⟨⟨_, x.toInCall.ns, fun i n oc av h1 h2 => ?_⟩, ?_, X.len, ?_, fun b hb => ?_, fun i ao e => ?_, fun b o e => ⟨hkeep b o e.1, fun hb => ?_⟩, ?_, ?_, ?_, ?_, fun c hc => ⟨_, (hcm c hc).2⟩⟩
    · obtain ⟨b, e1, e2⟩ := slotsAt_get h1
      have hav := getL_init avs _ i av h2
      obtain ⟨v, hv, rv⟩ := r.get hav
      have hi : i < vs.length := (List.getElem?_eq_some_iff.mp hv).1
      have hb : b = false := by
        have hm : (n, b) ∈ sl.take vs.length := List.mem_of_getElem? (i := i) (by rw [List.getElem?_take, if_pos hi]; exact e1)
        have := List.all_eq_true.mp hloc _ hm
        simpa using this
      subst hb
      have e2 : oc = none := e2
      subst e2
      refine ⟨v, ?_, rv.mono hr fz⟩
      refine bindL_at _ vs _ i n v ?_ hk2 ?_ hv
      · exact (List.take_sublist _ _).nodup hsc.nd
      · rw [List.getElem?_take, if_pos hi, List.getElem?_map, e1]; rfl
    · rw [List.length_append, List.length_map, List.length_replicate]
      show _ = (slotsAt sl _).length
      unfold slotsAt
      rw [List.length_map]
      have := r.length
      omega
    · unfold FC.mut
      have n := X.nd
      simp only [List.nodup_cons, List.mem_cons, not_or] at n
      obtain ⟨⟨n1, n2⟩, n3, n4⟩ := n
      have hcb : ∀ c : Nat, c ∈ F.cellsOf → c = (s.heap.objs.size + 1 : Nat) := fun c hc => (hcm c hc).1
      have l48 := hbn 48 (.head _)
      have l60 := hbn 60 (.tail _ (.head _))
      have hσ : ∀ b : Nat, b ∈ (σ : List Nat) → b < s.heap.objs.size := fun b hb => hbn b (.tail _ (.tail _ hb))
      show (48 :: 60 :: s.heap.objs.size :: (F.cellsOf ++ σ) : List Nat).Nodup
      simp only [List.nodup_cons, List.mem_cons, List.mem_append, not_or, List.nodup_append]
      refine ⟨⟨n1, by omega, fun h => by have := hcb _ h; omega, n2⟩, ⟨by omega, fun h => by have := hcb _ h; omega, n3⟩, ⟨fun h => by have := hcb _ h; omega, fun h => by have := hσ _ h; omega⟩, hcnd, n4, fun c hc b hb e => by have := hcb _ hc; have := hσ _ hb; omega⟩
    · rcases (hmut b).mp hb with h | h | h
      · obtain ⟨o, e, f⟩ := X.there b h; exact ⟨o, hkeep b o e, f⟩
      · obtain ⟨o, es, ep, e, f⟩ := x.toInCall.ns
        subst h
        exact ⟨o, e, frozen_dict f.1⟩
      · exact frozen_cell (hcm b h).2
    · obtain ⟨b, e', r'⟩ := X.ob i ao e
      exact ⟨b, e', r'.mono hr fz (hkeep b)⟩
    · rcases (hmut b).mp hb with h | h | h
      · exact e.2 h
      · subst h; have := e.1; rw [Ln] at this; cases this
      · have h5 : (b : Nat) = s.heap.objs.size + 1 := (hcm b h).1
        have h6 : (b : Nat) < s.heap.objs.size := Heap.lt_size e.1
        rw [h5] at h6
        exact Nat.lt_irrefl _ (Nat.lt_trans (Nat.lt_succ_self _) h6)
    · exact ⟨X.tabs.1.mono fz (hkeep _), X.tabs.2.mono fz (hkeep _)⟩
    · rw [es']; exact X.gens
    · rw [es']; rfl
    · exact htk
  exact wpAny_mono (h F s' rfl OK ST I hkeep) (fun f s'' q => q) fun _ _ e => e.elim
end Mine
end
section
open PySem PySem.Spec PySem.Calls PyProof.Rows PySem.W PySem.Builtin
set_option maxRecDepth 100000
namespace Mine
variable {prog : Program} {w : World} {H : Heap} {s : Shared} {F : FC} {σ : List Addr} {lo : Lo} {ah : AH} {sx : Nat → PySem.Expr} {sy : Nat → PySem.Stmt} {P Z : Nat → Bool} {ns : List Int}
/-- values and objects without refs -/
def flatV : AV → Bool
  | .none => true | .bool _ => true | .int _ => true | .str _ => true | .bytes _ => true
  | _ => false
def flatO : AO → Bool
  | .list xs => xs.all flatV
  | .dict es _ => es.all fun e => flatV e.2
theorem VR.flat {σ σ' : List Addr} {h : Heap} {x : AV} {v : Value} (hf : flatV x = true) (r : VR σ h x v) : VR σ' h x v := by
  cases x <;> first | (cases hf; done) | (simp only [VR] at r ⊢; exact r)
theorem VRs.flat {σ σ' : List Addr} {h : Heap} : ∀ {xs : List AV} {vs : List Value}, xs.all flatV = true → VRs σ h xs vs → VRs σ' h xs vs
  | [], _, _, r => by rw [r.nil_inv]; exact .nil
  | x :: xs, vs, hf, r => by
    obtain ⟨v, r', rfl, r1, r2⟩ := r.cons_inv
    rw [List.all_cons, Bool.and_eq_true] at hf
    exact .cons (r1.flat hf.1) (r2.flat hf.2)
theorem KRs.flat {σ σ' : List Addr} {h : Heap} : ∀ {es : List (T × AV)} {kvs : List (Str × Value)}, (es.all fun e => flatV e.2) = true → KRs σ h es kvs → KRs σ' h es kvs
  | [], [], _, _ => trivial
  | (_, _) :: _, (_, _) :: _, hf, ⟨e, r1, r2⟩ => by
    rw [List.all_cons, Bool.and_eq_true] at hf
    exact ⟨e, r1.flat hf.1, r2.flat hf.2⟩
theorem OR.flat {σ σ' : List Addr} {h : Heap} {a : Addr} {ao : AO} (hf : flatO ao = true) (r : OR prog w σ h a ao) : OR prog w σ' h a ao := by
  cases ao with
  | list xs => obtain ⟨vs, e, r⟩ := r; exact ⟨vs, e, r.flat hf⟩
  | dict es ep => obtain ⟨kvs, e, r⟩ := r; exact ⟨kvs, e, r.flat hf⟩
/-- an object that is there is taken up -/
theorem Inv.takeObj (I : Inv prog w F σ lo ah s) {a : Addr} {ao : AO} (hna : a ∉ F.mut σ) (hpr : ∀ o, ¬ F.pr a o) (hn : OR prog w (σ ++ [a]) s.heap a ao) : Inv prog w F (σ ++ [a]) lo (ah ++ [ao]) s := by
  have hp : σ <+: σ ++ [a] := List.prefix_append ..
  have f := Frz.refl s.heap
  have e : F.mut (σ ++ [a]) = F.mut σ ++ [a] := by unfold FC.mut; simp
  refine ⟨I.loc.mono hp f fun b _ o x => x, I.llen, by rw [List.length_append, List.length_append, I.len]; rfl, ?_, fun b hb => ?_, fun j x q => ?_, fun b o x => ⟨(I.pr b o x).1, ?_⟩, I.tabs, I.gens, I.os, I.tk, I.cl⟩
  · rw [e, List.nodup_append]
    exact ⟨I.nd, by simp, fun x hx y hy q => hna (by rw [List.mem_singleton] at hy; rw [← hy, ← q]; exact hx)⟩
  · rw [e, List.mem_append, List.mem_singleton] at hb
    rcases hb with hb | rfl
    · exact I.there b hb
    · exact hn.obj
  · by_cases hj : j < ah.length
    · rw [List.getElem?_append_left hj] at q
      obtain ⟨b, e', r⟩ := I.ob j x q
      exact ⟨b, prefix_get hp e', r.mono hp f fun o x => x⟩
    · have hl := (List.getElem?_eq_some_iff.mp q).1
      rw [List.length_append, List.length_singleton] at hl
      have : j = ah.length := by omega
      subst this
      rw [List.getElem?_append_right (Nat.le_refl _), Nat.sub_self] at q
      cases q
      exact ⟨a, by rw [← I.len, List.getElem?_append_right (Nat.le_refl _), Nat.sub_self]; rfl, hn⟩
  · rw [e, List.mem_append, List.mem_singleton, not_or]
    exact ⟨(I.pr b o x).2, fun q => by subst q; exact hpr o x⟩
/-- what a function hands back -/
def Out (n0 : Nat) (k : KA) (ah ah2 : AH) : AV → Prop
  | .str l => k (.str l) ah
  | .ref j => n0 ≤ j ∧ ∃ o, getO ah2 j = some o ∧ flatO o = true ∧ k (.ref ah.length) (ah ++ [o])
  | .tup [.str l, .ref j] => n0 ≤ j ∧ ∃ o, getO ah2 j = some o ∧ flatO o = true ∧ k (.tup [.str l, .ref ah.length]) (ah ++ [o])
  | _ => False
/-- the caller's side: what the callee was not given stands as it stood -/
theorem come_back (I : Inv prog w F σ lo ah s) {F' : FC} {σ0 σ2 : List Addr} {ah0 ah2 : AH} {lo2 : Lo} {s2 : Shared} (hF : F'.pr = fun b o => s.heap.get? b = some o ∧ b ∉ 48 :: 60 :: σ0) (hos : F'.os = F.os)
    (hσ : ∀ b ∈ σ0, b ∈ σ) (h0 : ∀ (i : Nat) a, σ0[i]? = some a → ∃ (j : Nat) (ao : AO), σ[j]? = some a ∧ ah[j]? = some ao ∧ ah0[i]? = some ao ∧ flatO ao = true) (hl0 : σ0.length = ah0.length)
    (I2 : Inv prog w F' σ2 lo2 ah2 s2) (hp : σ0 <+: σ2) (f : Frz s.heap s2.heap) (same : ∀ i < ah0.length, ah2[i]? = ah0[i]?) : Inv prog w F σ lo ah s2 := by
  obtain ⟨⟨p0, p1, p2, p3, p4, p5, p6⟩, q1, q2, q3, q4, q5⟩ := I.parts
  have keep : ∀ b o, s.heap.get? b = some o → b ≠ 48 → b ≠ 60 → b ∉ σ0 → s2.heap.get? b = some o := fun b o e h1 h2 h3 => (I2.pr b o (by rw [hF]; exact ⟨e, by simp only [List.mem_cons, not_or]; exact ⟨h1, h2, h3⟩⟩)).1
  have m0 : ∀ b ∈ 48 :: 60 :: σ0, b ∈ F'.mut σ2 := fun b hb => by
    rcases List.mem_cons.mp hb with h | hb
    · rw [h]; exact mem_48
    rcases List.mem_cons.mp hb with h | hb
    · rw [h]; exact mem_60
    obtain ⟨i, hi⟩ := List.getElem?_of_mem hb
    exact mem_obj (prefix_get hp hi)
  have hr := List.prefix_refl σ
  have keepL : ∀ b ∈ F.env.locals :: F.cellsOf, ∀ o, s.heap.get? b = some o → s2.heap.get? b = some o := fun b hb o e => by
    rcases List.mem_cons.mp hb with h | h
    · subst h; exact keep _ o e (fun h => p1 h.symm) (fun h => p2 h.symm) fun h => q2 (hσ _ h)
    · exact keep b o e (fun x => p3 (x ▸ h)) (fun x => p4 (x ▸ h)) fun x => q5 b h (hσ _ x)
  refine ⟨I.loc.mono hr f keepL, I.llen, I.len, I.nd, fun b hb => ?_, fun j ao e => ?_, fun b o x => ?_, I2.tabs, I2.gens, by rw [I2.os, hos], I2.tk, fun c hc => ?_⟩
  · by_cases h : b ∈ 48 :: 60 :: σ0
    · exact I2.there b (m0 b h)
    · obtain ⟨o, e, g⟩ := I.there b hb
      simp only [List.mem_cons, not_or] at h
      exact ⟨o, keep b o e h.1 h.2.1 h.2.2, g⟩
  · obtain ⟨a, e', r⟩ := I.ob j ao e
    refine ⟨a, e', ?_⟩
    by_cases h : a ∈ σ0
    · obtain ⟨i, hi⟩ := List.getElem?_of_mem h
      obtain ⟨j', ao', h1, h2, h3, h4⟩ := h0 i a hi
      have : j' = j := (List.getElem?_inj (List.getElem?_eq_some_iff.mp h1).1 q4).mp (h1.trans e'.symm)
      subst this
      rw [e] at h2; cases h2
      have hi2 : i < ah0.length := (List.getElem?_eq_some_iff.mp h3).1
      obtain ⟨b, e2, r2⟩ := I2.ob i ao (by rw [same i hi2, h3])
      rw [prefix_get hp hi] at e2; cases e2
      exact r2.flat h4
    · have ha := List.mem_of_getElem? e'
      exact r.mono hr f fun o e => keep a o e (fun x => p5 (x ▸ ha)) (fun x => p6 (x ▸ ha)) h
  · obtain ⟨h1, h2⟩ := I.pr b o x
    refine ⟨keep b o h1 (fun x => h2 (x ▸ mem_48)) (fun x => h2 (x ▸ mem_60)) fun x => h2 ?_, h2⟩
    obtain ⟨i, hi⟩ := List.getElem?_of_mem (hσ _ x)
    exact mem_obj hi
  · obtain ⟨v, o, e, d⟩ := I.cl c hc; exact ⟨v, o, keepL c (.tail _ hc) o e, d⟩
/-- the callee's new object is none of the caller's -/
theorem new_there (I : Inv prog w F σ lo ah s) {F' : FC} {σ0 σ2 : List Addr} {ah0 ah2 : AH} {lo2 : Lo} {s2 : Shared} (hF : F'.pr = fun b o => s.heap.get? b = some o ∧ b ∉ 48 :: 60 :: σ0) (hσ : ∀ b ∈ σ0, b ∈ σ)
    (hl0 : σ0.length = ah0.length) (I2 : Inv prog w F' σ2 lo2 ah2 s2) (hp : σ0 <+: σ2) {j : Nat} (hj : ah0.length ≤ j) {a : Addr} (ha : σ2[j]? = some a) : a ∉ F.mut σ ∧ ∀ o, ¬ F.pr a o := by
  obtain ⟨⟨p0, p1, p2, p3, p4, p5, p6⟩, q1, q2, q3, q4, q5⟩ := I2.parts
  have hm := List.mem_of_getElem? ha
  have h3 : a ∉ 48 :: 60 :: σ0 := by
    simp only [List.mem_cons, not_or]
    refine ⟨fun x => p5 (x ▸ hm), fun x => p6 (x ▸ hm), fun x => ?_⟩
    obtain ⟨i, hi⟩ := List.getElem?_of_mem x
    have hi2 := (List.getElem?_eq_some_iff.mp hi).1
    have : i = j := (List.getElem?_inj (List.getElem?_eq_some_iff.mp (prefix_get hp hi)).1 q4).mp ((prefix_get hp hi).trans ha.symm)
    omega
  have no : ∀ o, s.heap.get? a = some o → False := fun o e => (I2.pr a o (by rw [hF]; exact ⟨e, h3⟩)).2 (mem_obj ha)
  exact ⟨fun h => let ⟨o, e, _⟩ := I.there a h; no o e, fun o h => no o (I.pr a o h).1⟩
def nmS (sl : SL) (i : Nat) : Str := (sl.getD i (Str.empty, false)).1
theorem nm_callF {A : Around} {fd : FuncData} {L a : Addr} {sl : SL} {pr : Addr → Obj → Prop} {os : OsState} {lv : Nat} : (callF A fd L a sl pr os lv).nm = nmS sl := by
  funext i
  unfold FC.nm nmS callF slotsAt
  simp only [List.getD_eq_getElem?_getD, List.getElem?_map]
  cases sl[i]? <;> rfl
def kdS (sc : Scope) (x : Str) : Bool := match sc.names.lookup x with
  | some .globalImplicit => true
  | _ => false
/-- what stands for the whole run -/
structure Gl (prog : Program) (w : World) (H : Heap) : Prop where
  base : Base prog w H
  pats : Pats H
  fn : ∀ f : UF, ∃ o fd, H.get? f.a = some o ∧ o.data = .func fd
  pair : PairOk prog w H
/-- what is to be shown of an own function once and for all -/
structure FnOk (prog : Program) (w : World) (H : Heap) (a : Addr) (fd : FuncData) (sl : SL) (sx : Nat → PySem.Expr) (sy : Nat → PySem.Stmt) (P Z : Nat → Bool) (ns : List Int) (lv : Nat) (core : CS) : Prop where
  at_ : FnAt H a fd
  na : a ≠ 48 ∧ a ≠ 60
  sc : ScOk fd.scope sl
  glo : fd.globals = mainGlobals
  bui : fd.builtins = builtinsNs
  clo : fd.closure = []
  body : fd.body = .stmts (toS (nmS sl) sx sy core)
  chk : ∀ L a, chkS (kdS fd.scope) P Z lv (nmS sl) sx (callEnvC fd L a) core
  spe : ∀ n, P n = true → ∀ A L a pr os lv, FOk H (callF A fd L a sl pr os lv) → StOk (callF A fd L a sl pr os lv) → SpOk prog w sx (callF A fd L a sl pr os lv) n
  sps : ∀ n, Z n = true → ∀ A L a pr os lv, FOk H (callF A fd L a sl pr os lv) → StOk (callF A fd L a sl pr os lv) → SpSOk prog w sy ns (callF A fd L a sl pr os lv) n
theorem u_call (G : Gl prog w H) {lv : Nat} (U : ∀ f : UF, f.lev ≤ lv → UOk prog w H f) (UK : UF.unquote.lev ≤ lv → UOkK prog w H) {a : Addr} {fd : FuncData} {sl : SL} {core : CS} (O : FnOk prog w H a fd sl sx sy P Z ns lv core)
    (OK : FOk H F) (hlv : lv + 1 ≤ F.lv) (I : Inv prog w F σ lo ah s) {args : Args} {avs : List AV} {vs : List Value} {σ0 : List Addr} {ah0 : AH} {k : KA}
    (hσ : ∀ b ∈ σ0, b ∈ σ) (hnd : σ0.Nodup) (h0 : ∀ (i : Nat) a, σ0[i]? = some a → ∃ (j : Nat) (ao : AO), σ[j]? = some a ∧ ah[j]? = some ao ∧ ah0[i]? = some ao ∧ flatO ao = true) (hl0 : σ0.length = ah0.length)
    (hloc : (sl.take vs.length).all (fun x => !x.2) = true) (hlen : vs.length ≤ sl.length) (hbind : BindsTo s fd args ((sl.map (·.1)).zip vs)) (r : VRs σ0 s.heap avs vs)
    (h : aS ns core (avs.map some ++ List.replicate (sl.length - vs.length) none) ah0 fun f lo2 ah2 => ∃ v, f = .ret v ∧ (∀ i < ah0.length, ah2[i]? = ah0[i]?) ∧ Out ah0.length k ah ah2 v) :
    Op prog w F σ lo s (call (.ref a) args.pos args.kw) k := by
  obtain ⟨⟨p0, p1, p2, p3, p4, p5, p6⟩, q1, q2, q3, q4, q5⟩ := I.parts
  have X : Pre prog w σ0 ah0 s := by
    refine ⟨hl0, ?_, fun b hb => ?_, fun i ao e => ?_, I.tabs, I.gens⟩
    · simp only [List.nodup_cons, List.mem_cons, not_or]
      exact ⟨⟨p0, fun x => p5 (hσ _ x)⟩, fun x => p6 (hσ _ x), hnd⟩
    · rcases List.mem_cons.mp hb with h | hb
      · rw [h]; exact I.there _ mem_48
      rcases List.mem_cons.mp hb with h | hb
      · rw [h]; exact I.there _ mem_60
      obtain ⟨i, hi⟩ := List.getElem?_of_mem (hσ _ hb)
      exact I.there _ (mem_obj hi)
    · have hi : i < σ0.length := by rw [hl0]; exact (List.getElem?_eq_some_iff.mp e).1
      obtain ⟨b, hb⟩ : ∃ b, σ0[i]? = some b := ⟨_, List.getElem?_eq_getElem hi⟩
      obtain ⟨j, ao', h1, h2, h3, h4⟩ := h0 i b hb
      rw [e] at h3; cases h3
      obtain ⟨b', e', r'⟩ := I.ob j _ h2
      rw [h1] at e'; cases e'
      exact ⟨b, hb, r'.flat h4⟩
  have hd := OK.depth
  have hu := OK.units
  refine call_fn (lv := lv) G.base (fun b o e h1 h2 => ?_) O.at_ O.na O.sc O.glo O.bui O.clo O.body hloc hlen hbind (by omega) (by omega) OK.hand OK.guards (.inl I.tk) X r fun F' s' hF OK' ST' I' hk => ?_
  · obtain ⟨h3, h4⟩ := I.pr b o (OK.base b o e h1 h2)
    refine ⟨h3, fun x => h4 ?_⟩
    obtain ⟨i, hi⟩ := List.getElem?_of_mem (hσ _ x)
    exact mem_obj hi
  · have hpr : F'.pr = fun b o => s.heap.get? b = some o ∧ b ∉ 48 :: 60 :: σ0 := by rw [hF]; rfl
    have hos : F'.os = F.os := by rw [hF]; exact I.os
    have hlv' : F'.lv = lv := by rw [hF]; rfl
    have C : Ctx prog w H sx F' P := by
      refine ⟨OK', G.base, G.pats, ST', G.fn, fun f hf => U f (by rw [← hlv']; exact hf), fun hf => UK (by rw [← hlv']; exact hf), fun n hn p hp => ?_, G.pair⟩
      have OK2 := OK'.setPr hp
      have ST2 : StOk (F'.setPr p) := ST'
      subst hF
      exact O.spe n hn _ _ _ _ _ _ OK2 ST2
    have hz : ∀ n, Z n = true → ∀ p, (∀ b o, F'.pr b o → p b o) → SpSOk prog w sy ns (F'.setPr p) n := fun n hn p hp => by
      have OK2 := OK'.setPr hp
      have ST2 : StOk (F'.setPr p) := ST'
      subst hF
      exact O.sps n hn _ _ _ _ _ _ OK2 ST2
    have hnm : F'.nm = nmS sl := by rw [hF]; exact nm_callF
    have hch : chkS (kdOf F') P Z F'.lv F'.nm sx F'.env core := by
      rw [hnm, hlv', hF]
      exact O.chk _ _
    have z := okS core C hz hch _ _ _ h
    rw [hnm] at z
    refine z.then I' fun σ2 s2 lo2 ah2 b f I2 p2 f2 r2 ⟨v, e, hsm, out⟩ => ?_
    subst e
    obtain ⟨u, rfl, ru⟩ := r2
    intro _
    have ff : Frz s.heap s2.heap := (Frz.of_keep hk).trans f2
    have back := come_back I hpr hos hσ h0 hl0 I2 p2 ff hsm
    have newO : ∀ {j : Nat} {o : AO}, ah0.length ≤ j → getO ah2 j = some o → flatO o = true → ∀ {a : Addr}, σ2[j]? = some a → Inv prog w F (σ ++ [a]) lo (ah ++ [o]) s2 := by
      intro j o hj ho hf a ha
      obtain ⟨n1, n2⟩ := new_there I hpr hσ hl0 I2 p2 hj ha
      rw [getO_eq] at ho
      obtain ⟨a', e', r'⟩ := I2.ob j o ho
      rw [ha] at e'; cases e'
      exact back.takeObj n1 n2 (r'.flat hf)
    have hp : ∀ a, σ <+: σ ++ [a] := fun a => List.prefix_append ..
    have hlast : ∀ a : Addr, (σ ++ [a])[ah.length]? = some a := fun a => by rw [← I.len, List.getElem?_append_right (Nat.le_refl _), Nat.sub_self]; rfl
    unfold Out at out
    split at out
    · obtain ⟨t, rfl⟩ := vr_str_inv ru
      exact ⟨σ, lo, ah, _, back, List.prefix_refl _, ff, vr_str, rfl, out⟩
    · rename_i j
      obtain ⟨hj, o, ho, hf, out⟩ := out
      obtain ⟨a, ha, rfl⟩ := vr_ref_inv ru
      exact ⟨σ ++ [a], lo, ah ++ [o], _, newO hj ho hf ha, hp a, ff, vr_ref (hlast a), rfl, out⟩
    · rename_i l j
      obtain ⟨hj, o, ho, hf, out⟩ := out
      obtain ⟨p, ws, rfl, hpt, rw1⟩ := vr_tup_inv ru
      obtain ⟨v1, ws1, rfl, rv1, rw2⟩ := rw1.cons_inv
      obtain ⟨v2, ws2, rfl, rv2, rw3⟩ := rw2.cons_inv
      rw [rw3.nil_inv] at hpt
      obtain ⟨t, rfl⟩ := vr_str_inv rv1
      obtain ⟨a, ha, rfl⟩ := vr_ref_inv rv2
      exact ⟨σ ++ [a], lo, ah ++ [o], _, newO hj ho hf ha, hp a, ff, vr_tup hpt (.cons vr_str (.cons (vr_ref (hlast a)) .nil)), rfl, out⟩
    · exact out.elim
end Mine
end
section
open PySem PySem.Spec PySem.Calls PyProof.Rows PySem.W PySem.Builtin
set_option maxRecDepth 100000
set_option maxHeartbeats 2000000
namespace Mine
variable {prog : Program} {w : World} {H : Heap} {ns : List Int}
/-! ## the functions of the text -/
def noPos : Pos := ⟨0, 0, 0, 0⟩
def stm (i : Nat) : PySem.Stmt := PySem.Challenge.pw_ez0418_01.main.body.getD i (.Pass noPos)
def dName : PySem.Stmt → Str | .FunctionDef n _ _ _ _ _ _ _ _ _ => n | _ => Str.empty
def dPar : PySem.Stmt → Arguments | .FunctionDef _ p _ _ _ _ _ _ _ _ => p | _ => ⟨[], [], none, [], [], none, []⟩
def dBody : PySem.Stmt → List PySem.Stmt | .FunctionDef _ _ b _ _ _ _ _ _ _ => b | _ => []
def dSc : PySem.Stmt → Scope | .FunctionDef _ _ _ _ _ _ sc _ _ _ => sc | _ => { kind := .function, names := [], isGenerator := false, isCoroutine := false }
def th : PySem.Stmt → List PySem.Stmt | .If _ b _ _ => b | .For _ _ b _ _ => b | .While _ b _ _ => b | _ => []
def el : PySem.Stmt → List PySem.Stmt | .If _ _ b _ => b | _ => []
def tst : PySem.Stmt → PySem.Expr | .If t _ _ _ => t | _ => .Name Str.empty noPos
def val : PySem.Stmt → PySem.Expr | .Assign _ e _ => e | .Expr e _ => e | .Return (some e) _ => e | _ => .Name Str.empty noPos
def vals : PySem.Expr → List PySem.Expr | .BoolOp _ es _ => es | _ => []
def nth (l : List PySem.Stmt) (i : Nat) : PySem.Stmt := l.getD i (.Pass noPos)
/-- the special expressions -/
def sxP : Nat → PySem.Expr
  | 0 => tst (nth (th (nth (th (nth (dBody (stm 16)) 12)) 3)) 2)
  | 1 => tst (nth (th (nth (dBody (stm 7)) 2)) 1)
  | 2 => val (nth (th (nth (dBody (stm 9)) 0)) 0)
  | 3 => (vals (tst (nth (el (nth (th (nth (dBody (stm 26)) 2)) 2)) 0))).getD 2 (.Name Str.empty noPos)
  | 4 => val (nth (th (nth (dBody (stm 27)) 3)) 1)
  | 5 => val (nth (dBody (stm 16)) 13)
  | _ => .Name Str.empty noPos
/-- the special statements -/
def syP : Nat → PySem.Stmt
  | 0 => nth (dBody (stm 27)) 0
  | 1 => nth (th (nth (dBody (stm 27)) 6)) 3
  | _ => .Pass noPos
def fdOf (i : Nat) (df : Value) (pm : Str) (t : Tok) (c : Addr) : FuncData :=
  { name := dName (stm i), qualname := dName (stm i), params := dPar (stm i), body := .stmts (dBody (stm i)), scope := dSc (stm i), globals := 3, closure := [], defaults := df, kwdefaults := .none, pyModule := .str pm t, code := .ref c }
def fdU : UF → FuncData
  | .text => fdOf 3 .none "werkzeug._quoting" 282 37
  | .unquote => fdOf 4 .none "werkzeug._quoting" 282 44
  | .qhv => fdOf 7 (.ref 46) "werkzeug.http" 305 52
  | .uqhv => fdOf 9 .none "werkzeug.http" 305 64
  | .dump => fdOf 10 .none "werkzeug.http" 305 71
  | .parse => fdOf 16 .none "werkzeug.http" 305 101
  | .tongues => fdOf 21 .none "law_ez0418_01" 593 114
  | .spaces => fdOf 22 .none "law_ez0418_01" 593 121
  | .coded => fdOf 23 .none "law_ez0418_01" 593 128
  | .quoted => fdOf 24 .none "law_ez0418_01" 593 135
  | .pieces => fdOf 25 .none "law_ez0418_01" 593 142
  | .written => fdOf 26 .none "law_ez0418_01" 593 147
def fdLaw : FuncData := fdOf 27 .none "law_ez0418_01" 593 152
def slU : UF → SL
  | .text => [("octets", false), ("encoding", false)]
  | .unquote => [("string", false), ("encoding", false), ("out", false), ("octets", false), ("pos", false)]
  | .qhv => [("value", false), ("allow_token", false), ("value_str", false), ("token_chars", true)]
  | .uqhv => [("value", false)]
  | .dump => [("header", false), ("options", false), ("segments", false), ("key", false), ("value", false)]
  | .parse => [("value", false), ("_", false), ("rest", false), ("parts", false), ("scan_pos", false), ("length", false), ("m_key", false), ("pk", false), ("m_value", false), ("quote_pos", false), ("m_delim", false), ("options", false), ("continuations", false), ("continuation_encodings", false), ("pv", false), ("encoding", false), ("has_continuation", false), ("has_charset", false), ("m_mark", false), ("m_charset", false)]
  | .tongues => []
  | .spaces => []
  | .coded => [("text", false), ("kind", false), ("bare", false), ("out", false), ("sign", false)]
  | .quoted => [("text", false)]
  | .pieces => [("text", false), ("draw", false), ("bits", false), ("cuts", false)]
  | .written => [("name", false), ("text", false), ("draw", false), ("bits", false), ("kind", false), ("pieces", false), ("told", false), ("parts", false), ("n", false), ("piece", false), ("way", false), ("mark", false), ("front", false)]
def slLaw : SL := [("script", false), ("cells", false), ("wanted", false), ("rows", false), ("k", false), ("draw", true), ("bits", false), ("text", false), ("name", false), ("main", false), ("line", false), ("turn", false), ("between", false), ("place", false), ("read", false), ("again", false)]
def coU : UF → CS
  | .text => b_text | .unquote => b_unquote | .qhv => b_quote_header_value | .uqhv => b_unquote_header_value | .dump => b_dump_options_header | .parse => b_parse_options_header
  | .tongues => b_law_tongues | .spaces => b_law_spaces | .coded => b_law_coded | .quoted => b_law_quoted | .pieces => b_law_pieces | .written => b_law_written
def PU : UF → Nat → Bool
  | .qhv, 1 => true | .uqhv, 2 => true | .written, 3 => true | .parse, 0 => true | .parse, 5 => true
  | _, _ => false
def PLaw : Nat → Bool | 4 => true | _ => false
def ZNo : Nat → Bool := fun _ => false
def ZLaw : Nat → Bool | 0 => true | 1 => true | _ => false

/-- what is seen of a function without a run -/
structure Stat (fd : FuncData) (sl : SL) (P Z : Nat → Bool) (lv : Nat) (core : CS) : Prop where
  sc : ScOk fd.scope sl
  body : fd.body = .stmts (toS (nmS sl) sxP syP core)
  chk : ∀ L a, chkS (kdS fd.scope) P Z lv (nmS sl) sxP (callEnvC fd L a) core

theorem st_text : Stat (fdU .text) (slU .text) (PU .text) ZNo 0 b_text :=
  ⟨⟨by kernel_rfl, by kernel_rfl, by kernel_rfl, fun k => by kernel_rfl, by decide +kernel, by kernel_rfl, by decide +kernel, by kernel_rfl⟩, by kernel_rfl, fun L a => by
    simp only [b_text, chkS]
    repeat' (first | exact True.intro | refine And.intro ?_ ?_ | kernel_rfl | (intro x; kernel_rfl))⟩
theorem st_unquote : Stat (fdU .unquote) (slU .unquote) (PU .unquote) ZNo 1 b_unquote :=
  ⟨⟨by kernel_rfl, by kernel_rfl, by kernel_rfl, fun k => by kernel_rfl, by decide +kernel, by kernel_rfl, by decide +kernel, by kernel_rfl⟩, by kernel_rfl, fun L a => by
    simp only [b_unquote, chkS]
    repeat' (first | exact True.intro | refine And.intro ?_ ?_ | kernel_rfl | (intro x; kernel_rfl))⟩
theorem st_qhv : Stat (fdU .qhv) (slU .qhv) (PU .qhv) ZNo 0 b_quote_header_value :=
  ⟨⟨by kernel_rfl, by kernel_rfl, by kernel_rfl, fun k => by kernel_rfl, by decide +kernel, by kernel_rfl, by decide +kernel, by kernel_rfl⟩, by kernel_rfl, fun L a => by
    simp only [b_quote_header_value, chkS]
    repeat' (first | exact True.intro | refine And.intro ?_ ?_ | kernel_rfl | (intro x; kernel_rfl))⟩
theorem st_uqhv : Stat (fdU .uqhv) (slU .uqhv) (PU .uqhv) ZNo 0 b_unquote_header_value :=
  ⟨⟨by kernel_rfl, by kernel_rfl, by kernel_rfl, fun k => by kernel_rfl, by decide +kernel, by kernel_rfl, by decide +kernel, by kernel_rfl⟩, by kernel_rfl, fun L a => by
    simp only [b_unquote_header_value, chkS]
    repeat' (first | exact True.intro | refine And.intro ?_ ?_ | kernel_rfl | (intro x; kernel_rfl))⟩
theorem st_dump : Stat (fdU .dump) (slU .dump) (PU .dump) ZNo 1 b_dump_options_header :=
  ⟨⟨by kernel_rfl, by kernel_rfl, by kernel_rfl, fun k => by kernel_rfl, by decide +kernel, by kernel_rfl, by decide +kernel, by kernel_rfl⟩, by kernel_rfl, fun L a => by
    simp only [b_dump_options_header, chkS]
    repeat' (first | exact True.intro | refine And.intro ?_ ?_ | kernel_rfl | (intro x; kernel_rfl))⟩
theorem st_parse : Stat (fdU .parse) (slU .parse) (PU .parse) ZNo 2 b_parse_options_header :=
  ⟨⟨by kernel_rfl, by kernel_rfl, by kernel_rfl, fun k => by kernel_rfl, by decide +kernel, by kernel_rfl, by decide +kernel, by kernel_rfl⟩, by kernel_rfl, fun L a => by
    simp only [b_parse_options_header, bp_tail, bp_turn, bp_enc, bp_put, bp_scan, bp_delim, bp_key, bp_quote, chkS]
    repeat' (first | exact True.intro | refine And.intro ?_ ?_ | kernel_rfl | (intro x; kernel_rfl))⟩
theorem st_tongues : Stat (fdU .tongues) (slU .tongues) (PU .tongues) ZNo 0 b_law_tongues :=
  ⟨⟨by kernel_rfl, by kernel_rfl, by kernel_rfl, fun k => by kernel_rfl, by decide +kernel, by kernel_rfl, by decide +kernel, by kernel_rfl⟩, by kernel_rfl, fun L a => by
    simp only [b_law_tongues, chkS]
    repeat' (first | exact True.intro | refine And.intro ?_ ?_ | kernel_rfl | (intro x; kernel_rfl))⟩
theorem st_spaces : Stat (fdU .spaces) (slU .spaces) (PU .spaces) ZNo 0 b_law_spaces :=
  ⟨⟨by kernel_rfl, by kernel_rfl, by kernel_rfl, fun k => by kernel_rfl, by decide +kernel, by kernel_rfl, by decide +kernel, by kernel_rfl⟩, by kernel_rfl, fun L a => by
    simp only [b_law_spaces, chkS]
    repeat' (first | exact True.intro | refine And.intro ?_ ?_ | kernel_rfl | (intro x; kernel_rfl))⟩
theorem st_coded : Stat (fdU .coded) (slU .coded) (PU .coded) ZNo 0 b_law_coded :=
  ⟨⟨by kernel_rfl, by kernel_rfl, by kernel_rfl, fun k => by kernel_rfl, by decide +kernel, by kernel_rfl, by decide +kernel, by kernel_rfl⟩, by kernel_rfl, fun L a => by
    simp only [b_law_coded, chkS]
    repeat' (first | exact True.intro | refine And.intro ?_ ?_ | kernel_rfl | (intro x; kernel_rfl))⟩
theorem st_quoted : Stat (fdU .quoted) (slU .quoted) (PU .quoted) ZNo 0 b_law_quoted :=
  ⟨⟨by kernel_rfl, by kernel_rfl, by kernel_rfl, fun k => by kernel_rfl, by decide +kernel, by kernel_rfl, by decide +kernel, by kernel_rfl⟩, by kernel_rfl, fun L a => by
    simp only [b_law_quoted, chkS]
    repeat' (first | exact True.intro | refine And.intro ?_ ?_ | kernel_rfl | (intro x; kernel_rfl))⟩
theorem st_pieces : Stat (fdU .pieces) (slU .pieces) (PU .pieces) ZNo 0 b_law_pieces :=
  ⟨⟨by kernel_rfl, by kernel_rfl, by kernel_rfl, fun k => by kernel_rfl, by decide +kernel, by kernel_rfl, by decide +kernel, by kernel_rfl⟩, by kernel_rfl, fun L a => by
    simp only [b_law_pieces, chkS]
    repeat' (first | exact True.intro | refine And.intro ?_ ?_ | kernel_rfl | (intro x; kernel_rfl))⟩
theorem st_written : Stat (fdU .written) (slU .written) (PU .written) ZNo 1 b_law_written :=
  ⟨⟨by kernel_rfl, by kernel_rfl, by kernel_rfl, fun k => by kernel_rfl, by decide +kernel, by kernel_rfl, by decide +kernel, by kernel_rfl⟩, by kernel_rfl, fun L a => by
    simp only [b_law_written, chkS]
    repeat' (first | exact True.intro | refine And.intro ?_ ?_ | kernel_rfl | (intro x; kernel_rfl))⟩
theorem st_law : Stat fdLaw slLaw PLaw ZLaw 3 b_law :=
  ⟨⟨by kernel_rfl, by kernel_rfl, by kernel_rfl, fun k => by kernel_rfl, by decide +kernel, by kernel_rfl, by decide +kernel, by kernel_rfl⟩, by kernel_rfl, fun L a => by
    simp only [b_law, bl_row, bl_turn, bl_end, chkS]
    repeat' (first | exact True.intro | refine And.intro ?_ ?_ | kernel_rfl | (intro x; kernel_rfl))⟩
end Mine
end
section
open PySem PySem.Spec PySem.Calls PyProof.Rows PySem.W PySem.Builtin
set_option maxRecDepth 100000
namespace Mine
variable {prog : Program} {w : World} {H : Heap} {s : Shared} {F : FC} {σ : List Addr} {lo : Lo} {ah : AH}
/-! ## two pairs compared -/
def EqIn (prog : Program) (w : World) (A : Around) (s : Shared) (y x : Value) : Prop := ∀ (E : Value → Shared → Prop) (Q : Bool → Shared → Prop), Q true s → wpAny (model prog w) A (eqBool y x) Q E s
theorem tuple_eqIn (l b : Addr) (items items2 : Array Value) (n n2 : Nat) (hz : items.size = items2.size) :
    MeetsIn prog w (Builtin.«tuple.__eq__» ⟨[.ref l, .ref b], []⟩)
      (fun A R s => s.heap.get? l = some { cls := .type "tuple", data := .seq items n } ∧ s.heap.get? b = some { cls := .type "tuple", data := .seq items2 n2 } ∧
        (∀ p ∈ items.toList.zip items2.toList, EqIn prog w A.in1 s p.1 p.2) ∧ R (.ok (.ret (.bool true))) s) :=
  .of_wp fun A R s h => by
    obtain ⟨hp, g, d, tk, os⟩ := s; obtain ⟨hl, hb, he, h⟩ := h
    have f2 := AutoSeq1.sub_tuple_tuple
    wp_walk using wpAny_loadPart' hl, wpAny_loadPart' hb, wpAny_forIn_list _ (fun rest b s' => b.1 = none ∧ s' = ⟨hp, g, d, tk, os⟩ ∧ ∀ p ∈ rest, EqIn prog w A.in1 ⟨hp, g, d, tk, os⟩ p.1 p.2) _
    case turn =>
      rintro ⟨y, x⟩ rest b s' ⟨hb', rfl, hR⟩
      refine wpAny_bind (hR (y, x) (List.mem_cons_self ..) _ _ ?_)
      wp_walk
      exact ⟨rfl, rfl, fun p hp => hR p (List.mem_cons_of_mem _ hp)⟩
    case fin =>
      rintro ⟨b1, b2⟩ s' ⟨hb', rfl, hR⟩
      simp only at hb'
      subst hb'
      wp_walk
      refine ⟨_, rfl, ?_⟩
      simpa [Builtin.Tuple.tupleCompareSizes, hz] using h
    case h =>
      exact ⟨rfl, rfl, he⟩
theorem dict_eqIn (d1 d2 : Addr) (kvs kws : List (Str × Value)) (h1 : (d1 == sysModules) = false) (h2 : (d2 == sysModules) = false) (hz : kvs.length = kws.length) :
    MeetsIn prog w (Builtin.«dict.__eq__» ⟨[.ref d1, .ref d2], []⟩)
      (fun A R s => s.heap.DictOf (strKind prog w) d1 kvs ∧ s.heap.DictOf (strKind prog w) d2 kws ∧ (∀ p ∈ kvs, ∃ v', valueAt kws p.1 = some v' ∧ EqIn prog w A.in1 s p.2 v') ∧ R (.ok (.ret (.bool true))) s) :=
  .of_wp fun A R s h => by
    obtain ⟨hd1, hd2, he, h⟩ := h
    obtain ⟨o1, es1, ep1, ho1, hc1, hdd1, hk1, hp1, hn1⟩ := id hd1
    obtain ⟨o2, es2, ep2, ho2, hc2, hdd2, hk2, hp2, hn2⟩ := id hd2
    have f2 := PySem.F.sub_dict_dict
    have hl1 : kvs.length = es1.size := by rw [← hp1.length]; simp
    have hl2 : kws.length = es2.size := by rw [← hp2.length]; simp
    have T1 := hd1.typeIs
    have T2 := hd2.typeIs
    wp_walk using wpAny_isInstance T2 f2
    rw [hdd1]
    refine wpAny_pure ?_
    dsimp only
    refine wpAny_bind (wpAny_dictEntries ho2 hdd2 ?_)
    rw [if_neg (by simp; omega)]
    refine wpAny_bind (wpAny_dictEpoch ho1 hdd1 ?_)
    rw [Std.Legacy.Range.forIn_eq_forIn_range']
    simp only [Std.Legacy.Range.size, Nat.sub_zero, Nat.add_sub_cancel, Nat.div_one]
    refine wpAny_bind (wpAny_forIn_list _ (fun rest b s' => s' = s ∧ b.1 = none ∧ ∃ i, rest = List.range' i (es1.size - i) ∧ i ≤ es1.size) _ ?_ ?_ _ _ ⟨rfl, rfl, 0, by simp, Nat.zero_le _⟩)
    · rintro x rest b s' ⟨rfl, hb, i, hr, hi⟩
      have hlt : i < es1.size := by
        rcases Nat.lt_or_ge i es1.size with h | h
        · exact h
        · rw [Nat.sub_eq_zero_of_le h] at hr; simp at hr
      obtain ⟨rfl, hrest⟩ : x = i ∧ rest = List.range' (i + 1) (es1.size - (i + 1)) := by
        have e : es1.size - i = (es1.size - (i + 1)) + 1 := by omega
        rw [e, List.range'_succ] at hr
        injection hr with h1 h2
        exact ⟨h1, h2⟩
      refine wpAny_bind (wpAny_dictEntries ho1 hdd1 ?_)
      rw [Array.getElem?_eq_getElem hlt]
      obtain ⟨kv, hkv⟩ : ∃ kv, kvs[x]? = some kv := ⟨kvs[x]'(by rw [hl1]; exact hlt), List.getElem?_eq_getElem _⟩
      obtain ⟨k, v⟩ := kv
      obtain ⟨hkey, hval⟩ := hp1.get? (e := es1[x]) (by simp [hlt]) hkv
      obtain ⟨k', hkey', hhash⟩ := hk1 es1[x] (Array.getElem_mem hlt)
      obtain rfl : k' = k := (PySem.strKind prog w).inj _ _ _ hkey' hkey
      obtain ⟨v', hv', heq⟩ := he (k', v) (List.mem_of_getElem? hkv)
      dsimp only
      refine wpAny_bind (wpAny_holding ?_)
      rw [hhash]
      refine wpAny_bind (wpAny_dictFind_of hkey ho2 hdd2 hk2 ?_)
      have hf := hp2.find k'
      cases hi2 : es2.findIdx? (fun e => (PySem.strKind prog w).is k' e.key) with
      | none =>
        exfalso
        have hi3 : (es2.toList.findIdx? fun e => (PySem.strKind prog w).is k' e.key) = none := by rw [← hi2]; obtain ⟨l⟩ := es2; simp
        have : (es2.toList.find? fun e => (PySem.strKind prog w).is k' e.key) = none := by
          rw [List.find?_eq_none]
          intro e he
          rw [List.findIdx?_eq_none_iff] at hi3
          rw [hi3 e he]; decide
        rw [this] at hf
        rw [hv'] at hf
        cases hf
      | some j =>
        have hi3 : (es2.toList.findIdx? fun e => (PySem.strKind prog w).is k' e.key) = some j := by rw [← hi2]; obtain ⟨l⟩ := es2; simp
        obtain ⟨e, he1, _, he3⟩ := hp2.at hi3
        have he1 : es2[j]? = some e := by rw [← he1]; simp
        dsimp only
        refine wpAny_bind (wpAny_dictEntries ho2 hdd2 ?_)
        rw [he1]
        dsimp only
        rw [hv'] at he3
        have he3 := Option.some.inj he3
        refine wpAny_holding ?_
        rw [hval, ← he3]
        refine heq _ _ ?_
        rw [if_neg (by decide)]
        refine wpAny_bind (wpAny_dictEpoch ho1 hdd1 ?_)
        rw [if_neg (by simp)]
        exact wpAny_pure ⟨rfl, rfl, x + 1, hrest, hlt⟩
    · rintro ⟨b1, b2⟩ s' ⟨rfl, hb, i, hr, hi⟩
      simp only at hb
      subst hb
      dsimp only
      refine wpAny_pure ?_
      exact wpAny_pure ⟨_, rfl, h⟩
theorem eqin_same {A : Around} (v : Value) : EqIn prog w A s v v := fun E Q h => (PySem.SeqAt.EqAt.same v) prog w E Q h
theorem eqin_str {A : Around} {x : Str} {t u : Tok} : EqIn prog w A s (.str x t) (.str x u) := fun E Q h => wpAny_eqBool_str (by rw [decide_eq_true rfl]; exact h)
theorem eqin_dict {A : Around} {d1 d2 : Addr} {kvs kws : List (Str × Value)} (h1 : (d1 == sysModules) = false) (h2 : (d2 == sysModules) = false) (hz : kvs.length = kws.length) (hu : A.units < cLine)
    (hd1 : s.heap.DictOf (strKind prog w) d1 kvs) (hd2 : s.heap.DictOf (strKind prog w) d2 kws) (he : ∀ p ∈ kvs, ∃ v', valueAt kws p.1 = some v' ∧ EqIn prog w A.in1 s p.2 v') : EqIn prog w A s (.ref d1) (.ref d2) := fun E Q hq => by
  by_cases hne : d1 = d2
  · subst hne; exact eqin_same _ E Q hq
  · unfold eqBool
    refine wpAny_holding ?_
    refine wpAny_ite_split (fun hab => absurd (by have := eq_of_beq hab; injection this) hne) (fun _ => ?_)
    refine wpAny_bind (wpAny_richCompare_same_room hd1.typeIs hd2.typeIs PySem.F.slot_dict_eq (call_meetsIn PySem.F.slot_dict_eq hd1.typeIs PySem.F.entry_dict_eq (PySem.F.args_dict_eq_2 _ _) (dict_eqIn d1 d2 kvs kws h1 h2 hz) ⟨hd1, hd2, he, ?_⟩) hu)
    exact ⟨(fun x => nomatch x), wpAny_truthy_bool hq⟩
theorem eqin_tuple {A : Around} {l b : Addr} {items items2 : Array Value} {n n2 : Nat} (hz : items.size = items2.size) (hu : A.units < cLine) (hl : s.heap.get? l = some { cls := .type "tuple", data := .seq items n }) (hb : s.heap.get? b = some { cls := .type "tuple", data := .seq items2 n2 })
    (he : ∀ p ∈ items.toList.zip items2.toList, EqIn prog w A.in1 s p.1 p.2) {E : Value → Shared → Prop} {Q : Value → Shared → Prop} (hq : Q (.bool true) s) : wpAny (model prog w) A (compareOp .Eq (.ref l) (.ref b)) Q E s := by
  show wpAny _ _ (richCompare .Eq (.ref l) (.ref b)) _ _ s
  refine wpAny_richCompare_same_room (T := "tuple") ⟨_, hl, rfl⟩ ⟨_, hb, rfl⟩ PySem.F.slot_tuple_eq (call_meetsIn PySem.F.slot_tuple_eq ⟨_, hl, rfl⟩ PySem.F.entry_tuple_eq (PySem.F.args_tuple_eq_2 _ _) (tuple_eqIn l b items items2 n n2 hz) ⟨hl, hb, he, ?_⟩) hu
  exact ⟨(fun x => nomatch x), hq⟩
end Mine
end
section
open PySem PySem.Spec PySem.Calls PyProof.Rows PySem.W PySem.Builtin
set_option maxRecDepth 100000
namespace Mine
variable {prog : Program} {w : World} {H : Heap}
theorem kr_val {σ : List Addr} {h : Heap} {k : T} {u : T} : ∀ {es : List (T × AV)} {kvs : List (Str × Value)} {xs : List (T × T)}, KRs σ h es kvs → valsOf es = some xs → dget xs k = some u → ∃ v, valueAt kvs (S k) = some v ∧ VR σ h (.str u) v := by
  intro es kvs xs r hv hd
  have h1 : ∀ {es : List (T × AV)} {xs : List (T × T)}, valsOf es = some xs → dget xs k = some u → dget es k = some (.str u) := by
    intro es
    induction es with
    | nil => intro xs h1 h2; cases h1; cases h2
    | cons x r ih =>
      intro xs h1 h2
      obtain ⟨k', av⟩ := x
      cases av <;> first | (cases h1; done) | skip
      rename_i l
      cases q : valsOf r with
      | none => simp only [valsOf, q] at h1; cases h1
      | some y =>
        simp only [valsOf, q] at h1
        cases h1
        have h2 : (if k' = k then some l else dget y k) = some u := h2
        show (if k' = k then some (AV.str l) else dget r k) = some (AV.str u)
        split
        · rename_i hk; rw [if_pos hk] at h2; cases h2; rfl
        · rename_i hk; rw [if_neg hk] at h2; exact ih q h2
  exact (r.at k).2 _ (h1 hv hd)
theorem kr_mem {σ : List Addr} {h : Heap} : ∀ {es : List (T × AV)} {kvs : List (Str × Value)} {xs : List (T × T)}, KRs σ h es kvs → valsOf es = some xs → ∀ p ∈ kvs, ∃ k l t, (k, l) ∈ xs ∧ p.1 = S k ∧ p.2 = .str (S l) t
  | [], [], _, _, _, _, hp => (nomatch hp)
  | (k, a) :: es, (y, v) :: kvs, xs, ⟨e, r, rs⟩, hv, p, hp => by
    cases a <;> first | (cases hv; done) | skip
    rename_i l
    cases q : valsOf es with
    | none => simp only [valsOf, q] at hv; cases hv
    | some z =>
      simp only [valsOf, q] at hv
      cases hv
      rcases List.mem_cons.mp hp with rfl | hp
      · obtain ⟨t, rfl⟩ := vr_str_inv r
        exact ⟨k, l, t, List.mem_cons_self .., e, rfl⟩
      · obtain ⟨k', l', t, h1, h2, h3⟩ := kr_mem rs q p hp
        exact ⟨k', l', t, List.mem_cons_of_mem _ h1, h2, h3⟩
  | [], _ :: _, _, r, _, _, _ => r.elim
theorem vals_len : ∀ {es : List (T × AV)} {xs : List (T × T)}, valsOf es = some xs → es.length = xs.length := by
  intro es
  induction es with
  | nil => intro xs h; cases h; rfl
  | cons x r ih =>
    intro xs h
    obtain ⟨key, av⟩ := x
    cases av <;> first | (cases h; done) | skip
    rename_i l
    cases q : valsOf r with
    | none => simp only [valsOf, q] at h; cases h
    | some y => simp only [valsOf, q] at h; cases h; rw [List.length_cons, List.length_cons, ih q]
theorem pairOk (B : Base prog w H) : PairOk prog w H := by
  intro F σ lo ah s OK I a i b j es fs ep eq xs ys u v e1 e2 v1 v2 l1 l2 hab hd ru rv
  subst hab
  obtain ⟨p, us, rfl, ⟨n, hp⟩, r1⟩ := vr_tup_inv ru
  obtain ⟨q, ws, rfl, ⟨m, hq⟩, r2⟩ := vr_tup_inv rv
  obtain ⟨a1, us, rfl, ra1, r1⟩ := r1.cons_inv
  obtain ⟨a2, us, rfl, ra2, r1⟩ := r1.cons_inv
  cases r1.nil_inv
  obtain ⟨b1, ws, rfl, rb1, r2⟩ := r2.cons_inv
  obtain ⟨b2, ws, rfl, rb2, r2⟩ := r2.cons_inv
  cases r2.nil_inv
  obtain ⟨t1, rfl⟩ := vr_str_inv ra1
  obtain ⟨t2, rfl⟩ := vr_str_inv rb1
  obtain ⟨d1, kvs, ed1, rfl, hd1, k1⟩ := I.dict e1 ra2
  obtain ⟨d2, kws, ed2, rfl, hd2, k2⟩ := I.dict e2 rb2
  unfold dEq at hd
  rw [Bool.and_eq_true] at hd
  have hlen : xs.length = ys.length := eq_of_beq hd.1
  have hu : F.A.units + 10 < cLine := by
    have := OK.units
    show F.A.units + 10 < _
    unfold cLine
    omega
  refine eqin_tuple (by simp) (by omega) hp hq ?_ (Cm.here rfl)
  intro pr hpr
  simp only [List.zip_cons_cons, List.zip_nil_right, List.mem_cons, List.not_mem_nil, or_false] at hpr
  rcases hpr with rfl | rfl
  · exact eqin_str
  · refine eqin_dict (I.notSys OK B ed1) (I.notSys OK B ed2) (by rw [k1.length, k2.length, vals_len v1, vals_len v2, hlen]) (by show F.A.units + 1 < _; omega) hd1 hd2 ?_
    intro pr hpr
    obtain ⟨k, l, t, h1, h2, h3⟩ := kr_mem k1 v1 pr hpr
    have h4 := List.all_eq_true.mp hd.2 (k, l) h1
    have h4 : dget ys k = some l := eq_of_beq h4
    obtain ⟨v', h5, h6⟩ := kr_val k2 v2 h4
    obtain ⟨t', rfl⟩ := vr_str_inv h6
    refine ⟨_, by rw [h2]; exact h5, ?_⟩
    rw [h3]
    exact eqin_str
end Mine
end
section
open PySem PySem.Spec PySem.Calls PyProof.Rows PySem.W PySem.Builtin
set_option maxRecDepth 100000
namespace Mine
variable {prog : Program} {w : World} {H : Heap} {s : Shared} {F : FC} {σ : List Addr} {lo : Lo} {ah : AH}
/-! ## the special node 0: a text among four -/
theorem in_main {A : Around} {E : Value → Shared → Prop} {env : Env} {q : Str} {Q : Bool → Shared → Prop} (hc : s.heap.CodeRec env.code q) (h : ∀ b, Q b s) : wpAny (model prog w) A (inMainModule env) Q E s := by
  obtain ⟨c, o, vs, t, e, ho, hd, _⟩ := hc
  have hl : List.lookup c [(c, o)] = some o := by simp [List.lookup]
  refine kds_main (K := [(c, o)]) (fun a x hx => ?_) ?_ h
  · by_cases ha : a = c
    · subst ha; rw [hl] at hx; cases hx; exact ho
    · have : (a == c) = false := by simpa using ha
      simp [List.lookup, this] at hx
  · obtain ⟨cl, d, dt, sl⟩ := o
    cases hd
    unfold kdsCode
    rw [e]
    simp only [hl]
theorem set_unled {A : Around} {E : Value → Shared → Prop} {sa : Addr} {S' : Str → Bool} {n : Nat} {Q : Unit → Shared → Prop} (hs : s.heap.SetOf (PySem.strKind prog w) sa S' n) (hb : n < scanBound)
    (h : ∀ h', Heap.SameBut sa s.heap h' → h'.SetOf (PySem.strKind prog w) sa S' n → Q () { s with heap := h' }) : wpAny (model prog w) A (setUnled sa) Q E s := by
  obtain ⟨o, es, ep, t, ho, hex, hd, hel, hmem, hb0, hf, hn⟩ := hs
  have hb' : es.size < scanBound := by rw [hn]; exact hb
  have hf' : ({ t with led := false } : SetTable).fits es.size = true := by cases t; exact hf
  unfold setUnled
  refine wpAny_bind (wpAny_setState_of ho hd hf ?_)
  dsimp only
  refine wpAny_storeSet_of ho hd ?_ (fits_of_scanBound hb')
  obtain ⟨_, hS⟩ := SetOf_store (knd := PySem.strKind prog w) ho hex hd hel hmem hb' hf'
  rw [hn] at hS
  exact h _ (Heap.SameBut.update ..) hS
theorem set_add {A : Around} {E : Value → Shared → Prop} {sa : Addr} {S' : Str → Bool} {n : Nat} {k : Str} {t : Tok} {Q : Bool → Shared → Prop} (hs : s.heap.SetOf (PySem.strKind prog w) sa S' n) (hb : n + 1 < scanBound)
    (h : ∀ b h' n', Heap.SameBut sa s.heap h' → n' ≤ n + 1 → h'.SetOf (PySem.strKind prog w) sa (fun k' => S' k' || decide (k' = k)) n' → Q b { s with heap := h', toks := s.toks + 1 }) : wpAny (model prog w) A (setAdd sa (.str k t)) Q E s := by
  unfold setAdd
  refine wpAny_holding (wpAny_bind ((PySem.strKind prog w).pyHash (strKind_is _ _ _ _) ?_))
  refine wpAny_setAddHashed_of (s := { s with toks := s.toks + 1 }) (strKind_is _ _ _ _) rfl hs hb fun h' hsb hS' => ?_
  exact h _ h' _ hsb (by split <;> omega) hS'
def consts (l : List (List Nat × Nat × Pos)) : List PySem.Expr := l.map fun x => .Constant (.str (S x.1)) x.2.1 x.2.2
def has (l : List (List Nat × Nat × Pos)) (S0 : Str → Bool) : Str → Bool := l.foldl (fun S' x k' => S' k' || decide (k' = S x.1)) S0
theorem fill_consts {A : Around} {E : Value → Shared → Prop} {env : Env} {sa : Addr} {u : Bool} {Q : Value → Shared → Prop} (hu : u = true) : ∀ (l : List (List Nat × Nat × Pos)) (vs : List Value) (s : Shared) (S0 : Str → Bool) (n : Nat), vs.length = l.length → (∀ (i : Nat) x, l[i]? = some x → ∃ t, vs[i]? = some (.str (S x.1) t)) → s.heap.SetOf (PySem.strKind prog w) sa S0 n → n + l.length + 1 < scanBound →
    (∀ h' tk n', Heap.ExtBut sa s.heap h' → h'.SetOf (PySem.strKind prog w) sa (has l S0) n' → Q (.ref sa) { s with heap := h', toks := tk }) → KdsFill (model prog w) A E u sa Q vs s
  | [], vs, s, S0, n, hl, _, hs, hb, h => by
    have : vs = [] := List.length_eq_zero_iff.mp hl
    subst this
    refine kds_fill_unled hu (set_unled hs (by omega) fun h' hsb hS' => ?_)
    exact h h' s.toks n hsb.extBut hS'
  | x :: l, vs, s, S0, n, hl, hv, hs, hb, h => by
    cases vs with
    | nil => cases hl
    | cons v vs =>
      obtain ⟨t, ht⟩ := hv 0 x rfl
      have ht : v = .str (S x.1) t := by simpa using ht
      subst ht
      simp only [List.length_cons] at hb hl
      refine kds_fill_cons (set_add hs (by omega) fun b h' n' hsb hn' hS' => ?_)
      refine fill_consts (env := env) hu l vs _ _ n' (by omega) (fun i y hy => ?_) hS' (by omega) fun h'' tk n'' hx hS'' => ?_
      · obtain ⟨t', ht'⟩ := hv (i + 1) y (by simpa using hy)
        exact ⟨t', by simpa using ht'⟩
      · exact h h'' tk n'' (fun c o hc e => hx c o hc (hsb.extBut c o hc e)) hS''
theorem kds_consts {A : Around} {E : Value → Shared → Prop} {env : Env} : ∀ (l : List (List Nat × Nat × Pos)) (s : Shared) (Q : List Value → Shared → Prop), (∀ vs tk, vs.length = l.length → (∀ (i : Nat) x, l[i]? = some x → ∃ t, vs[i]? = some (.str (S x.1) t)) → Q vs { s with toks := tk }) → KdsAll (model prog w) A E env (consts l) Q s
  | [], s, Q, h => h [] s.toks rfl (fun _ _ e => by cases e)
  | x :: l, s, Q, h => by
    show wpAny _ _ _ _ _ _
    refine wpAny_Constant_str (kds_consts l _ _ fun vs tk hl hv => ?_)
    refine h _ tk (by rw [List.length_cons, List.length_cons, hl]) fun i y hy => ?_
    cases i with
    | zero => cases hy; exact ⟨_, rfl⟩
    | succ i => obtain ⟨t, ht⟩ := hv i y (by simpa using hy); exact ⟨t, by simpa using ht⟩
theorem set_disp {A : Around} {E : Value → Shared → Prop} {env : Env} {q : Str} {l : List (List Nat × Nat × Pos)} {pos : Pos} {Q : Value → Shared → Prop} (hc : s.heap.CodeRec env.code q) (hroad : displayRoad 0 (consts l) = .unsure) (hl : l.length ≤ 20)
    (h : ∀ h' tk n', (∀ b o, s.heap.get? b = some o → h'.get? b = some o) → h'.SetOf (PySem.strKind prog w) s.heap.objs.size (has l fun _ => false) n' → Q (.ref s.heap.objs.size) { s with heap := h', toks := tk }) : wpAny (model prog w) A (eval (.Set (consts l) 0 pos) env) (fun b s₂ => KdiMark (model prog w) A E b (Q b) s₂) E s := by
  have hb20 : 30 < scanBound := by decide
  have hlc : (consts l).length = l.length := by unfold consts; rw [List.length_map]
  rw [arm_eval_Set]
  refine wpAny_bind (wpAny_standAt ?_)
  refine wpAny_bind (in_main hc fun b => ?_)
  have hp : (consts l).all kdsPlain = true := by
    rw [List.all_eq_true]; intro x hx
    obtain ⟨y, _, rfl⟩ := List.mem_map.mp hx; rfl
  rw [kds_star (consts l) hp, List.map_map]
  refine kds_core (ts := (evalEach (consts l) env).map fun t => do let v ← t; standAt pos; pure v) (by rw [hroad]; rfl) ?_ ?_ ?_ fun led => ?_
  · refine List.findIdx?_eq_none_iff.mpr fun x hx => ?_
    obtain ⟨t, _, rfl⟩ := List.mem_map.mp hx
    rfl
  · rw [List.length_map, kds_len, hlc]; omega
  · rw [List.map_map]; try rfl
  · refine kds_all pos (consts l) _ _ (kds_consts l _ _ fun vs tk hvl hv => ?_)
    have hnew := size_none s.heap
    have hs0 := (setObjOf_fresh (knd := PySem.strKind prog w) led).setOf (Heap.get?_push_size s.heap rfl) (by decide)
    refine fill_consts (env := env) (by rw [hroad]; rfl) l vs _ _ 0 hvl hv hs0 (by omega) fun h' tk' n' hx hS' => ?_
    refine kdi_mark (set_unled (s := { s with heap := h', toks := tk' }) hS' ?_ fun h'' hsb hS'' => ?_)
    · obtain ⟨_, es, _, _, _, _, _, _, _, hb0, _, hn⟩ := hS'
      rw [← hn]; exact hb0
    · refine h h'' tk' n' (fun b o e => ?_) hS''
      have hb : b ≠ s.heap.objs.size := fun q => by rw [q, hnew] at e; cases e
      exact hsb.extBut b o hb (hx b o hb (Heap.get?_push_of_some _ e))
end Mine
end
section
open PySem PySem.Spec PySem.Calls PyProof.Rows PySem.W PySem.Builtin
set_option maxRecDepth 100000
namespace Mine
variable {prog : Program} {w : World} {H : Heap} {s : Shared} {F : FC} {σ : List Addr} {lo : Lo} {ah : AH}
def l4 : List (List Nat × Nat × Pos) := [(sAscii, 0, ⟨109, 28, 109, 35⟩), (sUs, 0, ⟨109, 37, 109, 47⟩), (sUtf8, 0, ⟨109, 49, 109, 56⟩), (sIso, 0, ⟨109, 58, 109, 70⟩)]
theorem sx0 : sxP 0 = .Compare (.Name (nmS (slU .parse) 15) ⟨109, 15, 109, 23⟩) [.In] [.Set (consts l4) 0 ⟨109, 27, 109, 71⟩] ⟨109, 15, 109, 71⟩ := by kernel_rfl
theorem has4 (x : T) : has l4 (fun _ => false) (S x) = decide (x = sAscii ∨ x = sUs ∨ x = sUtf8 ∨ x = sIso) := by
  have e : ∀ y : T, decide (S x = S y) = decide (x = y) := fun y => by
    by_cases h : x = y
    · rw [h, decide_eq_true rfl, decide_eq_true rfl]
    · rw [decide_eq_false h, decide_eq_false fun q => h (S_inj q)]
  show ((((false || decide (S x = S sAscii)) || decide (S x = S sUs)) || decide (S x = S sUtf8)) || decide (S x = S sIso)) = _
  rw [e, e, e, e]
  by_cases h1 : x = sAscii <;> by_cases h2 : x = sUs <;> by_cases h3 : x = sUtf8 <;> by_cases h4 : x = sIso <;> simp [h1, h2, h3, h4]
theorem code_now (B : Base prog w H) (OK : FOk H F) (I : Inv prog w F σ lo ah s) {cd : Value} {q : Str} (hc : H.CodeRec cd q) : s.heap.CodeRec cd q := by
  obtain ⟨c, oc, ws, t, e1, e2, e3, e4⟩ := hc
  refine ⟨c, oc, ws, t, e1, I.old OK e2 ?_ ?_, e3, e4⟩
  · rintro rfl; rw [B.t48] at e2; cases e2; cases e3; cases e4
  · rintro rfl; rw [B.t60] at e2; cases e2; cases e3; cases e4
theorem road4 : displayRoad 0 (consts l4) = .unsure := by kernel_rfl
theorem marks4 : behindInMarks .In (.Set (consts l4) 0 ⟨109, 27, 109, 71⟩) = true := by kernel_rfl
theorem core0 (B : Base prog w H) {A : Around} {fd : FuncData} {L a : Addr} {pr : Addr → Obj → Prop} {os : OsState} {lv : Nat} (hc : H.CodeRec fd.code fd.qualname) (OK : FOk H (callF A fd L a (slU .parse) pr os lv))
    (I : Inv prog w (callF A fd L a (slU .parse) pr os lv) σ lo ah s) {x : T} (hx : getL lo 15 = some (.str x)) {Q : Value → Shared → Prop}
    (h : ∀ h' tk, (∀ b o, s.heap.get? b = some o → h'.get? b = some o) → Q (.bool (decide (x = sAscii ∨ x = sUs ∨ x = sUtf8 ∨ x = sIso))) { s with heap := h', toks := tk }) :
    wpAny (model prog w) (callF A fd L a (slU .parse) pr os lv).A (eval (.Name (nmS (slU .parse) 15) ⟨109, 15, 109, 23⟩) (callF A fd L a (slU .parse) pr os lv).env) (fun v s₁ =>
      wpAny (model prog w) (callF A fd L a (slU .parse) pr os lv).A (eval (.Set (consts l4) 0 ⟨109, 27, 109, 71⟩) (callF A fd L a (slU .parse) pr os lv).env) (fun b s₂ => KdiMark (model prog w) (callF A fd L a (slU .parse) pr os lv).A Nev b (fun s₃ => wpAny (model prog w) (callF A fd L a (slU .parse) pr os lv).A (compareOp .In v b) Q Nev s₃) s₂) Nev s₁) Nev s := by
  rw [← nm_callF (A := A) (fd := fd) (L := L) (a := a) (sl := slU .parse) (pr := pr) (os := os) (lv := lv)]
  refine wpAny_Name (ld_loc OK I hx fun v r => ?_) (by rw [nm_callF]; decide +kernel)
  obtain ⟨t, rfl⟩ := vr_str_inv r
  refine set_disp (q := fd.qualname) (Q := fun b s₃ => wpAny (model prog w) (callF A fd L a (slU .parse) pr os lv).A (compareOp .In _ b) Q Nev s₃) (code_now B OK I hc) road4 (by decide) fun h' tk n' hk hS => ?_
  refine wpAny_inSet_of (s := { s with heap := h', toks := tk }) (strKind_is _ _ _ _) rfl hS ?_
  rw [has4]
  exact h h' _ hk
theorem sp0_ok (B : Base prog w H) {A : Around} {fd : FuncData} {L a : Addr} {pr : Addr → Obj → Prop} {os : OsState} {lv : Nat} (hc : H.CodeRec fd.code fd.qualname) (OK : FOk H (callF A fd L a (slU .parse) pr os lv)) : SpOk prog w sxP (callF A fd L a (slU .parse) pr os lv) 0 := by
  refine ⟨fun lo ah k h => ?_, fun t l => ?_, fun lo ah k h => ?_⟩
  · simp only [aSp] at h
    split at h
    · rename_i x hx
      refine W.intro fun σ s I => ?_
      rw [sx0]
      refine kdi_eval marks4 (core0 B hc OK I hx fun h' tk hk ht => ?_)
      exact .intro (I.keep hk ht) (.of_keep hk) vr_bool ⟨rfl, h⟩
    · exact h.elim
  · rw [sx0]; rfl
  · simp only [aSp] at h
    split at h
    · rename_i x hx
      refine W.intro fun σ s I => ?_
      rw [sx0]
      refine kdi_test marks4 ?_
      refine core0 B hc OK I hx (Q := fun c s₃ => wpAny (model prog w) (callF A fd L a (slU .parse) pr os lv).A (truthy c) (fun z s' => 1 ≤ s'.toks → PostR prog w RB (callF A fd L a (slU .parse) pr os lv) σ s.heap k z s') Nev s₃) fun h' tk hk => wpAny_truthy_bool fun ht => ?_
      exact .intro (I.keep hk ht) (.of_keep hk) rfl h
    · exact h.elim
end Mine
end
section
open PySem PySem.Spec PySem.Calls PyProof.Rows PySem.W PySem.Builtin
set_option maxRecDepth 100000
namespace Mine
variable {prog : Program} {w : World} {H : Heap} {s : Shared} {F : FC} {σ : List Addr} {lo : Lo} {ah : AH}
/-! ## comprehensions: the frame afterwards -/
/-- a local is stored, new objects have come -/
theorem Inv.setLocalX (I : Inv prog w F σ lo ah s) (hn : (F.slots.map (·.1)).Nodup) {i : Nat} {name : Str} {av : AV} {v : Value} {h' : Heap} {tk : Nat} (hi : F.slots[i]? = some (name, none))
    (hm : ∀ m, s.heap.Ns F.env.locals m → h'.Ns F.env.locals (fun x => if x = name then some v else m x)) (hs : Heap.ExtBut F.env.locals s.heap h') (hv : VR σ s.heap av v) (ht : 1 ≤ tk) :
    Inv prog w F σ (setL lo i av) ah { s with heap := h', toks := tk } := by
  obtain ⟨⟨_, p1, p2, _⟩, p3, p4, _⟩ := I.parts
  have f := I.frz mem_locals hs
  have hr := List.prefix_refl σ
  obtain ⟨m, hns, hl⟩ := I.loc
  have hns' := hm m hns
  refine I.change mem_locals hs ?_ ⟨_, hns', fun j nm oc x h1 h2 => ?_⟩ (setL_length ..) rfl (fun j ao e => ?_) ⟨I.tabs.1.mono f fun o => hs _ o p1, I.tabs.2.mono f fun o => hs _ o p2⟩ ht (I.cl_but hs p3)
  · obtain ⟨o, es, ep, ho, hd, r⟩ := hns'
    exact ⟨o, ho, frozen_dict hd⟩
  · by_cases e : i = j
    · subst e
      rw [hi] at h1; cases h1
      rw [getL_setL_self _ _ _ (by rw [← setL_length lo i av]; exact getL_lt _ _ _ h2)] at h2
      cases h2
      exact ⟨v, if_pos rfl, hv.mono hr f⟩
    · rw [getL_setL_ne _ _ _ _ e] at h2
      have z := hl j nm oc x h1 h2
      cases oc with
      | none =>
        obtain ⟨v', hv', r⟩ := z
        refine ⟨v', ?_, r.mono hr f⟩
        show (if nm = name then some v else m nm) = some v'
        rw [if_neg (fun q => e (slot_unique hn hi (q ▸ h1)))]; exact hv'
      | some c =>
        obtain ⟨v', ⟨oc, hv', hd⟩, r⟩ := z
        exact ⟨v', ⟨oc, hs _ _ (fun q => p3 (q ▸ mem_cell h1)) hv', hd⟩, r.mono hr f⟩
  · obtain ⟨a, e', r⟩ := I.ob j ao e
    exact ⟨a, e', r.mono hr f fun o => hs a o (fun q => p4 (q ▸ List.mem_of_getElem? e'))⟩
/-- the same value under another abstract name -/
theorem Inv.setAv (I : Inv prog w F σ lo ah s) {i : Nat} {av av' : AV} (h : getL lo i = some av) (hv : ∀ v, VR σ s.heap av v → VR σ s.heap av' v) : Inv prog w F σ (setL lo i av') ah s := by
  obtain ⟨m, hns, hl⟩ := I.loc
  refine ⟨⟨m, hns, fun j nm oc x h1 h2 => ?_⟩, by rw [setL_length]; exact I.llen, I.len, I.nd, I.there, I.ob, I.pr, I.tabs, I.gens, I.os, I.tk, I.cl⟩
  by_cases e : i = j
  · subst e
    rw [getL_setL_self _ _ _ (getL_lt _ _ _ h)] at h2
    cases h2
    have z := hl i nm oc av h1 h
    cases oc with
    | none => obtain ⟨v, a, b⟩ := z; exact ⟨v, a, hv v b⟩
    | some c => obtain ⟨v, a, b⟩ := z; exact ⟨v, a, hv v b⟩
  · rw [getL_setL_ne _ _ _ _ e] at h2
    exact hl j nm oc x h1 h2
theorem setL_setL : ∀ (lo : Lo) (i : Nat) (a b : AV), setL (setL lo i a) i b = setL lo i b
  | [], _, _, _ => rfl
  | _ :: _, 0, _, _ => rfl
  | x :: r, n + 1, a, b => by show x :: setL (setL r n a) n b = x :: setL r n b; rw [setL_setL r n a b]
theorem Inv.fresh_ne (I : Inv prog w F σ lo ah s) {D : Addr} (hD : s.heap.get? D = none) : D ∉ F.mut σ ∧ ∀ o, ¬ F.pr D o := by
  refine ⟨fun h => ?_, fun o h => ?_⟩
  · obtain ⟨o, e, _⟩ := I.there D h; rw [hD] at e; cases e
  · have := (I.pr D o h).1; rw [hD] at this; cases this
/-- a new list goes into a local -/
theorem Inv.newLocal (I : Inv prog w F σ lo ah s) (hn : (F.slots.map (·.1)).Nodup) {i : Nat} {name : Str} {h' : Heap} {tk : Nat} {D : Addr} {xs : List AV} {ys : Array Value} (hi : F.slots[i]? = some (name, none)) (hil : i < lo.length)
    (hm : ∀ m, s.heap.Ns F.env.locals m → h'.Ns F.env.locals (fun x => if x = name then some (.ref D) else m x)) (hs : Heap.ExtBut F.env.locals s.heap h') (hD : s.heap.get? D = none) (hpl : h'.PlainList D ys) (hr : VRs σ s.heap xs ys.toList) (ht : 1 ≤ tk) :
    Inv prog w F (σ ++ [D]) (setL lo i (.ref ah.length)) (ah ++ [.list xs]) { s with heap := h', toks := tk } := by
  have I1 := I.setLocalX hn (av := .con (.ref D)) (tk := tk) hi hm hs (by simp only [VR]) ht
  obtain ⟨n1, n2⟩ := I.fresh_ne hD
  have f := I.frz mem_locals hs
  obtain ⟨n, hpl⟩ := hpl
  have I2 := I1.takeObj (a := D) (ao := .list xs) n1 n2 ⟨ys.toList, ⟨n, by simpa using hpl⟩, hr.mono (List.prefix_append ..) f⟩
  have I3 := I2.setAv (i := i) (av := .con (.ref D)) (av' := .ref ah.length) (getL_setL_self _ _ _ hil) fun v hv => by
    rw [vr_con_inv hv]
    exact vr_ref (by rw [← I.len, List.getElem?_append_right (Nat.le_refl _), Nat.sub_self]; rfl)
  rw [setL_setL] at I3
  exact I3
theorem paired_same {l m : List Value} (h : Paired (fun v y => y = v) l m) : m = l := by
  induction h with
  | nil => rfl
  | cons h _ ih => rw [h, ih]
theorem Keeps.refl (s : Shared) : Keeps s s := ⟨s.heap, s.toks, rfl, fun _ _ e => e⟩
theorem Keeps.tok (s : Shared) (t : Nat) : Keeps s { s with toks := t } := ⟨s.heap, t, rfl, fun _ _ e => e⟩
end Mine
end
section
open PySem PySem.Spec PySem.Calls PyProof.Rows PySem.W PySem.Builtin
set_option maxRecDepth 100000
namespace Mine
variable {prog : Program} {w : World} {H : Heap} {s : Shared} {F : FC} {σ : List Addr} {lo : Lo} {ah : AH}
def scRow : Scope := { kind := .function, names := [(".0", .local), ("row", .local)], isGenerator := false, isCoroutine := false }
theorem sy1 : syP 1 = .Assign [.Name (nmS slLaw 3) ⟨189, 8, 189, 12⟩] (.ListComp (.Name "row" ⟨189, 16, 189, 19⟩) [⟨.Name "row" ⟨189, 24, 189, 27⟩, .Name (nmS slLaw 3) ⟨189, 31, 189, 35⟩, [.Compare (.Name "row" ⟨189, 39, 189, 42⟩) [.NotEq] [.List [] ⟨189, 46, 189, 48⟩] ⟨189, 39, 189, 48⟩], 0⟩] scRow ⟨189, 15, 189, 49⟩) ⟨189, 8, 189, 49⟩ := by kernel_rfl
def fullV (h : Heap) (v : Value) : Bool := match v with
  | .ref b => (match h.get? b with | some ⟨_, _, .seq xs _, _⟩ => !xs.toList.isEmpty | _ => false)
  | _ => false
def fullA (ah : AH) (i : Nat) : Bool := match getO ah i with | some (.list ys) => !ys.isEmpty | _ => false
theorem refs_list : ∀ {xs : List AV} {is : List Nat}, refsOfA xs = some is → xs = is.map .ref
  | [], is, h => by cases h; rfl
  | x :: r, is, h => by
    cases x <;> first | (cases h; done) | skip
    rename_i i
    cases q : refsOfA r with
    | none => simp only [refsOfA, q] at h; cases h
    | some js => simp only [refsOfA, q] at h; cases h; rw [refs_list q]; rfl
theorem filt_refs {σ : List Addr} {h : Heap} {p : Value → Bool} {f : Nat → Bool} : ∀ {is : List Nat} {vs : List Value}, VRs σ h (is.map .ref) vs → (∀ i ∈ is, ∀ v, VR σ h (.ref i) v → p v = f i) → VRs σ h ((is.filter f).map .ref) (vs.filter p)
  | [], vs, r, _ => by rw [r.nil_inv]; exact .nil
  | i :: is, vs, r, hp => by
    obtain ⟨v, vs, rfl, r1, r2⟩ := r.cons_inv
    have e := hp i (List.mem_cons_self ..) v r1
    have ih := filt_refs r2 fun j hj => hp j (List.mem_cons_of_mem _ hj)
    cases q : f i with
    | true => rw [List.filter_cons_of_pos (by rw [q]), List.filter_cons_of_pos (by rw [e, q])]; exact .cons r1 ih
    | false => rw [List.filter_cons_of_neg (by rw [q]; decide), List.filter_cons_of_neg (by rw [e, q]; decide)]; exact ih
theorem sps1_ok {ns : List Int} {A : Around} {L a : Addr} {pr : Addr → Obj → Prop} {os : OsState} {lv : Nat} (OK : FOk H (callF A fdLaw L a slLaw pr os lv)) : SpSOk prog w syP ns (callF A fdLaw L a slLaw pr os lv) 1 := by
  intro lo ah k h
  simp only [aSpS] at h
  split at h
  · rename_i r hr
    obtain ⟨xs, is, e1, hl, e2, e3, hk⟩ := h
    have hxs := refs_list e2
    subst hxs
    refine W.intro fun σ s I => ?_
    rw [sy1]
    have hF : (callF A fdLaw L a slLaw pr os lv).slots[3]? = some (nmS slLaw 3, none) := rfl
    have hil : (3 : Nat) < lo.length := getL_lt _ _ _ hr
    have hu := OK.hu
    have hh := OK.hand
    generalize hFF : callF A fdLaw L a slLaw pr os lv = F at *
    have hnm : F.nm = nmS slLaw := by rw [← hFF]; exact nm_callF
    have henv : F.env = callEnvC fdLaw L a := by rw [← hFF]; rfl
    have hkind : F.env.kindOf (nmS slLaw 3) = some .local := by rw [henv]; kernel_rfl
    refine wpAny_Assign_ListComp_walk (fullV s.heap) (fun v y => y = v) (by rw [henv]; kernel_rfl) (by decide) (by decide) rfl (by decide +kernel) (by decide +kernel) hkind (by rw [henv]; kernel_rfl) ?_
    rw [← hnm]
    refine wpAny_Name (ld_loc OK I hr fun v rv => ?_) (by rw [hnm]; decide +kernel)
    obtain ⟨l, vs, n, el, rfl, hlo, rvs⟩ := I.list e1 rv
    refine wpAny_pyIter_list (isList_of hlo) ?_
    have hnew := size_none s.heap
    have kp : ∀ b o, s.heap.get? b = some o → (s.heap.push { cls := .type "list_iterator", data := .fields #[.ref l, .int 0 0] }).get? b = some o := fun b o e => Heap.get?_push_of_some _ e
    have hne : l ≠ s.heap.objs.size := fun e => by rw [e, hnew] at hlo; cases hlo
    have hnsz : s.heap.objs.size ≠ F.env.locals := fun e => by
      obtain ⟨o, ho, _⟩ := I.there _ (mem_locals (F := F) (σ := σ)); rw [← e, hnew] at ho; cases ho
    obtain ⟨m, hns, _⟩ := I.loc
    have hlen := rvs.length
    rw [List.length_map] at hlen hl
    have hfull : ∀ i ∈ is, ∀ v, VR σ s.heap (.ref i) v → ∃ b ws n, v = .ref b ∧ s.heap.get? b = some { cls := .type "list", data := .seq (ws : List Value).toArray n } ∧ fullV s.heap v = fullA ah i ∧ fullV s.heap v = !ws.isEmpty := by
      intro i hi v rv
      obtain ⟨ys, ey, hyl⟩ := e3 i hi
      obtain ⟨b, ws, n, _, rfl, hb, rw1⟩ := I.list ey rv
      have h1 : fullV s.heap (.ref b) = !ws.isEmpty := by
        show (match s.heap.get? b with | some ⟨_, _, .seq xs _, _⟩ => !xs.toList.isEmpty | _ => false) = _
        rw [hb]
      refine ⟨b, ws, n, rfl, hb, ?_, h1⟩
      rw [h1]
      unfold fullA
      rw [ey]
      have := rw1.length
      cases ws <;> cases ys <;> simp_all
    have hmem : ∀ (i : Nat) (v : Value), vs.toArray[i]? = some v → ∃ j ∈ is, VR σ s.heap (.ref j) v := by
      intro i v hv
      have hv : vs[i]? = some v := by simpa using hv
      have hi : i < is.length := by rw [← hlen]; exact (List.getElem?_eq_some_iff.mp hv).1
      have ha : (is.map AV.ref)[i]? = some (.ref is[i]) := by rw [List.getElem?_map, List.getElem?_eq_getElem hi]; rfl
      obtain ⟨v', hv', r'⟩ := rvs.get ha
      rw [hv] at hv'; cases hv'
      exact ⟨is[i], List.getElem_mem hi, r'⟩
    refine ⟨s.heap.objs.size, [s.heap.objs.size, l], [s.heap.objs.size], vs.toArray.size, _, _, m, rfl, Walks.list hh s.heap.objs.size l hne vs.toArray, by rw [sizeLine_eq, List.size_toArray]; omega, ⟨⟨_, Heap.get?_push_size _ rfl, rfl, rfl⟩, isList_of (kp _ _ hlo)⟩, ?_, ?_, hns.keeps kp, ?_, ?_⟩
    · intro b hb
      simp only [List.mem_cons, List.not_mem_nil, or_false] at hb
      have : (s.heap.push { cls := .type "list_iterator", data := .fields #[.ref l, .int 0 0] }).objs.size = s.heap.objs.size + 1 := by simp [Heap.push]
      rcases hb with rfl | rfl
      · show _ < (s.heap.push _).objs.size; rw [this]; exact Nat.lt_succ_self _
      · show _ < (s.heap.push _).objs.size; rw [this]; exact Nat.lt_succ_of_lt (Heap.lt_size hlo)
    · simp only [List.mem_singleton]; exact fun e => hnsz e.symm
    · refine ⟨fun C i v s3 m3 E' hP hn3 hm3 hk3 ht3 => ?_, fun C i v s3 m3 E' hP hp hn3 hm3 hk3 ht3 => ?_⟩
      · obtain ⟨j, hj, rj⟩ := hmem i v hP
        obtain ⟨b, ws, nn, rfl, hb, _, hfv⟩ := hfull j hj v rj
        have hb3 : s3.heap.get? b = some { cls := .type "list", data := .seq (ws : List Value).toArray nn } := hk3 b _ (by simp only [List.mem_singleton]; exact fun e => by rw [e, hnew] at hb; cases hb) (kp _ _ hb)
        rw [List.forIn_cons, if_pos rfl]
        refine wpAny_bind (wpAny_bind ?_)
        refine wpAny_isTrue_Compare1 (wpAny_Name (wpAny_loadName_local rfl rfl hn3 hm3 ?_) (by decide +kernel)) rfl
        refine PySem.wpAny_List (PySem.wpAny_items_nil ⟨by rw [sizeLine_eq]; decide, ?_⟩)
        have kp3 : ∀ b o, s3.heap.get? b = some o → (s3.heap.push { cls := .type "list", data := .seq ([] : List Value).toArray }).get? b = some o := fun b o e => Heap.get?_push_of_some _ e
        refine ne_list_nil (isList_of (kp3 _ _ hb3)) (isList_of (Heap.get?_push_size _ rfl)) hu ?_
        refine wpAny_truthy_bool (wpAny_pure ?_)
        show wpAny _ _ (forIn [] _ _) _ _ _
        rw [List.forIn_nil]
        exact wpAny_pure ⟨hfv.symm, ⟨_, s3.toks, rfl, kp3⟩⟩
      · exact wpAny_Name (wpAny_loadName_local rfl rfl hn3 hm3 ⟨rfl, Keeps.refl _⟩) (by decide +kernel)
    · intro D h' tk ys vs' hD hl' hpl hlen' hP hpair hns' hkeep ht
      have hvs : vs' = vs := by
        have := walked_is (items := vs.toArray) hlen' hP
        simpa using this
      subst hvs
      have hys := paired_same hpair
      have hDs : s.heap.get? D = none := by
        cases q : s.heap.get? D with
        | none => rfl
        | some o => rw [kp _ _ q] at hD; cases hD
      have hext : Heap.ExtBut F.env.locals s.heap h' := fun b o hb e => hkeep b o hb (by simp only [List.mem_singleton]; exact fun q => by rw [q, hnew] at e; cases e) (kp b o e)
      have hmU : ∀ m', s.heap.Ns F.env.locals m' → m' = m := fun m' hns2 => by
        obtain ⟨o, es, ep, ho, hx, r1⟩ := hns
        obtain ⟨o', es', ep', ho', hx', r2⟩ := hns2
        rw [ho] at ho'; cases ho'
        rw [hx] at hx'; cases hx'
        funext x
        rw [← r1.2 x, ← r2.2 x]
      have hfin := filt_refs (p := fullV s.heap) (f := fullA ah) rvs fun i hi v rv => by obtain ⟨b, ws, n, _, _, h3, _⟩ := hfull i hi v rv; exact h3
      refine ⟨σ ++ [D], _, _, .next, I.newLocal (tk := tk) (D := D) OK.nd (by rw [hnm] at *; exact hF) hil (fun m' h2 => by rw [hmU m' h2]; rw [hnm] at hns'; exact hns') hext hDs hpl (by rw [hys]; exact hfin) ht, List.prefix_append .., I.frz mem_locals hext, rfl, rfl, hk⟩
  · exact h.elim
end Mine
end
section
open PySem PySem.Spec PySem.Calls PyProof.Rows PySem.W PySem.Builtin
set_option maxRecDepth 100000
namespace Mine
variable {prog : Program} {w : World} {H : Heap} {s : Shared} {F : FC} {σ : List Addr} {lo : Lo} {ah : AH}
def scCell : Scope := { kind := .function, names := [(".0", .local), ("cell", .local)], isGenerator := false, isCoroutine := false }
theorem sy0 : syP 0 = .Assign [.Name (nmS slLaw 1) ⟨174, 4, 174, 9⟩] (.ListComp (.BinOp (.Name "cell" ⟨174, 13, 174, 17⟩) .Mod (.BinOp (.Constant (.int 10) 0 ⟨174, 20, 174, 22⟩) .Pow (.Constant (.int 9) 0 ⟨174, 26, 174, 27⟩) ⟨174, 20, 174, 27⟩) ⟨174, 13, 174, 27⟩)
    [⟨.Name "cell" ⟨174, 32, 174, 36⟩, .Subscript (.Name (nmS slLaw 0) ⟨174, 40, 174, 46⟩) (.Slice none (some (.Constant (.int 8) 0 ⟨174, 48, 174, 49⟩)) none ⟨174, 47, 174, 49⟩) ⟨174, 40, 174, 50⟩, [], 0⟩] scCell ⟨174, 12, 174, 51⟩) ⟨174, 4, 174, 51⟩ := by kernel_rfl
theorem pick8 (items : Array Value) : (slicePick items none (some 8) none).toList = items.toList.take 8 := by
  rcases Nat.lt_or_ge items.size 8 with h | h
  · rw [slicePick_plain]
    have e : clipAt items.size 8 = items.size := by unfold clipAt; omega
    simp only [Option.elim, e, List.drop_zero, Nat.sub_zero]
    rw [List.take_of_length_le (by simp), List.take_of_length_le (by simp; omega)]
  · have := slicePick_upto items 8 h
    rw [show ((8 : Int)) = ((8 : Nat) : Int) from rfl, this]
def modF (v y : Value) : Prop := ∀ (x : Int) (t : Tok), v = .int x t → ∃ t', y = .int (x % 1000000000) t'
theorem mod_list {σ : List Addr} {h : Heap} : ∀ {ns : List Int} {vs ys : List Value}, IntsAre vs ns → Paired modF vs ys → VRs σ h (ns.map fun n => .int (n % 1000000000)) ys
  | _, _, _, .nil, p => by cases p; exact .nil
  | _, _, _, .cons m t r, p => by
    cases p with
    | cons h1 h2 =>
      obtain ⟨t', rfl⟩ := h1 _ _ rfl
      exact .cons vr_int (mod_list r h2)
theorem ints_take {ns : List Int} {vs : List Value} (h : IntsAre vs ns) : ∀ k, IntsAre (vs.take k) (ns.take k) := by
  induction h with
  | nil => intro k; rw [List.take_nil, List.take_nil]; exact .nil
  | cons m t _ ih =>
    intro k
    cases k with
    | zero => exact .nil
    | succ k => exact .cons m t (ih k)
theorem isList_new {h : Heap} (cs : Array Value) : (h.push { cls := .type "list", data := .seq cs }).IsList h.objs.size cs := ⟨_, Heap.get?_push_size h rfl, rfl, 0, rfl⟩
theorem s0_ok {ns : List Int} {A : Around} {L a : Addr} {pr : Addr → Obj → Prop} {os : OsState} {lv : Nat} (OK : FOk H (callF A fdLaw L a slLaw pr os lv)) (I : Inv prog w (callF A fdLaw L a slLaw pr os lv) σ lo ah s) {sa : Addr} {items : Array Value} (hlo : getL lo 0 = some (.con (.ref sa))) (hl1 : 1 < lo.length) (hsa : s.heap.IsList sa items) (hns : IntsAre items.toList ns) (hsz : ns.length ≤ 1000)
    {Q : Flow → Shared → Prop} (hQ : ∀ σ' s', Inv prog w (callF A fdLaw L a slLaw pr os lv) σ' (setL lo 1 (.ref ah.length)) (ah ++ [.list ((ns.take 8).map fun n => .int (n % 1000000000))]) s' → Q .next s') :
    wpAny (model prog w) (callF A fdLaw L a slLaw pr os lv).A (exec (syP 0) (callF A fdLaw L a slLaw pr os lv).env) Q Nev s := by
  rw [sy0]
  have hF : (callF A fdLaw L a slLaw pr os lv).slots[1]? = some (nmS slLaw 1, none) := rfl
  have hh := OK.hand
  generalize hFF : callF A fdLaw L a slLaw pr os lv = F at *
  have hnm : F.nm = nmS slLaw := by rw [← hFF]; exact nm_callF
  have henv : F.env = callEnvC fdLaw L a := by rw [← hFF]; rfl
  have hkind : F.env.kindOf (nmS slLaw 1) = some .local := by rw [henv]; kernel_rfl
  refine wpAny_mono (wpAny_with_toks (Q := fun f s' => Q f s') (E := Nev) I.tk (wpAny_Assign_ListComp_walk (Q := fun f s' => 1 ≤ s'.toks → Q f s') (fun _ => true) modF (by rw [henv]; kernel_rfl) (by decide) (by decide) rfl (by decide +kernel) (by decide +kernel) hkind (by rw [henv]; kernel_rfl) ?_)) (fun _ _ y => y) fun _ _ y => y
  have hil := hns.length
  have hil2 : items.size = ns.length := by rw [← hil]; simp
  rw [← hnm]
  refine Subscript_ (wpAny_Name (ld_loc OK I hlo fun v rv => ?_) (by rw [hnm]; decide +kernel))
  have hv := vr_con_inv rv
  subst hv
  refine wpAny_Slice ?_
  rw [evalPart_none]
  refine wpAny_pure ?_
  rw [evalPart_some]
  refine wpAny_Constant_int ?_
  refine wpAny_pure ?_
  have kp1 : ∀ b o, s.heap.get? b = some o → (s.heap.push (slObj .none (.int 8 s.toks))).get? b = some o := fun b o e => Heap.get?_push_of_some _ e
  have hsa1 : (s.heap.push (slObj .none (.int 8 s.toks))).IsList sa items := hsa.at fun o e => kp1 _ _ e
  refine tail_T hsa1.typeIs list_getitem_lookup (wpAny_getItem_list_slice hsa1 (Heap.IsSliceOf.new _ _ _ _) .none (.int 8 s.toks) .none (by decide) ?_ (by rw [hil2, sizeLine_eq]; omega))
  have e0 : (s.heap.push (slObj .none (.int 8 s.toks))).objs.size = s.heap.objs.size + 1 := by simp [Heap.push]
  generalize hcs : slicePick items none (some 8) none = cs
  have hcl : cs.toList = items.toList.take 8 := by rw [← hcs]; exact pick8 items
  have hints : IntsAre cs.toList (ns.take 8) := by rw [hcl]; exact ints_take hns 8
  have kp2 : ∀ b o, s.heap.get? b = some o → ((s.heap.push (slObj .none (.int 8 s.toks))).push { cls := .type "list", data := .seq cs }).get? b = some o := fun b o e => Heap.get?_push_of_some _ (kp1 b o e)
  have hlist := isList_new (h := s.heap.push (slObj .none (.int 8 s.toks))) cs
  refine wpAny_pyIter_list hlist ?_
  generalize hh2 : (s.heap.push (slObj .none (.int 8 s.toks))).push { cls := .type "list", data := .seq cs } = h2 at hlist kp2
  have hD : (s.heap.push (slObj .none (.int 8 s.toks))).objs.size < h2.objs.size := by rw [← hh2]; simp [Heap.push]
  generalize hax : (s.heap.push (slObj .none (.int 8 s.toks))).objs.size = ax at hlist hD ⊢
  have hnew := size_none h2
  have kp3 : ∀ b o, h2.get? b = some o → (h2.push { cls := .type "list_iterator", data := .fields #[.ref ax, .int 0 0] }).get? b = some o := fun b o e => Heap.get?_push_of_some _ e
  have hne : ax ≠ h2.objs.size := Nat.ne_of_lt hD
  have hnsz : h2.objs.size ≠ F.env.locals := fun e => by
    obtain ⟨o, ho, _⟩ := I.there _ (mem_locals (F := F) (σ := σ)); rw [← e] at ho; have := kp2 _ _ ho; rw [hnew] at this; cases this
  obtain ⟨m, hns0, _⟩ := I.loc
  have hsz3 : (h2.push { cls := .type "list_iterator", data := .fields #[.ref ax, .int 0 0] }).objs.size = h2.objs.size + 1 := by simp [Heap.push]
  have hcsz : cs.size ≤ 8 := by have := congrArg List.length hcl; simp at this; omega
  refine ⟨h2.objs.size, [h2.objs.size, ax], [h2.objs.size], cs.size, _, _, m, rfl, Walks.list hh h2.objs.size ax hne cs, by rw [sizeLine_eq]; omega, ⟨⟨_, Heap.get?_push_size _ rfl, rfl, rfl⟩, hlist.at fun o e => kp3 _ _ e⟩, ?_, ?_, (hns0.keeps kp2).keeps kp3, ?_, ?_⟩
  · intro b hb
    simp only [List.mem_cons, List.not_mem_nil, or_false] at hb
    rcases hb with rfl | rfl
    · show _ < (h2.push _).objs.size; rw [hsz3]; exact Nat.lt_succ_self _
    · show _ < (h2.push _).objs.size; rw [hsz3]; exact Nat.lt_succ_of_lt hD
  · simp only [List.mem_singleton]; exact fun e => hnsz e.symm
  · refine ⟨fun C i v s3 m3 E' hP hn3 hm3 hk3 ht3 => ?_, fun C i v s3 m3 E' hP hp hn3 hm3 hk3 ht3 => ?_⟩
    · rw [List.forIn_nil]
      exact wpAny_pure ⟨rfl, Keeps.refl _⟩
    · have hv : cs.toList[i]? = some v := by simpa using hP
      obtain ⟨x, t, rfl⟩ : ∃ x t, v = .int x t := by
        clear hP hm3
        revert i
        generalize cs.toList = l at hints
        generalize ns.take 8 = ms at hints
        intro i hv
        induction hints generalizing i with
        | nil => cases hv
        | cons m t _ ih =>
          cases i with
          | zero => cases hv; exact ⟨m, t, rfl⟩
          | succ i => exact ih i (by simpa using hv)
      refine wpAny_BinOp (wpAny_Name (wpAny_loadName_local rfl rfl hn3 hm3 ?_) (by decide +kernel))
      refine wpAny_BinOp (wpAny_Constant_int (wpAny_Constant_int ?_))
      refine pow_int (by decide) (powFits (by decide) (by decide) (by decide) (by decide)) ?_
      refine mod_int' (by decide) ?_
      refine ⟨fun x' t' e => ?_, ⟨s3.heap, _, rfl, fun _ _ e => e⟩⟩
      cases e
      rw [Int.fmod_eq_emod_of_nonneg _ (by decide)]
      exact ⟨_, rfl⟩
  · intro D h' tk ys vs' hDn hl' hpl hlen' hP hpair hns' hkeep ht
    have hvs : vs' = cs.toList := walked_is (items := cs) hlen' hP
    subst hvs
    rw [show cs.toList.filter (fun _ => true) = cs.toList from List.filter_eq_self.mpr fun _ _ => rfl] at hpair
    have hDs : s.heap.get? D = none := by
      cases q : s.heap.get? D with
      | none => rfl
      | some o => rw [kp3 _ _ (kp2 _ _ q)] at hDn; cases hDn
    have hext : Heap.ExtBut F.env.locals s.heap h' := fun b o hb e => hkeep b o hb (by simp only [List.mem_singleton]; exact fun q => by have := kp2 _ _ e; rw [q, hnew] at this; cases this) (kp3 _ _ (kp2 _ _ e))
    have hmU : ∀ m', s.heap.Ns F.env.locals m' → m' = m := fun m' hns2 => by
      obtain ⟨o, es, ep, ho, hx, r1⟩ := hns0
      obtain ⟨o', es', ep', ho', hx', r2⟩ := hns2
      rw [ho] at ho'; cases ho'
      rw [hx] at hx'; cases hx'
      funext x
      rw [← r1.2 x, ← r2.2 x]
    exact hQ _ _ (I.newLocal (tk := tk) (D := D) (i := 1) OK.nd (by rw [hnm] at *; exact hF) hl1 (fun m' h2 => by rw [hmU m' h2]; rw [hnm] at hns'; exact hns') hext hDs hpl (mod_list hints hpair) ht)
end Mine
end
section
open PySem PySem.Spec PySem.Calls PyProof.Rows PySem.W PySem.Builtin
set_option maxRecDepth 100000
namespace Mine
variable {prog : Program} {w : World} {H : Heap} {s : Shared} {F : FC} {σ : List Addr} {lo : Lo} {ah : AH}
def scSign : Scope := { kind := .function, names := [(".0", .local), ("sign", .local)], isGenerator := false, isCoroutine := false }
abbrev PLC : List Nat := [97, 90, 55, 45, 39, 42]
theorem sx3 : sxP 3 = .Call (.Name BF.all.s ⟨168, 42, 168, 45⟩) [.ListComp (.Compare (.Name "sign" ⟨168, 47, 168, 51⟩) [.In] [.Constant (.str (S PLC)) 0 ⟨168, 55, 168, 63⟩] ⟨168, 47, 168, 63⟩)
    [⟨.Name "sign" ⟨168, 68, 168, 72⟩, .Name (nmS (slU .written) 9) ⟨168, 76, 168, 81⟩, [], 0⟩] scSign ⟨168, 46, 168, 82⟩] [] ⟨168, 42, 168, 83⟩ := by kernel_rfl
def boolF (f : Nat → Bool) (v y : Value) : Prop := ∀ (c : Nat) (u : Tok), v = .str ⟨#[c]⟩ u → y = .bool (f c)
theorem pair_bools {f : Nat → Bool} : ∀ {l : List Nat} {vs ys : List Value}, vs.length = l.length → (∀ (j : Nat) v, vs[j]? = some v → ∃ c u, l[j]? = some c ∧ v = .str ⟨#[c]⟩ u) → Paired (boolF f) vs ys → ys = l.map fun c => .bool (f c)
  | [], vs, ys, hl, _, p => by
    have : vs = [] := List.length_eq_zero_iff.mp hl
    subst this
    cases p; rfl
  | c :: l, vs, ys, hl, hv, p => by
    cases p with
    | nil => cases hl
    | cons h1 h2 =>
      obtain ⟨c', u, e1, e2⟩ := hv 0 _ rfl
      cases e1
      rw [h1 c u e2, pair_bools (l := l) (by simpa using hl) (fun j v hj => by simpa using hv (j + 1) v (by simpa using hj)) h2]
      rfl
theorem all_bools {A : Around} (hh : A.handled = none) {D : Addr} {l : List Nat} {f : Nat → Bool} {E : Value → Shared → Prop} {Q : Value → Shared → Prop} (hD : s.heap.IsList D (l.map fun c => Value.bool (f c)).toArray)
    (h : ∀ h' tk, (∀ b o, s.heap.get? b = some o → h'.get? b = some o) → Q (.bool (l.all f)) { s with heap := h', toks := tk }) : wpAny (model prog w) A (call (.builtin "all") [.ref D]) Q E s := by
  refine call_all_walk ?_
  refine wpAny_pyIter_list hD ?_
  have hnew := size_none s.heap
  have kp : ∀ b o, s.heap.get? b = some o → (s.heap.push { cls := .type "list_iterator", data := .fields #[.ref D, .int 0 0] }).get? b = some o := fun b o e => Heap.get?_push_of_some _ e
  have hne : D ≠ s.heap.objs.size := fun e => by obtain ⟨o, ho, _⟩ := hD; rw [e, hnew] at ho; cases ho
  refine ⟨s.heap.objs.size, [s.heap.objs.size, D], [s.heap.objs.size], _, _, _, fun i => f (l.getD i 0), rfl, Walks.list (A := A.in1) hh s.heap.objs.size D hne (l.map fun c => Value.bool (f c)).toArray, ⟨⟨_, Heap.get?_push_size _ rfl, rfl, rfl⟩, hD.at fun o e => kp _ _ e⟩, ?_, ?_⟩
  · intro i v s' Q' E' hP hQ'
    have hP : (l.map fun c => Value.bool (f c))[i]? = some v := by simpa using hP
    rw [List.getElem?_map] at hP
    cases q : l[i]? with
    | none => rw [q] at hP; cases hP
    | some c =>
      rw [q] at hP; cases hP
      refine wpAny_truthy_bool ?_
      have hQ' : Q' (f (l.getD i 0)) s' := hQ'
      rw [List.getD_eq_getElem?_getD, q] at hQ'
      exact hQ'
  · intro h' tk hk
    have e : (List.range (l.map fun c => Value.bool (f c)).toArray.size).all (fun i => f (l.getD i 0)) = l.all f := by
      rw [List.size_toArray, List.length_map]
      have := congrArg (fun m : List Nat => m.all f) (range_getD l 0)
      simp only [List.all_map] at this
      exact this
    rw [e]
    exact h h' tk fun b o q => hk b o (by simp only [List.mem_singleton]; exact fun z => by rw [z, hnew] at q; cases q) (kp b o q)
theorem plain_in (c : Nat) : plainC c = decide (c ∈ PLC) := by
  unfold plainC
  by_cases h : c ∈ PLC
  · rw [decide_eq_true h]; exact List.contains_iff_mem.mpr h
  · rw [decide_eq_false h]
    cases q : List.contains [97, 90, 55, 45, 39, 42] c with
    | false => rfl
    | true => exact absurd (List.contains_iff_mem.mp q) h
theorem core3 (B : Base prog w H) {fd : FuncData} (hfd : fd.scope = (fdU .written).scope) {A : Around} {L a : Addr} {pr : Addr → Obj → Prop} {os : OsState} {lv : Nat} (OK : FOk H (callF A fd L a (slU .written) pr os lv))
    (I : Inv prog w (callF A fd L a (slU .written) pr os lv) σ lo ah s) {l : T} (hx : getL lo 9 = some (.str l)) (hl : l.length ≤ 100) {Q : Value → Shared → Prop}
    (h : ∀ h' tk, (∀ b o, s.heap.get? b = some o → h'.get? b = some o) → Q (.bool (l.all plainC)) { s with heap := h', toks := tk }) :
    wpAny (model prog w) (callF A fd L a (slU .written) pr os lv).A (eval (sxP 3) (callF A fd L a (slU .written) pr os lv).env) Q Nev s := by
  rw [sx3]
  have hh := OK.hand
  generalize hFF : callF A fd L a (slU .written) pr os lv = F at *
  have hnm : F.nm = nmS (slU .written) := by rw [← hFF]; exact nm_callF
  have henv : F.env = callEnvC fd L a := by rw [← hFF]; rfl
  have hkall : F.env.kindOf BF.all.s = some .globalImplicit := by
    rw [henv]
    show fd.scope.names.lookup _ = _
    rw [hfd]; kernel_rfl
  refine Call_ (ld_bfn OK B I (f := .all) hkall ?_)
  refine PySem.callWith_builtin1 ?_
  refine wpAny_ListComp_walk (fun _ => true) (boolF plainC) (by decide) (by decide) rfl (by decide +kernel) (by decide +kernel) ?_
  rw [← hnm]
  refine wpAny_Name (ld_loc OK I hx fun v rv => ?_) (by rw [hnm]; decide +kernel)
  obtain ⟨t, rfl⟩ := vr_str_inv rv
  refine wpAny_pyIter_str fun o St hW hst => ?_
  have hnew := size_none s.heap
  have kp : ∀ b o', s.heap.get? b = some o' → (s.heap.push o).get? b = some o' := fun b o' e => Heap.get?_push_of_some _ e
  have hszl : (S l).cps.size = l.length := by simp [S]
  refine ⟨s.heap.objs.size, [s.heap.objs.size], [s.heap.objs.size], _, _, St, rfl, hW F.A hh, by rw [hszl, sizeLine_eq]; omega, hst, ?_, ?_, ?_⟩
  · intro b hb
    rw [List.mem_singleton] at hb
    subst hb
    show _ < (s.heap.push o).objs.size
    rw [Heap.size_push]; exact Nat.lt_succ_self _
  · refine ⟨fun C i v s3 m3 E' hP hn3 hm3 hk3 ht3 => ?_, fun C i v s3 m3 E' hP hp hn3 hm3 hk3 ht3 => ?_⟩
    · rw [List.forIn_nil]
      exact wpAny_pure ⟨rfl, Keeps.refl _⟩
    · obtain ⟨c, u, hc, rfl⟩ := hP
      refine wpAny_Compare1 (wpAny_Name (wpAny_loadName_local rfl rfl hn3 hm3 ?_) (by decide +kernel)) rfl
      refine wpAny_Constant_str ?_
      refine PyProof.Rows.in_str ?_
      rw [StrLaws.found_one, S_cps]
      refine ⟨fun c' u' e => ?_, ⟨s3.heap, _, rfl, fun _ _ e => e⟩⟩
      cases e
      show Value.bool (decide (c ∈ PLC)) = Value.bool (plainC c)
      rw [plain_in]
  · intro D h' tk ys vs' hDn hl' hpl hlen' hP hpair hkeep
    rw [show vs'.filter (fun _ => true) = vs' from List.filter_eq_self.mpr fun _ _ => rfl] at hpair
    have hys := pair_bools (l := l) (by rw [hlen', hszl]) (fun j v hj => by obtain ⟨c, u, h1, h2⟩ := hP j v hj; exact ⟨c, u, by simpa [S] using h1, h2⟩) hpair
    have hys2 : ys = (l.map fun c => Value.bool (plainC c)).toArray := by rw [← hys]
    rw [hys2] at hl'
    refine all_bools (s := { s with heap := h', toks := tk }) hh hl' fun h'' tk' hk => ?_
    exact h h'' tk' fun b o' e => hk b o' (hkeep b o' (by simp only [List.mem_singleton]; exact fun z => by rw [z, hnew] at e; cases e) (kp b o' e))
theorem isTrue_call {f : PySem.Expr} {args : List PySem.Expr} {kw : List Keyword} {pos : Pos} (env : Env) (whole : Sem Value) :
    isTrue (.Call f args kw pos) env whole = (do let v ← whole; standAt (PySem.Expr.Call f args kw pos).pos; holding [v] (truthy v)) := rfl
/-- a call's truth by its value -/
theorem spOk_call {n : Nat} {f : PySem.Expr} {args : List PySem.Expr} {kw : List Keyword} {pos : Pos} (hs : sxP n = .Call f args kw pos) (hv : ∀ lo ah (k : KA), aSp lo ah k n → WE prog w F (eval (sxP n) F.env) lo ah (fun v lo' ah' => lo' = lo ∧ k v ah')) : SpOk prog w sxP F n := by
  refine ⟨hv, fun t l => by rw [hs]; rfl, fun lo ah k h => ?_⟩
  intro σ s I
  have z := hv lo ah (fun v ah => Mine.tru v fun b => k b lo ah) h
  rw [hs] at z ⊢
  rw [isTrue_call]
  refine wpAny_bind (z.then I fun σ1 s1 lo1 ah1 x va I1 p1 f1 r1 q1 => ?_)
  obtain ⟨rfl, q1⟩ := q1
  refine wpAny_bind (wpAny_standAt (wpAny_holding ?_))
  exact Lk.fin I1 p1 f1 (op_tru r1 q1) fun z h => h
theorem sp3_ok (B : Base prog w H) {fd : FuncData} (hfd : fd.scope = (fdU .written).scope) {A : Around} {L a : Addr} {pr : Addr → Obj → Prop} {os : OsState} {lv : Nat} (OK : FOk H (callF A fd L a (slU .written) pr os lv)) : SpOk prog w sxP (callF A fd L a (slU .written) pr os lv) 3 := by
  refine spOk_call sx3 fun lo ah k h => ?_
  simp only [aSp] at h
  split at h
  · rename_i l hx
    refine W.intro fun σ s I => ?_
    refine core3 B hfd OK I hx h.1 fun h' tk hk ht => ?_
    exact .intro (I.keep hk ht) (.of_keep hk) vr_bool ⟨rfl, h.2⟩
  · exact h.elim
end Mine
end
section
open PySem PySem.Spec PySem.Calls PyProof.Rows PySem.W PySem.Builtin
set_option maxRecDepth 100000
set_option maxHeartbeats 4000000
namespace Mine
variable {prog : Program} {w : World} {H : Heap} {s : Shared} {F : FC} {σ : List Addr} {lo : Lo} {ah : AH}
def scN : Scope := { kind := .function, names := [(".0", .local), ("n", .local), ("_law_signs", .globalImplicit), ("draw", .free)], isGenerator := false, isCoroutine := false }
theorem sx4 : sxP 4 = .Call (.Attribute (.Constant (.str (S [])) 0 ⟨179, 15, 179, 17⟩) "join" ⟨179, 15, 179, 22⟩) [.ListComp (.Subscript (.Name GN.signs.s ⟨179, 24, 179, 34⟩) (.BinOp (.BinOp (.Name "draw" ⟨179, 35, 179, 39⟩) .FloorDiv (.BinOp (.Constant (.int 14) 0 ⟨179, 43, 179, 45⟩) .Pow (.Name "n" ⟨179, 49, 179, 50⟩) ⟨179, 43, 179, 50⟩) ⟨179, 35, 179, 50⟩) .Mod (.Constant (.int 14) 0 ⟨179, 53, 179, 55⟩) ⟨179, 35, 179, 55⟩) ⟨179, 24, 179, 56⟩)
    [⟨.Name "n" ⟨179, 61, 179, 62⟩, .Call (.Name "range" ⟨179, 66, 179, 71⟩) [.BinOp (.BinOp (.Name (nmS slLaw 5) ⟨179, 72, 179, 76⟩) .FloorDiv (.Constant (.int 3) 0 ⟨179, 80, 179, 81⟩) ⟨179, 72, 179, 81⟩) .Mod (.Constant (.int 7) 0 ⟨179, 84, 179, 85⟩) ⟨179, 72, 179, 85⟩] [] ⟨179, 66, 179, 86⟩, [], 0⟩] scN ⟨179, 23, 179, 87⟩] [] ⟨179, 15, 179, 88⟩ := by kernel_rfl
theorem join_ones (f : Nat → Nat) : ∀ l : List Nat, joinF [] (l.map fun x => [f x]) = l.map f
  | [] => rfl
  | [x] => rfl
  | x :: y :: r => by
    show [f x] ++ [] ++ joinF [] ((y :: r).map fun x => [f x]) = _
    rw [join_ones f (y :: r)]; rfl
theorem strs_ones (f : Nat → Nat) : ∀ l : List Nat, strsOf (l.map fun x => AV.str [f x]) = some (l.map fun x => [f x])
  | [] => rfl
  | x :: r => by show (strsOf (r.map fun x => AV.str [f x])).map ([f x] :: ·) = _; rw [strs_ones f r]; rfl
def signF (d : Int) (v y : Value) : Prop := ∀ (i : Nat) (t : Tok), v = .int (i : Int) t → ∃ t', y = .str (S [signs.getD (d / 14 ^ i % 14).toNat 0]) t'
theorem sign_list {σ : List Addr} {h : Heap} {d : Int} : ∀ {l : List Nat} {vs ys : List Value}, vs.length = l.length → (∀ (j : Nat) v, vs[j]? = some v → ∃ i t, l[j]? = some i ∧ v = .int (i : Int) t) → Paired (signF d) vs ys → VRs σ h (l.map fun n => .str [signs.getD (d / 14 ^ n % 14).toNat 0]) ys
  | [], vs, ys, hl, _, p => by
    have : vs = [] := List.length_eq_zero_iff.mp hl
    subst this
    cases p; exact .nil
  | c :: l, vs, ys, hl, hv, p => by
    cases p with
    | nil => cases hl
    | cons h1 h2 =>
      obtain ⟨i, t, e1, e2⟩ := hv 0 _ rfl
      cases e1
      obtain ⟨t', rfl⟩ := h1 _ _ e2
      exact .cons vr_str (sign_list (l := l) (by simpa using hl) (fun j v hj => by simpa using hv (j + 1) v (by simpa using hj)) h2)
theorem sign_at : ∀ {j : Nat}, j < 14 → ([.str [97], .str [90], .str [55], .str [45], .str [32], .str [59], .str [44], .str [61], .str [34], .str [92], .str [39], .str [42], .str [233], .str [8364]] : List AV)[j]? = some (.str [signs.getD j 0])
  | 0, _ => rfl | 1, _ => rfl | 2, _ => rfl | 3, _ => rfl | 4, _ => rfl | 5, _ => rfl | 6, _ => rfl | 7, _ => rfl | 8, _ => rfl | 9, _ => rfl | 10, _ => rfl | 11, _ => rfl | 12, _ => rfl | 13, _ => rfl
  | n + 14, h => absurd h (by omega)
theorem core4 (B : Base prog w H) {A : Around} {L a : Addr} {pr : Addr → Obj → Prop} {os : OsState} {lv : Nat} (OK : FOk H (callF A fdLaw L a slLaw pr os lv))
    (I : Inv prog w (callF A fdLaw L a slLaw pr os lv) σ lo ah s) {d : Int} (hx : getL lo 5 = some (.int d)) (hd0 : 0 ≤ d) (hd1 : d < 1000000000) {Q : Value → Shared → Prop}
    (h : ∀ h' t tk, (∀ b o, s.heap.get? b = some o → h'.get? b = some o) → Q (.str (S (textF d)) t) { s with heap := h', toks := tk }) :
    wpAny (model prog w) (callF A fdLaw L a slLaw pr os lv).A (eval (sxP 4) (callF A fdLaw L a slLaw pr os lv).env) Q Nev s := by
  rw [sx4]
  have hh := OK.hand
  have hslot : (callF A fdLaw L a slLaw pr os lv).slots[5]? = some (nmS slLaw 5, some (L + 1)) := rfl
  generalize hFF : callF A fdLaw L a slLaw pr os lv = F at *
  have hnm : F.nm = nmS slLaw := by rw [← hFF]; exact nm_callF
  have henv : F.env = callEnvC fdLaw L a := by rw [← hFF]; rfl
  have hkr : F.env.kindOf "range" = some .globalImplicit := by rw [henv]; kernel_rfl
  obtain ⟨m0, hns0, hloc⟩ := I.loc
  obtain ⟨dv, hcell, hdv⟩ := hloc 5 _ _ _ hslot hx
  obtain ⟨td, rfl⟩ := vr_int_inv hdv
  obtain ⟨mg, hmg, hgn, _⟩ := B.g
  obtain ⟨vg, hvg, rvg⟩ := hgn .signs
  have hvg2 := vr_con_inv rvg
  subst hvg2
  have hmgs : s.heap.Ns mainGlobals mg := I.oldNs OK hmg (by decide) (by decide)
  obtain ⟨sv, hsl, rsv⟩ := B.tab 103 _ rfl
  have hsls : s.heap.IsList 103 sv.toArray := by
    obtain ⟨o, ho, r⟩ := hsl
    exact ⟨o, I.old OK ho (by decide) (by decide), r⟩
  refine wpAny_Call_method_lateS (base_of (sx := sxP) (nm := nmS slLaw) (e := .cstr [] 0 ⟨179, 15, 179, 17⟩) rfl _ _ _) rfl rfl (wpAny_Constant_str ?_)
  refine ⟨"str", "str.join", PySem.F.plainAttrs_str, PySem.F.slot_str_join, PySem.F.type_str_join, typeIs_str _ _ _, (fun _ e => nomatch e), ?_⟩
  refine PySem.Calls.callWith_builtin rfl (evalArgs_plain (spliced_cons ?_))
  refine wpAny_ListComp_free (cl := [("draw", L + 1)]) (fun _ => true) (signF d) (by rw [henv]; kernel_rfl) (by decide) rfl (by decide +kernel) (by decide +kernel) ?_
  rw [← hnm]
  have I1 := I.tok1
  refine Call_ (ld_range OK B I1 hkr ?_)
  refine PySem.callWith_type rfl ?_
  refine evalArgs_plain (spliced_cons (wpAny_BinOp (wpAny_BinOp (wpAny_Name (ld_loc OK I1 hx fun v rv => ?_) (by rw [hnm]; decide +kernel)))))
  obtain ⟨td2, rfl⟩ := vr_int_inv rv
  refine wpAny_Constant_int (PyProof.Rows.floordiv_int (by decide) ?_ (.inl (PyProof.noPylong_small (by decide))))
  refine wpAny_Constant_int (mod_int' (by decide) ?_)
  rw [Int.fdiv_eq_ediv_of_nonneg _ (by decide), Int.fmod_eq_emod_of_nonneg _ (by decide)]
  refine spliced_nil ?_
  have hn0 : 0 ≤ d / 3 % 7 := by omega
  have hn1 : d / 3 % 7 ≤ 6 := by omega
  have htx : textF d = (List.range (d / 3 % 7).toNat).map fun n => signs.getD (d / 14 ^ n % 14).toNat 0 := rfl
  generalize d / 3 % 7 = n at hn0 hn1 htx ⊢
  refine call_range_1 ?_
  dsimp only
  have hrs : Builtin.Range.rangeSize 0 n 1 = n := by
    unfold Builtin.Range.rangeSize
    split <;> (try split) <;> omega
  have hfl : ∀ v : Int, 0 ≤ v → v ≤ 1000 → Builtin.Range.rangeFitsLong v = true := fun v h1 h2 => by
    unfold Builtin.Range.rangeFitsLong
    simp; omega
  have hsm : Builtin.Range.small 0 n 1 = true := by
    unfold Builtin.Range.small
    rw [hrs]
    simp [hfl 0 (by decide) (by decide), hfl n hn0 (by omega), hfl 1 (by decide) (by decide)]
  refine wpAny_pyIter_range (IsRange.new _ 0 n 1 _ _ _) hsm ?_
  rw [hrs]
  dsimp only
  generalize hh2 : (s.heap.push _) = h2
  have kp2 : ∀ b o, s.heap.get? b = some o → h2.get? b = some o := fun b o e => by rw [← hh2]; exact Heap.get?_push_of_some _ e
  have hnew := size_none h2
  have kp3 : ∀ b o, h2.get? b = some o → (h2.push { cls := .type "range_iterator", data := .fields #[rawInt 0, rawInt n, rawInt 1] }).get? b = some o := fun b o e => Heap.get?_push_of_some _ e
  have hit := Heap.get?_push_size h2 (o := { cls := .type "range_iterator", data := .fields #[rawInt 0, rawInt n, rawInt 1] }) rfl
  have hsz3 : (h2.push { cls := .type "range_iterator", data := .fields #[rawInt 0, rawInt n, rawInt 1] }).objs.size = h2.objs.size + 1 := by simp [Heap.push]
  have hold : ∀ b o, s.heap.get? b = some o → (h2.push { cls := .type "range_iterator", data := .fields #[rawInt 0, rawInt n, rawInt 1] }).get? b = some o ∧ b ∉ [h2.objs.size] := fun b o e =>
    ⟨kp3 _ _ (kp2 _ _ e), by simp only [List.mem_singleton]; exact fun q => by have := kp2 _ _ e; rw [q, hnew] at this; cases this⟩
  refine ⟨h2.objs.size, [h2.objs.size], [h2.objs.size], n.toNat, _, _, rfl, (Walks.range hh h2.objs.size 0 1 n.toNat).bound, by rw [sizeLine_eq]; omega, ?_, ?_, ?_, ?_⟩
  · show IsRangeIter _ _ (0 + ((0 : Nat) : Int) * 1) (((n.toNat : Nat) : Int) - ((0 : Nat) : Int)) 1
    rw [show (0 : Int) + ((0 : Nat) : Int) * 1 = 0 by omega, show ((n.toNat : Nat) : Int) - ((0 : Nat) : Int) = n by omega]
    exact hit
  · intro b hb
    rw [List.mem_singleton] at hb
    subst hb
    show _ < (h2.push _).objs.size
    rw [hsz3]; exact Nat.lt_succ_self _
  · refine ⟨fun C i v s3 m3 E' hC hP hn3 hm3 hk3 ht3 => ?_, fun C i v s3 m3 E' hC hP hp hn3 hm3 hk3 ht3 => ?_⟩
    · rw [List.forIn_nil]
      exact wpAny_pure ⟨rfl, Keeps.refl _⟩
    · obtain ⟨hin, t, rfl⟩ := hP
      have hi6 : i ≤ 5 := by omega
      have hpw : (0 : Int) < 14 ^ i ∧ (14 : Int) ^ i < 1000000000 := by
        have : i = 0 ∨ i = 1 ∨ i = 2 ∨ i = 3 ∨ i = 4 ∨ i = 5 := by omega
        rcases this with rfl | rfl | rfl | rfl | rfl | rfl <;> decide
      have ek : ∀ b o, s.heap.get? b = some o → s3.heap.get? b = some o := fun b o e => hk3 b o (hold b o e).2 (hold b o e).1
      have kn : (compEnvC scN [("draw", L + 1)] C F.env).kindOf "n" = some .local := by rw [henv]; kernel_rfl
      have kd : (compEnvC scN [("draw", L + 1)] C F.env).kindOf "draw" = some .cell := by rw [henv]; kernel_rfl
      have ks : (compEnvC scN [("draw", L + 1)] C F.env).kindOf GN.signs.s = some .globalImplicit := by rw [henv]; kernel_rfl
      have hkk : (compEnvC scN [("draw", L + 1)] C F.env).scope.kind = .function := rfl
      have hglo : (compEnvC scN [("draw", L + 1)] C F.env).globals = mainGlobals := OK.glo
      refine Subscript_ (Name_function_global hkk ks (loadGlobal_global (hglo ▸ hmgs.keeps ek) hvg ?_) GN.signs.ndb)
      refine wpAny_BinOp (wpAny_BinOp (wpAny_Name (wpAny_loadName_cell hkk kd (by kernel_rfl) (hcell.keeps ek) ?_) (by decide +kernel)))
      refine wpAny_BinOp (wpAny_Constant_int (wpAny_Name (wpAny_loadName_local hkk kn hn3 hm3 ?_) (by decide +kernel)))
      refine pow_int (by omega) (powFits (by decide) (by decide) (by omega) (by omega)) ?_
      rw [show ((0 : Int) + (i : Int) * 1).toNat = i by omega]
      refine PyProof.Rows.floordiv_int (by omega) ?_ (.inl (PyProof.noPylong_small (by omega)))
      refine wpAny_Constant_int (mod_int' (by decide) ?_)
      rw [Int.fdiv_eq_ediv_of_nonneg _ (by omega), Int.fmod_eq_emod_of_nonneg _ (by decide)]
      have hj0 : 0 ≤ d / 14 ^ i % 14 := by omega
      have hj1 : d / 14 ^ i % 14 < 14 := by omega
      have hFj : ∀ (y : Value), (∃ t', y = .str (S [signs.getD (d / 14 ^ i % 14).toNat 0]) t') → signF d (.int (0 + (i : Int) * 1) t) y := by
        intro y hy i' t' e
        injection e with e1 e2
        have : i' = i := by omega
        rw [this]; exact hy
      generalize d / 14 ^ i % 14 = j at hj0 hj1 hFj ⊢
      obtain ⟨v', hv', rv'⟩ := rsv.get (sign_at (j := j.toNat) (by omega))
      obtain ⟨t', rfl⟩ := vr_str_inv rv'
      have hls3 : s3.heap.IsList 103 sv.toArray := hsls.at fun o e => ek _ _ e
      refine tail_T hls3.typeIs list_getitem_lookup (wpAny_getItem_list hls3 hj0 (by omega) (by simpa using hv') ⟨hFj _ ⟨t', rfl⟩, ⟨s3.heap, _, rfl, fun _ _ e => e⟩⟩)
  · intro D h' tk ys vs' hDn hl' hpl hlen' hP hpair hkeep
    rw [show vs'.filter (fun _ => true) = vs' from List.filter_eq_self.mpr fun _ _ => rfl] at hpair
    have hr := sign_list (σ := []) (h := h') (l := List.range n.toNat) (by rw [hlen', List.length_range]) (fun j v hj => by
      obtain ⟨h1, t, rfl⟩ := hP j v hj
      exact ⟨j, t, by rw [List.getElem?_range h1], by rw [show (0 : Int) + (j : Int) * 1 = (j : Int) by omega]⟩) hpair
    obtain ⟨m, hm1, hm2⟩ := hr.texts (strs_ones _ _)
    refine spliced_nil ?_
    have hys : ys = (strValues m).toArray := by rw [← hm1]
    rw [hys] at hl'
    refine SC.join hl' hm2 (joinOk_of ?_) (fun t' tk' => ?_)
    · rw [List.map_map, List.length_map, S_length]
      have : (List.map ((fun x => x.length) ∘ S) ((List.range n.toNat).map fun n => [signs.getD (d / 14 ^ n % 14).toNat 0])) = (List.range n.toNat).map fun _ => 1 := by
        rw [List.map_map]; exact List.map_congr_left fun a _ => S_length _
      rw [this]
      have : ((List.range n.toNat).map fun _ => 1).sum = n.toNat := by
        have hs : ∀ l : List Nat, (l.map fun _ => 1).sum = l.length := by
          intro l
          induction l with
          | nil => rfl
          | cons x r ih => rw [List.map_cons, List.sum_cons, ih, List.length_cons]; omega
        rw [hs, List.length_range]
      rw [this]
      simp only [List.length_nil, Nat.mul_zero]
      omega
    · rw [join_S, join_ones, ← htx]
      exact h h' t' tk' fun b o e => hkeep b o (hold b o e).2 (hold b o e).1
theorem sp4_ok (B : Base prog w H) {A : Around} {L a : Addr} {pr : Addr → Obj → Prop} {os : OsState} {lv : Nat} (OK : FOk H (callF A fdLaw L a slLaw pr os lv)) : SpOk prog w sxP (callF A fdLaw L a slLaw pr os lv) 4 := by
  refine spOk_call sx4 fun lo ah k h => ?_
  simp only [aSp] at h
  split at h
  · rename_i d hx
    refine W.intro fun σ s I => ?_
    refine core4 B OK I hx h.1 h.2.1 fun h' t tk hk ht => ?_
    exact .intro (I.keep hk ht) (.of_keep hk) vr_str ⟨rfl, h.2.2⟩
  · exact h.elim
end Mine
end
section
open PySem PySem.Spec PySem.Calls PyProof.Rows PySem.W PySem.Builtin
set_option maxRecDepth 100000
set_option maxHeartbeats 1000000
namespace Mine
variable {prog : Program} {w : World} {H : Heap} {s : Shared} {F : FC} {σ : List Addr} {lo : Lo} {ah : AH}
section
variable {A : Around} {R : Result → Shared → Prop}
theorem loopDC {kx vx target iter : PySem.Expr} {scope : Scope} {pos : Pos} {it : Value} {D : Addr} {env : Env} (I : Nat → Shared → Prop)
    (turn : ∀ n s, I n s → wpAny (model prog w) A (pyNext it) (fun r s₁ => match r with
      | none => R (.ok .next) s₁
      | some v => wpAny (model prog w) A (letOwnedTupleGo target it v) (fun _ s₀ => wpAny (model prog w) A (assign target env v) (fun _ s₂ =>
          wpAny (model prog w) A (eval kx env) (fun kv s₄ => wpAny (model prog w) A (eval vx env) (fun vv s₅ =>
            wpAny (model prog w) A (dictSet D kv vv) (fun _ s₆ => ∃ m, m < n ∧ I m s₆) (notedBy (model prog w) A env fun e s' => R (.error e) s') s₅) (notedBy (model prog w) A env fun e s' => R (.error e) s') s₄) (notedBy (model prog w) A env fun e s' => R (.error e) s') s₂)
          (notedBy (model prog w) A env fun e s' => R (.error e) s') s₀) (notedBy (model prog w) A env fun e s' => R (.error e) s') s₁) (notedBy (model prog w) A env fun e s' => R (.error e) s') s)
    (n : Nat) (h : I n s) : codeAny (model prog w) A (.compLoop (.DictComp kx vx [⟨target, iter, [], 0⟩] scope pos) 0 it (.ref D) env) R s := by
  refine codeAny_loop rfl I (fun n s hI => ?_) n h
  show wpAny _ A ((compTurn (.DictComp kx vx [⟨target, iter, [], 0⟩] scope pos) 0 it (.ref D) env).onRaise (fun x => do noteFrame x env; theTreesLotGoes x)) _ _ s
  refine wpAny_noted ?_
  rw [compTurn_dict]
  refine wpAny_bind (wpAny_standAt (wpAny_bind (wpAny_mono (turn n s hI) (fun r s₁ h₁ => ?_) fun _ _ h' => h')))
  cases r with
  | none => exact wpAny_pure h₁
  | some v =>
    refine wpAny_bind (wpAny_mono h₁ (fun _ s₀ h₀ => ?_) fun _ _ h' => h')
    refine wpAny_bind (wpAny_mono h₀ (fun _ s₂ h₂ => ?_) fun _ _ h' => h')
    show wpAny _ _ (forIn ([] : List PySem.Expr) true _ >>= _) _ _ _
    rw [List.forIn_nil]
    refine wpAny_bind (wpAny_pure ?_)
    exact wpAny_bind (wpAny_bind (wpAny_mono h₂ (fun kv s₄ h₄ => wpAny_bind (wpAny_holding (wpAny_mono h₄ (fun vv s₅ h₅ => wpAny_bind (wpAny_standAt (wpAny_holding (wpAny_mono h₅ (fun _ s₆ h₆ => wpAny_pure ⟨rfl, h₆⟩) fun _ _ h' => h')))) fun _ _ h' => h'))) fun _ _ h' => h'))
end
theorem VR.flatH {σ σ' : List Addr} {h h' : Heap} {x : AV} {v : Value} (hf : flatV x = true) (r : VR σ h x v) : VR σ' h' x v := by
  cases x <;> first | (cases hf; done) | (simp only [VR] at r ⊢; exact r)
theorem KRs.flatH {σ σ' : List Addr} {h h' : Heap} : ∀ {es : List (T × AV)} {kvs : List (Str × Value)}, (es.all fun e => flatV e.2) = true → KRs σ h es kvs → KRs σ' h' es kvs
  | [], [], _, _ => trivial
  | (_, _) :: _, (_, _) :: _, hf, ⟨e, r1, r2⟩ => by
    rw [List.all_cons, Bool.and_eq_true] at hf
    exact ⟨e, r1.flatH hf.1, r2.flatH hf.2⟩
theorem dput_flat : ∀ (es : List (T × AV)) (x : T) (a : AV), flatV a = true → (es.all fun e => flatV e.2) = true → ((dput es x a).all fun e => flatV e.2) = true
  | [], x, a, ha, _ => by show ((x, a) :: ([] : List (T × AV))).all _ = true; simp [ha]
  | (k, v) :: r, x, a, ha, h => by
    rw [List.all_cons, Bool.and_eq_true] at h
    show (if k = x then (k, a) :: r else (k, v) :: dput r x a).all _ = true
    split
    · rw [List.all_cons, Bool.and_eq_true]; exact ⟨ha, h.2⟩
    · rw [List.all_cons, Bool.and_eq_true]; exact ⟨h.1, dput_flat r x a ha h.2⟩
abbrev foldC (xs : List (T × List T)) (es : List (T × AV)) : List (T × AV) := xs.foldl (fun o c => dput o c.1 (.str c.2.flatten)) es
theorem foldC_flat : ∀ (xs : List (T × List T)) (es : List (T × AV)), (es.all fun e => flatV e.2) = true → ((foldC xs es).all fun e => flatV e.2) = true
  | [], _, h => h
  | x :: r, es, h => foldC_flat r _ (dput_flat es x.1 _ rfl h)
theorem foldC_snoc (xs : List (T × List T)) (x : T × List T) (es : List (T × AV)) : foldC (xs ++ [x]) es = dput (foldC xs es) x.1 (.str x.2.flatten) := by
  unfold foldC; rw [List.foldl_append]; rfl
theorem joinF_nil : ∀ l : List T, joinF [] l = l.flatten
  | [] => rfl
  | [x] => by show x = [x].flatten; simp
  | x :: y :: r => by
    show x ++ [] ++ joinF [] (y :: r) = _
    rw [joinF_nil (y :: r), List.append_nil]; rfl
def scPk : Scope := { kind := .function, names := [(".0", .local), ("pk", .local), ("pv", .local)], isGenerator := false, isCoroutine := false }
def kxE : PySem.Expr := .Name "pk" ⟨127, 20, 127, 22⟩
def vxE : PySem.Expr := .Call (.Attribute (.Constant (.str (S [])) 0 ⟨127, 24, 127, 26⟩) "join" ⟨127, 24, 127, 31⟩) [.Name "pv" ⟨127, 32, 127, 34⟩] [] ⟨127, 24, 127, 35⟩
def tgE : PySem.Expr := .Tuple [.Name "pk" ⟨127, 40, 127, 42⟩, .Name "pv" ⟨127, 44, 127, 46⟩] 0 ⟨127, 40, 127, 46⟩
theorem sx5 : sxP 5 = .Call (.Attribute (.Name (nmS (slU .parse) 11) ⟨127, 4, 127, 11⟩) "update" ⟨127, 4, 127, 18⟩) [.DictComp kxE vxE [⟨tgE, .Call (.Attribute (.Name (nmS (slU .parse) 12) ⟨127, 50, 127, 63⟩) "items" ⟨127, 50, 127, 69⟩) [] [] ⟨127, 50, 127, 71⟩, [], 0⟩] scPk ⟨127, 19, 127, 72⟩] [] ⟨127, 4, 127, 73⟩ := by kernel_rfl
/-- the text of one entry -/
structure Ent (h : Heap) (kvs : List (Str × Value)) (j : Nat) (x : T × List T) : Prop where
  at_ : ∃ b n m, kvs[j]? = some (S x.1, .ref b) ∧ h.get? b = some { cls := .type "list", data := .seq (strValues m).toArray n } ∧ m.map (·.1) = x.2.map S
  sz : x.2.flatten.length ≤ 400000
theorem loop5 {A : Around} {R : Result → Shared → Prop} {it d C D : Addr} {ep : Nat} {kvs : List (Str × Value)} {xs : List (T × List T)} {iter : PySem.Expr} {pos : Pos} {env : Env} (hh : A.handled = none) (hlen : kvs.length = xs.length) (hl : xs.length ≤ 1000)
    (hent : ∀ (j : Nat) x, xs[j]? = some x → Ent s.heap kvs j x) (hk1 : env.kindOf "pk" = some .local) (hk2 : env.kindOf "pv" = some .local) (hkk : env.scope.kind = .function) (hC : env.locals = C)
    (hne : it ≠ C ∧ it ≠ D ∧ C ≠ D ∧ d ≠ it ∧ d ≠ C ∧ d ≠ D) (hap : ∀ b ws n, s.heap.get? b = some { cls := .type "list", data := .seq ws n } → b ≠ it ∧ b ≠ C ∧ b ≠ D)
    (hit : IsItemIter s.heap it d 0 kvs.length ep .none .none) (hd : s.heap.DictAt (PySem.strKind prog w) d kvs ep) (hD : s.heap.DictOf (PySem.strKind prog w) D []) {m0 : Str → Option Value} (hn : s.heap.Ns C m0)
    (hR : ∀ h' tk m' acc, h'.Ns C m' → h'.DictOf (PySem.strKind prog w) D acc → KRs [] h' (foldC xs []) acc → acc.length ≤ xs.length → (∀ b o, b ≠ it → b ≠ C → b ≠ D → s.heap.get? b = some o → h'.get? b = some o) → R (.ok .next) { s with heap := h', toks := tk }) :
    codeAny (model prog w) A (.compLoop (.DictComp kxE vxE [⟨tgE, iter, [], 0⟩] scPk pos) 0 (.ref it) (.ref D) env) R s := by
  obtain ⟨n1, n2, n3, n4, n5, n6⟩ := hne
  refine loopDC (fun k s' => ∃ h' tk j acc m' ok ov, s' = { s with heap := h', toks := tk } ∧ k = xs.length + 1 - j ∧ j ≤ xs.length ∧ IsItemIter h' it d j kvs.length ep ok ov ∧ h'.DictAt (PySem.strKind prog w) d kvs ep ∧ h'.DictOf (PySem.strKind prog w) D acc ∧ h'.Ns C m' ∧ KRs [] h' (foldC (xs.take j) []) acc ∧ acc.length ≤ j ∧
    ∀ b o, b ≠ it → b ≠ C → b ≠ D → s.heap.get? b = some o → h'.get? b = some o) ?_ (xs.length + 1) ⟨s.heap, s.toks, 0, [], m0, .none, .none, rfl, rfl, Nat.zero_le _, hit, hd, hD, hn, trivial, Nat.le_refl _, fun _ _ _ _ _ e => e⟩
  rintro k s' ⟨h1, tk, j, acc, m', ok, ov, rfl, rfl, hj, hit1, hd1, hD1, hn1, hkr, hacc, hkeep⟩
  by_cases hlt : j < xs.length
  · obtain ⟨x, hx⟩ : ∃ x, xs[j]? = some x := ⟨xs[j], List.getElem?_eq_getElem hlt⟩
    obtain ⟨⟨b, n, m, hkv, hb, hm⟩, hsz⟩ := hent j x hx
    have hxm := List.mem_of_getElem? hx
    obtain ⟨b1, b2, b3⟩ := hap b _ _ hb
    refine wpAny_pyNext_items_item (s := { s with heap := h1, toks := tk }) hit1 hd1 hkv fun key h2 hkey hout htup hsz2 hkeep2 => ?_
    obtain ⟨t, rfl⟩ := Value.isStrOf_shape hkey
    refine wpAny_letOwnedTupleGo_items hout fun h3 hit3 hs3 => ?_
    have hn3 : h3.Ns C m' := (hn1.at' fun o e => hkeep2 C o (fun q => n1 q.symm) e).at' fun o e => hs3.extBut C o (fun q => n1 q.symm) e
    have hfr : h1.objs.size ≠ it := fun q => by have := Heap.lt_size hit1; rw [q] at this; exact Nat.lt_irrefl _ this
    have htup3 : h3.IsTuple h1.objs.size #[.str (S x.1) t, .ref b] := ⟨_, hs3.extBut _ _ hfr htup, rfl, 0, rfl⟩
    have hp : (env.scope.kind == .class || (env.scope.kind == .module && env.locals != env.globals)) = false := by rw [hkk]; rfl
    refine kcp_assign (m := m') hh htup3 hk1 hk2 hp (by rw [hC]; exact hn3) fun h4 tk4 hn4 hkeep4 => ?_
    rw [hC] at hn4 hkeep4
    have up4 : ∀ c o, c ≠ it → c ≠ C → h1.get? c = some o → h4.get? c = some o := fun c o c1 c2 e => hkeep4 c o c2 (hs3.extBut c o c1 (hkeep2 c o c1 e))
    have hit4 : IsItemIter h4 it d (j + 1) kvs.length ep (.str (S x.1) t) (.ref b) := hkeep4 it _ n1 hit3
    refine wpAny_Name (wpAny_loadName_local hkk hk1 (by rw [hC]; exact hn4) (v := .str (S x.1) t) (by simp only; rw [if_neg (by decide +kernel), if_pos trivial]) ?_) (by decide +kernel)
    refine wpAny_Call_method_lateS (base_of (sx := sxP) (nm := nmS slLaw) (e := .cstr [] 0 ⟨127, 24, 127, 26⟩) rfl _ _ _) rfl rfl (wpAny_Constant_str ?_)
    refine ⟨"str", "str.join", PySem.F.plainAttrs_str, PySem.F.slot_str_join, PySem.F.type_str_join, typeIs_str _ _ _, (fun _ e => nomatch e), ?_⟩
    refine PySem.Calls.callWith_builtin rfl (evalArgs_plain (spliced_cons ?_))
    refine wpAny_Name (wpAny_loadName_local hkk hk2 (by rw [hC]; exact hn4) (v := .ref b) (by simp only; rw [if_pos trivial]) ?_) (by decide +kernel)
    refine spliced_nil ?_
    have hb4 : h4.get? b = some { cls := .type "list", data := .seq (strValues m).toArray n } := up4 b _ b1 b2 (hkeep b _ b1 b2 b3 hb)
    refine SC.join (isList_of hb4) hm (joinOk_of ?_) (fun t' tk' => ?_)
    · rw [List.map_map, List.length_map, S_length]
      have : (List.map ((fun x => x.length) ∘ S) x.2) = x.2.map List.length := List.map_congr_left fun a _ => S_length a
      rw [this]
      have e2 : (x.2.map List.length).sum = x.2.flatten.length := by rw [List.length_flatten]
      rw [e2]
      simp only [List.length_nil, Nat.mul_zero]
      omega
    · rw [join_S, joinF_nil]
      have hD4 : h4.DictOf (PySem.strKind prog w) D acc := hD1.at fun o e => up4 D o (fun q => n2 q.symm) (fun q => n3 q.symm) e
      have hnd : (acc.map (·.1)).Nodup := by obtain ⟨_, _, _, _, _, _, _, _, hn⟩ := hD4; exact hn
      refine wpAny_dictSet_pairs (strKind_is _ _ _ _) hD4 (fun h5 hd5 hs5 => ?_) (by rw [sizeLine_eq]; omega)
      have hfl : ((foldC (xs.take j) []).all fun e => flatV e.2) = true := foldC_flat _ _ rfl
      have hk5 : KRs [] h5 (foldC (xs.take (j + 1)) []) (stored acc (S x.1) (.str (S x.2.flatten) t')) := by
        rw [List.take_succ, hx]
        show KRs [] h5 (foldC (xs.take j ++ [x]) []) _
        rw [foldC_snoc]
        exact KRs.put vr_str (hkr.flatH hfl) hnd
      refine ⟨xs.length + 1 - (j + 1), by omega, h5, _, j + 1, _, _, _, _, rfl, rfl, hlt, hs5.extBut it _ n2 hit4, ?_, hd5, hn4.at' fun o e => hs5.extBut C o n3 e, hk5, ?_, fun c o c1 c2 c3 e => hs5.extBut c o c3 (up4 c o c1 c2 (hkeep c o c1 c2 c3 e))⟩
      · obtain ⟨o, es, ho, hr⟩ := hd1
        exact ⟨o, es, hs5.extBut d o n6 (up4 d o n4 n5 ho), hr⟩
      · have := stored_length_le acc (S x.1) (.str (S x.2.flatten) t')
        omega
  · have hje : j = xs.length := by omega
    refine wpAny_pyNext_items_end (s := { s with heap := h1, toks := tk }) hh hit1 hd1 (by rw [List.getElem?_eq_none_iff]; omega) fun h2 hx2 => ?_
    rw [hje, List.take_length] at hkr
    exact hR h2 _ m' acc (hn1.at' fun o e => hx2 C o (fun q => n1 q.symm) e) (hD1.at fun o e => hx2 D o (fun q => n2 q.symm) e) (hkr.flatH (foldC_flat _ _ rfl)) (by omega) fun b o c1 c2 c3 e => hx2 b o c1 (hkeep b o c1 c2 c3 e)
end Mine
end
section
open PySem PySem.Spec PySem.Calls PyProof.Rows PySem.W PySem.Builtin
set_option maxRecDepth 100000
set_option maxHeartbeats 1000000
namespace Mine
variable {prog : Program} {w : World} {H : Heap} {s : Shared} {F : FC} {σ : List Addr} {lo : Lo} {ah : AH}
theorem cons_ents (I : Inv prog w F σ lo ah s) : ∀ {cs : List (T × AV)} {xs : List (T × List T)} {kvs : List (Str × Value)}, consOf ah cs = some xs → KRs σ s.heap cs kvs → (∀ x ∈ xs, x.2.flatten.length ≤ 400000) → kvs.length = xs.length ∧ ∀ (j : Nat) x, xs[j]? = some x → Ent s.heap kvs j x
  | [], xs, [], h, _, _ => by cases h; exact ⟨rfl, fun _ _ e => by cases e⟩
  | (k, a) :: cs, xs, (y, v) :: kvs, h, ⟨e, r1, r2⟩, hsz => by
    cases a <;> first | (cases h; done) | skip
    rename_i i
    cases q : getO ah i with
    | none => simp only [consOf, q] at h; cases h
    | some ao =>
      cases ao with
      | dict _ _ => simp only [consOf, q] at h; cases h
      | list l =>
        simp only [consOf, q] at h
        cases q2 : strsOf l with
        | none => rw [q2] at h; cases h
        | some ts =>
          cases q3 : consOf ah cs with
          | none => rw [q2, q3] at h; cases h
          | some zs =>
            rw [q2, q3] at h
            cases h
            obtain ⟨h1, h2⟩ := cons_ents I q3 r2 fun x hx => hsz x (List.mem_cons_of_mem _ hx)
            refine ⟨by rw [List.length_cons, List.length_cons, h1], fun j x hj => ?_⟩
            cases j with
            | zero =>
              cases hj
              obtain ⟨b, vs, n, _, rfl, hb, rv⟩ := I.list q r1
              obtain ⟨m, rfl, hm⟩ := rv.texts q2
              exact ⟨⟨b, n, m, by rw [e]; rfl, hb, hm⟩, hsz _ (List.mem_cons_self ..)⟩
            | succ j =>
              obtain ⟨⟨b, n, m, g1, g2, g3⟩, g4⟩ := h2 j x (by simpa using hj)
              exact ⟨⟨b, n, m, by simpa using g1, g2, g3⟩, g4⟩
theorem cons_small {ah : AH} : ∀ {cs : List (T × AV)} {xs : List (T × List T)}, consOf ah cs = some xs → cs.length = xs.length ∧ xs.map (·.1) = cs.map (·.1)
  | [], xs, h => by cases h; exact ⟨rfl, rfl⟩
  | (k, a) :: cs, xs, h => by
    cases a <;> first | (cases h; done) | skip
    rename_i i
    cases q : getO ah i with
    | none => simp only [consOf, q] at h; cases h
    | some ao =>
      cases ao with
      | dict _ _ => simp only [consOf, q] at h; cases h
      | list l =>
        simp only [consOf, q] at h
        cases q2 : strsOf l with
        | none => rw [q2] at h; cases h
        | some ts =>
          cases q3 : consOf ah cs with
          | none => rw [q2, q3] at h; cases h
          | some zs =>
            rw [q2, q3] at h
            cases h
            obtain ⟨h1, h2⟩ := cons_small q3
            exact ⟨by rw [List.length_cons, List.length_cons, h1], by show k :: zs.map (·.1) = k :: cs.map (·.1); rw [h2]⟩
/-- a fold over fresh keys -/
theorem dget_none {α : Type} : ∀ {l : List (T × α)} {x : T}, x ∉ l.map (·.1) → dget l x = none
  | [], _, _ => rfl
  | (k, v) :: r, x, h => by
    rw [List.map_cons, List.mem_cons, not_or] at h
    show (if k = x then some v else dget r x) = none
    rw [if_neg (fun e => h.1 e.symm)]; exact dget_none h.2
theorem dput_fresh {α : Type} : ∀ (l : List (T × α)) (x : T) (y : α), x ∉ l.map (·.1) → dput l x y = l ++ [(x, y)]
  | [], _, _, _ => rfl
  | (k, v) :: r, x, y, h => by
    rw [List.map_cons, List.mem_cons, not_or] at h
    show (if k = x then (k, y) :: r else (k, v) :: dput r x y) = _
    rw [if_neg (fun e => h.1 e.symm), dput_fresh r x y h.2]; rfl
theorem foldC_fresh : ∀ (xs : List (T × List T)) (es : List (T × AV)), (xs.map (·.1)).Nodup → (∀ x ∈ xs, x.1 ∉ es.map (·.1)) → foldC xs es = es ++ xs.map fun c => (c.1, .str c.2.flatten)
  | [], es, _, _ => by show es = es ++ []; rw [List.append_nil]
  | x :: r, es, hn, hf => by
    rw [List.map_cons, List.nodup_cons] at hn
    show foldC r (dput es x.1 (.str x.2.flatten)) = _
    rw [dput_fresh es x.1 _ (hf x (List.mem_cons_self ..)), foldC_fresh r _ hn.2 fun y hy => ?_]
    · rw [List.append_assoc]; rfl
    · rw [List.map_append, List.mem_append, not_or]
      refine ⟨hf y (List.mem_cons_of_mem _ hy), ?_⟩
      show y.1 ∉ [x.1]
      rw [List.mem_singleton]
      exact fun e => hn.1 (e ▸ List.mem_map.mpr ⟨y, hy, rfl⟩)
theorem stored_nodup (kvs : List (Str × Value)) (k : Str) (v : Value) (hn : (kvs.map (·.1)).Nodup) : ((stored kvs k v).map (·.1)).Nodup := by
  rw [stored]
  split
  · rw [keys_map_store]; exact hn
  · rename_i hany
    rw [List.map_append, List.nodup_append]
    refine ⟨hn, by simp, ?_⟩
    intro a ha b hb
    simp only [List.map_cons, List.map_nil, List.mem_singleton] at hb
    subst hb
    rintro rfl
    obtain ⟨kv, h1, h2⟩ := List.mem_map.mp ha
    exact hany (List.any_eq_true.mpr ⟨kv, h1, by simpa using h2⟩)
theorem merged_KRs {σ : List Addr} {h : Heap} : ∀ {zs : List (T × AV)} {more : List (Str × Value)} {es : List (T × AV)} {kvs : List (Str × Value)}, KRs σ h zs more → KRs σ h es kvs → (kvs.map (·.1)).Nodup → KRs σ h (zs.foldl (fun o c => dput o c.1 c.2) es) (merged kvs more)
  | [], [], _, _, _, r, _ => r
  | (k, a) :: zs, (y, v) :: more, es, kvs, ⟨e, r1, r2⟩, r, hn => by
    show KRs σ h (zs.foldl _ (dput es k a)) (merged (stored kvs y v) more)
    subst e
    exact merged_KRs r2 (KRs.put r1 r hn) (stored_nodup kvs (S k) v hn)
  | [], _ :: _, _, _, r, _, _ => r.elim

theorem KRs.nodup {σ : List Addr} {h : Heap} {es : List (T × AV)} {kvs : List (Str × Value)} (r : KRs σ h es kvs) (hn : (kvs.map (·.1)).Nodup) : (es.map (·.1)).Nodup := by
  rw [r.keys] at hn
  have : (es.map fun e => S e.1) = (es.map (·.1)).map S := by rw [List.map_map]; rfl
  rw [this] at hn
  exact (List.pairwise_map.mp hn).imp fun h e => h (congrArg _ e)
theorem fold_put (xs : List (T × List T)) (es : List (T × AV)) : (xs.map fun c => (c.1, AV.str c.2.flatten)).foldl (fun o c => dput o c.1 c.2) es = foldC xs es := by
  unfold foldC; rw [List.foldl_map]
theorem core5 (B : Base prog w H) {fd : FuncData} (hfd : fd.scope = (fdU .parse).scope) {A : Around} {L a : Addr} {pr : Addr → Obj → Prop} {os : OsState} {lv : Nat} (OK : FOk H (callF A fd L a (slU .parse) pr os lv))
    (I : Inv prog w (callF A fd L a (slU .parse) pr os lv) σ lo ah s) {o c ep eq : Nat} {es cs : List (T × AV)} {xs : List (T × List T)} (hx : getL lo 11 = some (.ref o)) (hy : getL lo 12 = some (.ref c))
    (eo : getO ah o = some (.dict es ep)) (ec : getO ah c = some (.dict cs eq)) (hcs : consOf ah cs = some xs) (hl : es.length + cs.length ≤ 1000) (hsz : ∀ x ∈ xs, x.2.flatten.length ≤ 400000)
    {K : AV → Lo → AH → Prop} (h : ∀ ep', K .none lo (setO ah o (.dict (foldC xs es) ep'))) :
    wpAny (model prog w) (callF A fd L a (slU .parse) pr os lv).A (eval (sxP 5) (callF A fd L a (slU .parse) pr os lv).env) (fun z s' => 1 ≤ s'.toks → Post prog w (callF A fd L a (slU .parse) pr os lv) σ s.heap K z s') Nev s := by
  rw [sx5]
  have hh := OK.hand
  generalize hFF : callF A fd L a (slU .parse) pr os lv = F at *
  have hnm : F.nm = nmS (slU .parse) := by rw [← hFF]; exact nm_callF
  have henv : F.env = callEnvC fd L a := by rw [← hFF]; rfl
  rw [← hnm]
  refine wpAny_Call_method_lateS (base_of (sx := sxP) (nm := F.nm) (e := .loc 11 _) rfl _ _ _) rfl rfl (wpAny_Name (ld_loc OK I hx fun v rv => ?_) (by rw [hnm]; decide +kernel))
  obtain ⟨l, kvs, el, rfl, hd, rk⟩ := I.dictA eo rv
  refine ⟨"dict", "dict.update", PySem.F.plainAttrs_dict, PySem.F.slot_dict_update, PySem.F.type_dict_update, (dict_of hd).typeIs, fun a e => by cases e; obtain ⟨o, es, ho, hx, _⟩ := hd; exact ⟨o, ho, hx.2.1⟩, ?_⟩
  refine PySem.Calls.callWith_builtin rfl (evalArgs_plain (spliced_cons ?_))
  rw [arm_eval_DictComp]
  rw [if_neg Bool.false_ne_true]
  refine wpAny_comprehension rfl (by intro _; rfl) (by decide) rfl (by decide +kernel) ?_
  refine wpAny_Call_method_lateS (base_of (sx := sxP) (nm := F.nm) (e := .loc 12 _) rfl _ _ _) rfl rfl (wpAny_Name (ld_loc OK I hy fun v rv2 => ?_) (by rw [hnm]; decide +kernel))
  obtain ⟨d, cvs, ed, rfl, hdc, rkc⟩ := I.dictA ec rv2
  refine ⟨"dict", "dict.items", PySem.F.plainAttrs_dict, PySem.F.slot_dict_items, PySem.F.type_dict_items, (dict_of hdc).typeIs, fun a e => by cases e; obtain ⟨o, es, ho, hx, _⟩ := hdc; exact ⟨o, ho, hx.2.1⟩, ?_⟩
  refine callWith_method0 ?_
  refine call_meetsIn PySem.F.slot_dict_items (dict_of hdc).typeIs PySem.F.entry_dict_items (PySem.F.args_dict_items_1 _) (meets_dict_items (strKind prog w) d (I.notSys OK B ed)) ⟨⟨_, dict_of hdc⟩, ?_⟩
  have hcl := rkc.length
  have hkl := rk.length
  obtain ⟨hxl, hent⟩ := cons_ents I hcs rkc hsz
  obtain ⟨hsm1, hsm2⟩ := cons_small hcs
  have hndc : (cvs.map (·.1)).Nodup := by obtain ⟨_, _, _, _, _, _, _, hn⟩ := hdc; exact hn
  have hndk : (kvs.map (·.1)).Nodup := by obtain ⟨_, _, _, _, _, _, _, hn⟩ := hd; exact hn
  have hndx : (xs.map (·.1)).Nodup := by rw [hsm2]; exact rkc.nodup hndc
  have kp1 : ∀ b o, s.heap.get? b = some o → (s.heap.push { cls := .type "dict_items", data := .fields #[.ref d] }).get? b = some o := fun b o e => Heap.get?_push_of_some _ e
  have hdc1 : (s.heap.push { cls := .type "dict_items", data := .fields #[.ref d] }).DictAt (strKind prog w) d cvs eq := by
    obtain ⟨o, es, ho, hx⟩ := hdc; exact ⟨o, es, kp1 _ _ ho, hx⟩
  refine wpAny_pyIter_items (s := { s with heap := s.heap.push { cls := .type "dict_items", data := .fields #[.ref d] } }) ⟨_, Heap.get?_push_size _ rfl, rfl, rfl⟩ hdc1 ?_
  dsimp only
  generalize hh1 : s.heap.push { cls := .type "dict_items", data := .fields #[.ref d] } = h1 at kp1 hdc1 ⊢
  refine wpAny_newObj_type (wpAny_newFunctionEnv (by decide +kernel) (by intro y hy; simp at hy) (fun h4 hns4 hsb4 => ?_) rfl)
  dsimp only at hns4 hsb4 ⊢
  generalize hh2 : h1.push { cls := .type "dict_itemiterator", data := .fields #[.none, .bool false, .ref d, .int 0 0, .int cvs.length 0, .int eq 0, .none, .none] } = h2 at hns4 hsb4 ⊢
  have e2 : h2.objs.size = h1.objs.size + 1 := by rw [← hh2]; simp [Heap.push]
  have kp2 : ∀ b o, h1.get? b = some o → h2.get? b = some o := fun b o e => by rw [← hh2]; exact Heap.get?_push_of_some _ e
  have hit2 := Heap.get?_push_size h1 (o := { cls := .type "dict_itemiterator", data := .fields #[.none, .bool false, .ref d, .int 0 0, .int cvs.length 0, .int eq 0, .none, .none] }) rfl
  rw [hh2] at hit2
  have hnewD : (h2.push { cls := .type "dict", dict := none, data := .dict #[] }).DictOf (strKind prog w) h2.objs.size [] := Heap.DictOf.new h2
  have kp3 : ∀ b o, h2.get? b = some o → (h2.push { cls := .type "dict", dict := none, data := .dict #[] }).get? b = some o := fun b o e => Heap.get?_push_of_some _ e
  have e3 : (h2.push { cls := .type "dict", dict := none, data := .dict #[] }).objs.size = h2.objs.size + 1 := by simp [Heap.push]
  generalize hh3 : h2.push { cls := .type "dict", dict := none, data := .dict #[] } = h3 at hns4 hsb4 hnewD kp3 e3 ⊢
  have kp4 : ∀ b o, h3.get? b = some o → h4.get? b = some o := fun b o e => hsb4.extBut b o (Nat.ne_of_lt (Heap.lt_size e)) (Heap.get?_push_of_some _ e)
  have hold : ∀ b o, s.heap.get? b = some o → h4.get? b = some o := fun b o e => kp4 b o (kp3 b o (kp2 b o (kp1 b o e)))
  have hlt1 : ∀ b o, s.heap.get? b = some o → b < h1.objs.size := fun b o e => Heap.lt_size (kp1 b o e)
  have hit4 : IsItemIter h4 h1.objs.size d 0 cvs.length eq .none .none := kp4 _ _ (kp3 _ _ hit2)
  have hD4 : h4.DictOf (strKind prog w) h2.objs.size [] := hnewD.at fun o e => kp4 _ _ e
  have hd4 : h4.DictAt (strKind prog w) d cvs eq := by
    obtain ⟨o, es, ho, hx⟩ := hdc1; exact ⟨o, es, kp4 _ _ (kp3 _ _ (kp2 _ _ ho)), hx⟩
  have l12 : h1.objs.size < h2.objs.size := by rw [e2]; exact Nat.lt_succ_self _
  have l23 : h2.objs.size < h3.objs.size := by rw [e3]; exact Nat.lt_succ_self _
  have nb : ∀ b : Nat, b < h1.objs.size → b ≠ h1.objs.size ∧ b ≠ h3.objs.size ∧ b ≠ h2.objs.size := fun b hb => ⟨Nat.ne_of_lt hb, Nat.ne_of_lt (Nat.lt_trans hb (Nat.lt_trans l12 l23)), Nat.ne_of_lt (Nat.lt_trans hb l12)⟩
  have hdl : d < h1.objs.size := by obtain ⟨o, _, ho, _⟩ := hdc1; exact Heap.lt_size ho
  have hsys : (h2.objs.size == sysModules) = false := by
    obtain ⟨o, ho⟩ := B.sysm
    have := hlt1 _ _ (I.pr _ o (OK.base sysModules o ho (by decide) (by decide))).1
    rw [beq_eq_false_iff_ne]; exact fun q => (nb _ this).2.2 q.symm
  have hll : l < h1.objs.size := by obtain ⟨o, _, ho, _⟩ := hd; exact hlt1 _ _ ho
  have fin : ∀ h' tk m' acc, h'.Ns h3.objs.size m' → h'.DictOf (strKind prog w) h2.objs.size acc → KRs [] h' (foldC xs []) acc → acc.length ≤ xs.length → (∀ b o, b ≠ h1.objs.size → b ≠ h3.objs.size → b ≠ h2.objs.size → h4.get? b = some o → h'.get? b = some o) →
      ∀ h'', Heap.SameBut h3.objs.size h' h'' → wpAny (model prog w) F.A (call (.builtin "dict.update") [.ref l, .ref h2.objs.size]) (fun z s' => 1 ≤ s'.toks → Post prog w F σ s.heap K z s') Nev { s with heap := h'', toks := tk } := by
    intro h' tk m' acc hns hDa hka hal hkeep h'' hs''
    have k5 : ∀ b o, s.heap.get? b = some o → h''.get? b = some o := fun b o e => by
      obtain ⟨n1, n2, n3⟩ := nb b (hlt1 _ _ e)
      exact hs''.extBut b o n2 (hkeep b o n1 n2 n3 (hold b o e))
    have hDa5 : h''.DictOf (strKind prog w) h2.objs.size acc := hDa.at fun o e => hs''.extBut _ o (Nat.ne_of_lt l23) e
    have hd5 : h''.DictOf (strKind prog w) l kvs := (dict_of hd).at fun o e => k5 _ _ e
    refine call_meetsIn PySem.F.slot_dict_update hd5.typeIs PySem.F.entry_dict_update (PySem.F.args_dict_update_2 _ _) (meets_dict_update (strKind prog w) l h2.objs.size (nb l hll).2.2 hsys)
      ⟨kvs, acc, hd5, hDa5, by rw [sizeLine_eq]; omega, fun h6 hm6 _ hs6 => ?_⟩
    intro ht
    have I5 := I.keep (h' := h'') (tk := tk) k5 ht
    obtain ⟨ep', hm6⟩ := dict_at hm6
    have f6 := I5.frz (mem_obj el) hs6.extBut
    have rf := List.prefix_refl σ
    have hkz : KRs σ h6 (foldC xs []) acc := hka.flatH (foldC_flat _ _ rfl)
    have hmg := merged_KRs hkz ((rk.mono rf (.of_keep k5)).mono rf f6) hndk
    rw [foldC_fresh xs [] hndx (fun _ _ h => by cases h), List.nil_append, fold_put] at hmg
    exact ⟨σ, lo, _, .none, I5.setObj (tk := tk) el hs6.extBut (ao := .dict (foldC xs es) ep') ⟨_, hm6, hmg⟩ ht, rf, (Frz.of_keep k5).trans f6, by simp only [VR], h ep'⟩
  have loop : ∀ R : Result → Shared → Prop, (∀ h' tk m' acc, h'.Ns h3.objs.size m' → h'.DictOf (strKind prog w) h2.objs.size acc → KRs [] h' (foldC xs []) acc → acc.length ≤ xs.length → (∀ b o, b ≠ h1.objs.size → b ≠ h3.objs.size → b ≠ h2.objs.size → h4.get? b = some o → h'.get? b = some o) → R (.ok .next) { s with heap := h', toks := tk }) → ∀ env : Env, env.kindOf "pk" = some .local → env.kindOf "pv" = some .local → env.scope.kind = .function → env.locals = h3.objs.size →
      codeAny (model prog w) F.A (.compLoop (.DictComp kxE vxE [⟨tgE, .Call (.Attribute (.Name (F.nm 12) ⟨127, 50, 127, 63⟩) "items" ⟨127, 50, 127, 69⟩) [] [] ⟨127, 50, 127, 71⟩, [], 0⟩] scPk ⟨127, 19, 127, 72⟩) 0 (.ref h1.objs.size) (.ref h2.objs.size) env)
      R { s with heap := h4, toks := s.toks } := by
    intro R hR env k1 k2 k3 k4
    refine loop5 (s := { s with heap := h4, toks := s.toks }) (ep := eq) (kvs := cvs) (C := h3.objs.size) (d := d) hh hxl (by omega) (fun j x hj => ?_) k1 k2 k3 k4 ⟨Nat.ne_of_lt (Nat.lt_trans l12 l23), Nat.ne_of_lt l12, Nat.ne_of_gt l23, (nb d hdl).1, (nb d hdl).2.1, (nb d hdl).2.2⟩ ?_ hit4 hd4 hD4 hns4 hR
    · obtain ⟨⟨b, n, m, g1, g2, g3⟩, g4⟩ := hent j x hj
      exact ⟨⟨b, n, m, g1, hold _ _ g2, g3⟩, g4⟩
    · intro b ws n hb
      refine ⟨fun q => ?_, fun q => ?_, fun q => ?_⟩
      · rw [q, hit4] at hb; have hb := congrArg Obj.data (Option.some.inj hb); cases hb
      · obtain ⟨o, es, ep, ho, hx, _⟩ := hns4
        rw [q, ho] at hb; cases hb; cases hx
      · obtain ⟨o, es, ep, ho, _, hx, _⟩ := hD4
        rw [q, ho] at hb; cases hb; cases hx
  refine codeAny_compStart_dict (loop _ ?_ _ rfl rfl rfl rfl) (kcp_self hit4 (loop _ ?_ _ rfl rfl rfl rfl))
  · intro h' tk m' acc a1 a2 a3 a4 a5
    exact ⟨m', a1, fun h'' hs'' => spliced_nil (fin h' tk m' acc a1 a2 a3 a4 a5 h'' hs'')⟩
  · intro h' tk m' acc a1 a2 a3 a4 a5
    exact ⟨m', a1, fun h'' hs'' => spliced_nil (fin h' tk m' acc a1 a2 a3 a4 a5 h'' hs'')⟩
theorem sp5_ok (B : Base prog w H) {fd : FuncData} (hfd : fd.scope = (fdU .parse).scope) {A : Around} {L a : Addr} {pr : Addr → Obj → Prop} {os : OsState} {lv : Nat} (OK : FOk H (callF A fd L a (slU .parse) pr os lv)) : SpOk prog w sxP (callF A fd L a (slU .parse) pr os lv) 5 := by
  refine spOk_call sx5 fun lo ah k h => ?_
  simp only [aSp] at h
  split at h
  · rename_i o c hx hy
    obtain ⟨es, ep, cs, eq, xs, eo, ec, hcs, hl, hsz, hk⟩ := h
    refine W.intro fun σ s I => ?_
    exact core5 B hfd OK I hx hy eo ec hcs hl hsz fun ep' => ⟨rfl, hk ep'⟩
  · exact h.elim
end Mine
end
section
open PySem PySem.Spec PySem.Calls PyProof.Rows PySem.W PySem.Builtin
set_option maxRecDepth 100000
set_option maxHeartbeats 1000000
namespace Mine
variable {prog : Program} {w : World} {H : Heap} {s : Shared} {F : FC} {σ : List Addr} {lo : Lo} {ah : AH}
/-- what the top has left for the two nested pieces of code -/
structure GxB (H : Heap) : Prop where
  c48 : ∃ c, (fdU .qhv).code = .ref c ∧ CodeHd H c 48
  c60 : ∃ c, (fdU .uqhv).code = .ref c ∧ CodeHd H c 60
  bm : ∃ mg bm ob, BMod H mainGlobals mg bm ob
theorem Inv.tabGen (I : Inv prog w F σ lo ah s) {P : Addr} {s' : Shared} (hP : P = 48 ∨ P = 60) (hs : Heap.ExtBut P s.heap s'.heap) (hn : ∃ o, s'.heap.get? P = some o ∧ frozen o = false) (htb : Tabs s'.heap) (hg : AllBare s'.gens) (hos : s'.os = s.os) (ht : 1 ≤ s'.toks) :
    Inv prog w F σ lo ah s' :=
  let J := I.setTab (tk := s'.toks) hP hs hn htb ht
  { loc := J.loc, llen := J.llen, len := J.len, nd := J.nd, there := J.there, ob := J.ob, pr := J.pr, tabs := J.tabs, gens := hg, os := hos.trans J.os, tk := ht, cl := J.cl }
theorem codeHd_at {h h' : Heap} {c P : Addr} (x : CodeHd h c P) (k : ∀ o, h.get? c = some o → o.cls = .type "code" → h'.get? c = some o) : CodeHd h' c P :=
  let ⟨o, vs, file, tf, flags, tg, inF, text, tt, e, e2, r⟩ := x; ⟨o, vs, file, tf, flags, tg, inF, text, tt, k _ e e2, e2, r⟩
theorem Inv.code (I : Inv prog w F σ lo ah s) (OK : FOk H F) (B : Base prog w H) {c P : Addr} (C : CodeHd H c P) : CodeHd s.heap c P :=
  codeHd_at C fun o e e2 => I.old OK e (fun q => by rw [q, B.t48] at e; cases e; cases e2) (fun q => by rw [q, B.t60] at e; cases e; cases e2)
theorem Inv.bmod (I : Inv prog w F σ lo ah s) (OK : FOk H F) (B : Base prog w H) {mg : Str → Option Value} {bm : Addr} {ob : Obj} (M : BMod H mainGlobals mg bm ob) : BMod s.heap mainGlobals mg bm ob :=
  ⟨I.oldNs OK M.ns (by decide) (by decide), M.name, M.ne, I.old OK M.obj (fun q => by have e := M.obj; rw [q, B.t48] at e; cases e; exact absurd M.cls (by simp [tabObj])) (fun q => by have e := M.obj; rw [q, B.t60] at e; cases e; exact absurd M.cls (by simp [tabObj])), M.cls, M.dict, M.data⟩
theorem Inv.nolim (I : Inv prog w F σ lo ah s) (OK : FOk H F) (B : Base prog w H) : s.heap.NoLimit := by
  obtain ⟨mc, h1, h2⟩ := B.nolim
  exact ⟨mc, I.oldNs OK h1 (by decide) (by decide), h2⟩
theorem tab_in {line col : Nat} {ps : Array Value} {c' : Addr} {pos : Pos} (hpl : pos.line = line) (hpc : pos.col = col) (e : ps = #[rawInt line, rawInt col, .ref c']) : codeAmong pos ps.toList = some (.ref c') := by
  subst e hpl hpc
  simp [codeAmong, rawInt]
theorem gen_code (B : Base prog w H) (OK : FOk H F) (I : Inv prog w F σ lo ah s) {ob : Obj} {c : Addr} {pos : Pos} {scope : Scope} {qn : Str} {Q : Value → Shared → Prop} {E : Value → Shared → Prop} (hc : F.env.code = .ref c) (C : CodeHd H c 48) (hpl : pos.line = 32) (hpc : pos.col = 15) (hq : qn = qGen)
    (hQ : ∀ code h' tk, Heap.ExtBut 48 (s.heap.push ob) h' → (s.heap.push ob).objs.size ≤ h'.objs.size → (∀ h'', (∀ b o, b ≠ s.heap.objs.size → h'.get? b = some o → h''.get? b = some o) → Tabs h'') → (∃ o, h'.get? 48 = some o ∧ frozen o = false) → Q code { s with heap := h', toks := tk }) :
    wpAny (model prog w) F.A (genexprCode F.env pos qn scope) Q E { s with heap := s.heap.push ob } := by
  subst hq
  have kp : ∀ b o', s.heap.get? b = some o' → (s.heap.push ob).get? b = some o' := fun b o' e => Heap.get?_push_of_some _ e
  have ne : ∀ b o', s.heap.get? b = some o' → b ≠ s.heap.objs.size := fun b o' e => Nat.ne_of_lt (Heap.lt_size e)
  have n48 : (48 : Addr) ≠ s.heap.objs.size := by obtain ⟨o, e, _⟩ := I.there 48 mem_48; exact ne _ _ e
  have I1 := I.keep (h' := s.heap.push ob) (tk := s.toks) kp I.tk
  have C1 := I1.code OK B C
  have T60 : ∀ h' : Heap, Heap.ExtBut 48 (s.heap.push ob) h' → ∀ h'', (∀ b o, b ≠ s.heap.objs.size → h'.get? b = some o → h''.get? b = some o) → TabAt h'' 60 39 31 qLam := by
    intro h' hx h'' hk
    rcases I.tabs.2 with hP | ⟨c', oc, vs, t, hP, h2, h3, h4, h5⟩
    · exact .inl (hk _ _ (ne _ _ hP) (hx _ _ (by decide) (kp _ _ hP)))
    · refine .inr ⟨c', oc, vs, t, hk _ _ (ne _ _ hP) (hx _ _ (by decide) (kp _ _ hP)), hk _ _ (ne _ _ h2) (hx _ _ (fun q => ?_) (kp _ _ h2)), h3, h4, h5⟩
      rw [q] at h2
      rcases I.tabs.1 with hP | ⟨_, _, _, _, hP, _⟩ <;> (rw [hP] at h2; cases h2; cases h3)
  rcases I.tabs.1 with hP | ⟨c', oc, vs, t, hP, h2, h3, h4, h5⟩
  · refine wpAny_genexprCodeX hc (C1.code (kp _ _ hP) trivial) (C1.tab (kp _ _ hP)) rfl fun c' h' tk hx hge hlt _ hrec htb hT => ?_
    obtain ⟨P', _, _, ⟨oc, vs, g1, g2, g3, _⟩, _⟩ := hT
    obtain ⟨c2, o2, vs2, t2, q1, q2, q3, q4⟩ := hrec
    cases q1
    rw [g1] at q2; cases q2
    have hP' := htb.2
    rw [hpl, hpc] at hP'
    refine hQ _ h' tk hx (Nat.le_of_lt (Nat.lt_of_le_of_lt hge hlt)) (fun h'' hk => ⟨.inr ⟨c', oc, vs2, t2, hk _ _ n48 hP', hk _ _ (fun q => ?_) g1, g2, q3, q4⟩, T60 h' hx h'' hk⟩) ⟨_, htb.2, rfl⟩
    have hge : (s.heap.push ob).objs.size ≤ c' := hge
    rw [q, Heap.size_push] at hge
    exact Nat.not_succ_le_self _ hge
  · unfold genexprCode codeAt
    rw [hc, if_neg (show ¬ ((Value.ref c == Value.none) = true) from Bool.false_ne_true)]
    obtain ⟨o, vs', file, tf, flags, tg, inF, text, tt, e1, _, e3, _, f3, _⟩ := C1
    refine wpAny_bind (wpAny_fieldsOf e1 e3 ?_)
    rw [f3]
    refine wpAny_bind (wpAny_fieldsOf (kp _ _ hP) rfl ?_)
    rw [tab_in hpl hpc rfl]
    exact wpAny_pure (hQ _ (s.heap.push ob) s.toks (Heap.ExtBut.refl _ _) (Nat.le_refl _) (fun h'' hk => ⟨.inr ⟨c', oc, vs, t, hk _ _ (ne _ _ hP) (kp _ _ hP), hk _ _ (ne _ _ h2) (kp _ _ h2), h3, h4, h5⟩, T60 _ (Heap.ExtBut.refl _ _) h'' hk⟩) ⟨_, kp _ _ hP, rfl⟩)
def scGen : Scope := { kind := .function, names := [(".0", .local), ("char", .local), ("token_chars", .free)], isGenerator := true, isCoroutine := false }
def elG : PySem.Expr := .Compare (.Name "char" ⟨32, 16, 32, 20⟩) [.In] [.Name "token_chars" ⟨32, 24, 32, 35⟩] ⟨32, 16, 32, 35⟩
theorem sx1 : sxP 1 = .Call (.Name BF.all.s ⟨32, 11, 32, 14⟩) [.GeneratorExp elG [⟨.Name "char" ⟨32, 40, 32, 44⟩, .Name (nmS (slU .qhv) 2) ⟨32, 48, 32, 57⟩, [], 0⟩] scGen ⟨32, 15, 32, 58⟩] [] ⟨32, 11, 32, 59⟩ := by kernel_rfl
theorem pass_all (n : Nat) : passing (fun _ => true) n 0 = List.range n := by
  simp [passing]
theorem range_all (l t : T) : (List.range l.length).all (fun j => decide (l.getD j 0 ∈ t)) = l.all fun c => decide (c ∈ t) := by
  have := congrArg (fun m : List Nat => m.all fun c => decide (c ∈ t)) (range_getD l 0)
  simp only [List.all_map] at this
  exact this
theorem core1 (B : Base prog w H) (G : GxB H) {A : Around} {L a : Addr} {pr : Addr → Obj → Prop} {os : OsState} {lv : Nat} (OK : FOk H (callF A (fdU .qhv) L a (slU .qhv) pr os lv))
    (I : Inv prog w (callF A (fdU .qhv) L a (slU .qhv) pr os lv) σ lo ah s) {l t : T} (hx : getL lo 2 = some (.str l)) (hy : getL lo 3 = some (.str t)) (hl : l.length ≤ 100000)
    {K : AV → Lo → AH → Prop} (h : K (.bool (l.all fun c => decide (c ∈ t))) lo ah) :
    wpAny (model prog w) (callF A (fdU .qhv) L a (slU .qhv) pr os lv).A (eval (sxP 1) (callF A (fdU .qhv) L a (slU .qhv) pr os lv).env) (fun z s' => 1 ≤ s'.toks → Post prog w (callF A (fdU .qhv) L a (slU .qhv) pr os lv) σ s.heap K z s') Nev s := by
  rw [sx1]
  have hh := OK.hand
  have hdep := OK.depth
  have hslot : (callF A (fdU .qhv) L a (slU .qhv) pr os lv).slots[3]? = some (nmS (slU .qhv) 3, some (L + 1)) := rfl
  obtain ⟨c, hcode, hC⟩ := G.c48
  obtain ⟨mg, bm, ob, hM⟩ := G.bm
  have hcode' : (callF A (fdU .qhv) L a (slU .qhv) pr os lv).env.code = .ref c := hcode
  have hqual : (callF A (fdU .qhv) L a (slU .qhv) pr os lv).env.qual ++ "<genexpr>" = qGen := by kernel_rfl
  have hcl : closureFor scGen (callF A (fdU .qhv) L a (slU .qhv) pr os lv).env = (pure [("token_chars", L + 1)] : Sem (List (Str × Addr))) := by kernel_rfl
  have hkall : (callF A (fdU .qhv) L a (slU .qhv) pr os lv).env.kindOf BF.all.s = some .globalImplicit := by kernel_rfl
  generalize hFF : callF A (fdU .qhv) L a (slU .qhv) pr os lv = F at *
  have hnm : F.nm = nmS (slU .qhv) := by rw [← hFF]; exact nm_callF
  obtain ⟨m0, hns0, hloc⟩ := I.loc
  obtain ⟨tv, hcell, htv⟩ := hloc 3 _ _ _ hslot hy
  obtain ⟨tt, rfl⟩ := vr_str_inv htv
  refine Call_ (ld_bfn OK B I (f := .all) hkall ?_)
  refine PySem.callWith_builtin1 ?_
  rw [← hnm]
  refine wpAny_GeneratorExp_walksQ hh rfl hcl (by decide +kernel) (by decide +kernel) (by decide +kernel) rfl (by have : recursionLimit = 1000 := rfl; omega) ?_ (by intro _; rfl)
  refine wpAny_Name (ld_loc OK I hx fun v rv => ?_) (by rw [hnm]; decide +kernel)
  obtain ⟨tx, rfl⟩ := vr_str_inv rv
  refine wpAny_pyIter_str fun o St hW hst => ?_
  have hnew := size_none s.heap
  have kp : ∀ b o', s.heap.get? b = some o' → (s.heap.push o).get? b = some o' := fun b o' e => Heap.get?_push_of_some _ e
  have I1 := I.keep (h' := s.heap.push o) (tk := s.toks) kp I.tk
  refine ⟨I1.nolim OK B, ?_⟩
  refine gen_code B OK I hcode' hC rfl rfl hqual fun code h3 tk3 hx3 hsz3 htb3 ho3 => ?_
  have hsz3 : s.heap.objs.size < h3.objs.size := by
    have : (s.heap.push o).objs.size ≤ h3.objs.size := hsz3
    rw [Heap.size_push] at this; exact this
  have n48 : s.heap.objs.size ≠ 48 := by obtain ⟨o, e, _⟩ := I.there 48 mem_48; exact Nat.ne_of_gt (Heap.lt_size e)
  have k3 : ∀ b o', b ≠ 48 → s.heap.get? b = some o' → h3.get? b = some o' := fun b o' hb e => hx3 b o' hb (kp b o' e)
  have hM1 := I1.bmod OK B hM
  have hM3 : BMod h3 mainGlobals mg bm ob := ⟨let ⟨o, es, ep, e, r⟩ := hM1.ns; ⟨o, es, ep, hx3 _ _ (by decide) e, r⟩, hM1.name, hM1.ne, hx3 _ _ (fun q => by
    have e := hM1.obj; have h2 := hM1.data
    rcases I1.tabs.1 with hP | ⟨c', oc, vs, t, hP, _⟩ <;> (rw [q, hP] at e; cases e; cases h2)) hM1.obj, hM1.cls, hM1.dict, hM1.data⟩
  refine wpAny_builtinsFor (OK.glo ▸ hM3.ns) hM3.name hM3.ne hM3.obj hM3.cls hM3.dict hM3.data ?_
  have hlim3 : h3.NoLimit := by
    obtain ⟨mc, ⟨oo, es, ep, e, r⟩, h2⟩ := I1.nolim OK B
    exact ⟨mc, ⟨oo, es, ep, hx3 _ _ (by decide) e, r⟩, h2⟩
  have hcs : cStatics ≠ s.heap.objs.size := by
    obtain ⟨mc, ⟨oo, es, ep, e, r⟩, h2⟩ := I.nolim OK B
    exact Nat.ne_of_lt (Heap.lt_size e)
  have hszl : (S l).cps.size = l.length := by simp [S]
  have hcl1 : L + 1 ≠ 48 := fun q => by
    have := (I.parts).1.2.2.2.1
    exact this (q ▸ mem_cell hslot)
  have hcw : L + 1 ≠ s.heap.objs.size := by obtain ⟨oc, e, _⟩ := hcell; exact Nat.ne_of_lt (Heap.lt_size e)
  refine ⟨s.heap.objs.size, [s.heap.objs.size], [s.heap.objs.size], _, _, St, fun _ => true, fun i y => y = .bool (decide (l.getD i 0 ∈ t)), rfl, hW, (hW F.A hh).frame 0 _ _ hst (fun b hb o e => hx3 b o (by rw [List.mem_singleton] at hb; rw [hb]; exact n48) e), ?_, hlim3, by rw [List.mem_singleton]; exact hcs, ?_, ?_⟩
  · intro b hb
    rw [List.mem_singleton] at hb
    rw [hb]; exact hsz3
  · intro href hkeep
    refine ⟨fun A' E' i v s₂ m₂ _ hP hn hm hk => ?_, fun A' E' i v s₂ m₂ hA hP _ hn hm hk => ?_⟩
    · rw [List.forIn_nil]
      exact wpAny_pure ⟨rfl, Keeps.refl _⟩
    · obtain ⟨ch, u, hc, rfl⟩ := hP
      refine wpAny_Compare1 (wpAny_Name (wpAny_loadName_local rfl (by kernel_rfl) hn hm ?_) (by decide +kernel)) rfl
      have hcell2 : s₂.heap.IsCell (L + 1) (some (.str (S t) tt)) := by
        obtain ⟨oc, e, r⟩ := hcell
        have e3 := k3 _ _ hcl1 e
        exact ⟨oc, hk (L + 1) (List.mem_range.mpr (Heap.lt_size e3)) (by rw [List.mem_singleton]; exact hcw) _ (hkeep _ _ e3), r⟩
      refine wpAny_Name (wpAny_loadName_free (c := L + 1) rfl (by kernel_rfl) (by kernel_rfl) hcell2 ?_ (by decide +kernel)) (by decide +kernel)
      refine PyProof.Rows.in_str ?_
      rw [StrLaws.found_one, S_cps]
      refine ⟨?_, Keeps.refl _⟩
      have : l.getD i 0 = ch := by
        have hc : l[i]? = some ch := by simpa [S] using hc
        rw [List.getD_eq_getElem?_getD, hc]; rfl
      rw [this]
  · intro a5 h5 tk gs hgb hlt hsz5 hk5 W hat
    rw [hszl, pass_all] at W
    rw [List.length_range] at W
    have W1 := W.in4_1
    rw [hszl] at hat
    refine call_all_walkS (W1.self 0 _ _ _ hat ⟨a5, _, _, _, _, _, _, (fun j => decide (l.getD j 0 ∈ t)), rfl, W1, hat, ?_, fun s' hm => ?_⟩)
    · intro j v s2 Q2 E2 hP hQ2
      obtain ⟨i, hi, rfl⟩ := hP
      have : i = j := by
        have hj := (List.getElem?_eq_some_iff.mp hi).1
        rw [List.length_range] at hj
        rw [List.getElem?_range hj] at hi
        cases hi; rfl
      subst this
      exact wpAny_truthy_bool hQ2
    · intro ht
      have hgens : AllBare s'.gens := hm.gens.bare (I.gens.push hgb)
      have kk : ∀ b o', b ≠ s.heap.objs.size → h3.get? b = some o' → s'.heap.get? b = some o' := fun b o' hb e => hm.heap b o' (by
        simp only [List.mem_cons, List.not_mem_nil, or_false, not_or]
        exact ⟨Nat.ne_of_lt (Heap.lt_size e), hb⟩) (hk5 b o' e)
      have hx : Heap.ExtBut 48 s.heap s'.heap := fun b o' hb e => kk b o' (Nat.ne_of_lt (Heap.lt_size e)) (k3 b o' hb e)
      obtain ⟨o48, e48, f48⟩ := ho3
      have IF := I.tabGen (.inl rfl) hx ⟨o48, kk _ _ n48.symm e48, f48⟩ (htb3 _ kk) hgens hm.os ht
      refine ⟨σ, lo, ah, .bool (l.all fun c => decide (c ∈ t)), IF, List.prefix_refl _, I.frz mem_48 hx, ?_, h⟩
      rw [range_all]
      exact vr_bool
theorem sp1_ok (B : Base prog w H) (G : GxB H) {A : Around} {L a : Addr} {pr : Addr → Obj → Prop} {os : OsState} {lv : Nat} (OK : FOk H (callF A (fdU .qhv) L a (slU .qhv) pr os lv)) : SpOk prog w sxP (callF A (fdU .qhv) L a (slU .qhv) pr os lv) 1 := by
  refine spOk_call sx1 fun lo ah k h => ?_
  simp only [aSp] at h
  split at h
  · rename_i l t hx hy
    refine W.intro fun σ s I => ?_
    exact core1 B G OK I hx hy h.1 ⟨rfl, h.2⟩
  · exact h.elim
end Mine
end
section
open PySem PySem.Spec PySem.Calls PyProof.Rows PySem.W PySem.Builtin PySem.Builtin.Re
set_option maxRecDepth 100000
set_option maxHeartbeats 4000000
namespace Mine
variable {prog : Program} {w : World} {H : Heap} {s : Shared} {F : FC} {σ : List Addr} {lo : Lo} {ah : AH}
theorem whole {A : Around} {E : Value → Shared → Prop} {a : Addr} {code : Array Nat} {groups : Nat} {l : List Nat} {t : Tok} {Q : ReTarget → Shared → Prop} (hp : PatAt s.heap a code groups)
    (h : Q { pattern := .ref a, string := .str (S l) t, code, text := (S l).cps, kind := 0, groups, pos := 0, lim := (S l).cps.size } s) :
    wpAny (model prog w) A (reWholeTarget (.ref a) (.str (S l) t)) Q E s := by
  obtain ⟨ps, t0, fl, ca, n, e1, e2⟩ := hp
  unfold reWholeTarget
  dsimp only
  wp_walk using wpAny_load e1, AutoSeq1.wpAny_loadPart' e1, wpAny_load e2, AutoSeq1.wpAny_loadPart' e2
  have e := code_back code
  exact (congrArg (fun z => Q { pattern := .ref a, string := .str (S l) t, code := z, text := (S l).cps, kind := 0, groups, pos := 0, lim := (S l).cps.size } s) e).mpr h
theorem entry_sub : entryFor table "re.Pattern.sub" = some Builtin.«re.Pattern.sub» := entryFor_of_tree (by kernel_rfl)
theorem entry_subloop : entryFor table "re.Pattern.sub.loop" = some Builtin.«re.Pattern.sub.loop» := entryFor_of_tree (by kernel_rfl)
theorem slot_sub : Slot "re.Pattern" "sub" "re.Pattern.sub" :=
  .of (owner := "re.Pattern") (n := "sub") (by rw [typeLookup_type, builtinLookup_eq_fast]; kernel_rfl) (by decide +kernel) (by decide +kernel) (by decide +kernel)
    (by first | exact .inl (by decide +kernel) | exact .inr (by decide +kernel)) (by rw [isSubtype_type]; kernel_rfl)
theorem args_sub3 (a b c : Value) : argsOk "re.Pattern.sub" ⟨[a, b, c], []⟩ := by unfold argsOk; kernel_rfl
theorem type_sub : typeOf (.builtin "re.Pattern.sub") = pure (.type "method_descriptor") := by show builtinType _ = _; rw [builtinType_eq_fast]; kernel_rfl
theorem plain_subloop : plainId "re.Pattern.sub.loop" = true := by decide +kernel
theorem fn_call : typeLookup (.type "function") "__call__" = pure (some (.builtin "function.__call__")) := by rw [typeLookup_type, builtinLookup_eq_fast]; kernel_rfl
set_option maxHeartbeats 8000000 in
theorem subst_ok {A : Around} {E : Value → Shared → Prop} {a f : Addr} {code : Array Nat} {groups : Nat} {l : List Nat} {t : Tok} {fd : FuncData} {Q : Fin → Shared → Prop} (hp : PatAt s.heap a code groups) (hf : s.heap.get? f = some { cls := .type "function", data := .func fd })
    (h : Q (.again (.builtin "re.Pattern.sub.loop" ⟨[.ref a, .str (S l) t, .ref f, rawInt 1, rawInt 0, rawInt 0, rawInt 0, rawInt 0, .bool false, .ref s.heap.objs.size, .bool false], []⟩)) { s with heap := s.heap.push { cls := .type "list", data := .seq #[] } }) :
    wpAny (model prog w) A (Builtin.«re.Pattern.sub» ⟨[.ref a, .ref f, .str (S l) t], []⟩) Q E s := by
  obtain ⟨ps, t0, fl, ca, n, e1, e2⟩ := hp
  have hfn := fn_call
  unfold Builtin.«re.Pattern.sub» reSubstitute reNamed
  dsimp only
  wp_walk using wpAny_load hf
  dsimp only
  wp_walk using wpAny_load e1, AutoSeq1.wpAny_loadPart' e1, wpAny_load e2, AutoSeq1.wpAny_loadPart' e2
  refine wpAny_of_eq (show isSubtype (.type "str") (.type "bytearray") = pure false by rw [isSubtype_type]; kernel_rfl) (wpAny_pure ?_)
  refine wpAny_bind (wpAny_newObj_type ?_)
  exact wpAny_pure h
end Mine
end
section
open PySem PySem.Spec PySem.Calls PyProof.Rows PySem.W PySem.Builtin PySem.Builtin.Re
set_option maxRecDepth 100000
set_option maxHeartbeats 1000000
namespace Mine
variable {prog : Program} {w : World} {H : Heap} {s : Shared} {F : FC} {σ : List Addr} {lo : Lo} {ah : AH}
def scLam : Scope := { kind := .function, names := [("_m", .local)], isGenerator := false, isCoroutine := false }
def paLam : Arguments := { posonlyargs := [], args := [{ arg := "_m", annotation := none, pos := ⟨39, 38, 39, 40⟩ }], vararg := none, kwonlyargs := [], kw_defaults := [], kwarg := none, defaults := [] }
def boLam : PySem.Expr := .BinOp (.Constant (.str (S [])) 0 ⟨39, 42, 39, 44⟩) .Add (.BoolOp .Or [.Call (.Attribute (.Name "_m" ⟨39, 48, 39, 50⟩) "group" ⟨39, 48, 39, 56⟩) [.Constant (.int 1) 0 ⟨39, 57, 39, 58⟩] [] ⟨39, 48, 39, 59⟩, .Constant (.str (S [])) 0 ⟨39, 63, 39, 65⟩] ⟨39, 48, 39, 65⟩) ⟨39, 42, 39, 66⟩
theorem sx2 : sxP 2 = .Call (.Attribute (.Name GN.unslashRe.s ⟨39, 15, 39, 26⟩) "sub" ⟨39, 15, 39, 30⟩) [.Lambda paLam boLam scLam ⟨39, 31, 39, 66⟩,
    .Subscript (.Name (nmS (slU .uqhv) 0) ⟨39, 68, 39, 73⟩) (.Slice (some (.Constant (.int 1) 0 ⟨39, 74, 39, 75⟩)) (some (.UnaryOp .USub (.Constant (.int 1) 0 ⟨39, 77, 39, 78⟩) ⟨39, 76, 39, 78⟩)) none ⟨39, 74, 39, 78⟩) ⟨39, 68, 39, 79⟩] [] ⟨39, 15, 39, 80⟩ := by kernel_rfl
/-- the lambda's body -/
theorem lam_body {A : Around} {E : Value → Shared → Prop} {env : Env} {m : Str → Option Value} {p : Addr} {l : List Nat} {b : Nat} {c : Nat} {sp0 sp1 : Int} {Q : Value → Shared → Prop} (hk : env.scope.kind = .function) (hn : env.kindOf "_m" = some .local) (hns : s.heap.Ns env.locals m) (hm : m "_m" = some (.ref p)) (hmt : IsMt s.heap p l [sp0, sp1, (b : Int), (b + 1 : Nat)]) (hl : l.length ≤ 1000000) (hc : l[b]? = some c)
    (h : ∀ t tk, Q (.str (S [c]) t) { s with toks := tk }) : wpAny (model prog w) A (eval boLam env) Q E s := by
  have hcut : (l.take (b + 1)).drop b = [c] := by
    obtain ⟨hb, e⟩ := List.getElem?_eq_some_iff.mp hc
    rw [List.take_add_one, List.getElem?_eq_getElem hb, e]
    simp [List.length_take, Nat.min_eq_left (Nat.le_of_lt hb)]
  refine wpAny_BinOp (wpAny_Constant_str ?_)
  refine BoolOp_or ?_
  refine wpAny_Call_method_lateS (base_of (sx := sxP) (nm := fun _ => "_m") (e := .loc 0 ⟨39, 48, 39, 50⟩) rfl _ _ _) rfl rfl (wpAny_Name (wpAny_loadName_local hk hn hns hm ?_) (by decide +kernel))
  refine ⟨"re.Match", "re.Match.group", plainAttrs_mt, slot_mt_group, type_mt_group, hmt.ty, (fun a e => by cases e; obtain ⟨_, _, _, _, _, _, e1, _⟩ := hmt; exact ⟨_, e1, rfl⟩), ?_⟩
  refine PySem.Calls.callWith_builtin rfl (evalArgs_plain (spliced_cons (wpAny_Constant_int (k := 0) (pos := ⟨39, 57, 39, 58⟩) (spliced_nil ?_))))
  refine call_meets slot_mt_group (IsMt.ty (s := { s with toks := s.toks + 1 + 1 }) hmt) entry_mt_group (args_mt_group2 _ _) (meets_group1 p l _ b (b + 1 : Nat) 1 _ (by decide) (by decide) rfl rfl hl) ⟨hmt, fun hcc => ?_, fun h1 h2 => ?_⟩
  · omega
  · have e1 : ((b + 1 : Nat) : Int).toNat = b + 1 := by omega
    have e2 : ((b : Nat) : Int).toNat = b := by omega
    rw [e1, e2, hcut]
    refine PySem.P.truthy_str (by rw [S_length, List.length_singleton]; decide) ?_
    rw [S_length]
    show wpAny _ _ _ _ _ _
    refine PyProof.Rows.add_str (fun t' tk => ?_) (by rw [S_length, S_length, sizeLine_eq, List.length_singleton]; decide)
    exact h _ _
theorem lam_call {A : Around} {E : Value → Shared → Prop} {f p : Addr} {pm cv ctv : Value} {l : List Nat} {b : Nat} {c : Nat} {sp0 sp1 : Int} {Q : Value → Shared → Prop} (hd : A.depth < recursionLimit) (hlim : s.heap.NoLimit)
    (hf : s.heap.get? f = some { cls := .type "function", data := .func (kla_fn "<lambda>" qLam paLam boLam scLam [] pm cv ctv) }) (hcd : s.heap.CodeRec cv qLam) (hmt : IsMt s.heap p l [sp0, sp1, (b : Int), (b + 1 : Nat)]) (hl : l.length ≤ 1000000) (hc : l[b]? = some c)
    (h : ∀ h' t tk, (∀ b o, s.heap.get? b = some o → h'.get? b = some o) → Q (.str (S [c]) t) { s with heap := h', toks := tk }) : wpAny (model prog w) A (call (.ref f) [.ref p]) Q E s := by
  refine wpAny_call (kla_callFunE hd hf rfl rfl rfl rfl hcd ?_)
  rw [show bindArgs (kla_fn "<lambda>" qLam paLam boLam scLam [] pm cv ctv) ⟨[.ref p], []⟩ = (pure [("_m", Value.ref p)] : Sem (List (Str × Value))) from by kernel_rfl]
  refine wpAny_pure (wpAny_newFunctionEnv (show ∀ x ∈ scLam.names, x.2 ≠ NameKind.cell from by decide +kernel) (fun x hx => by rw [List.mem_singleton] at hx; subst hx; rfl) (fun h₁ hns hsb => ⟨hlim.fresh _ hsb, ?_⟩) rfl)
  have hk₁ : ∀ b o, s.heap.get? b = some o → h₁.get? b = some o := fun b o e => hsb.extBut b o (Nat.ne_of_lt (Heap.lt_size e)) (Heap.get?_push_of_some _ e)
  have hmt1 : IsMt h₁ p l [sp0, sp1, (b : Int), (b + 1 : Nat)] := hmt.frz (.of_keep hk₁)
  refine kla_codeExpr (lam_body (s := { s with heap := h₁, toks := _ }) rfl rfl hns rfl hmt1 hl hc fun t tk => ?_)
  exact h h₁ t tk hk₁
end Mine
end
section
open PySem PySem.Spec PySem.Calls PyProof.Rows PySem.W PySem.Builtin PySem.Builtin.Re
set_option maxRecDepth 100000
set_option maxHeartbeats 1000000
namespace Mine
variable {prog : Program} {w : World} {H : Heap} {s : Shared} {F : FC} {σ : List Addr} {lo : Lo} {ah : AH}
theorem unesc_none : ∀ x : T, uSp x = none → unesc x = x
  | [], _ => rfl
  | [_], _ => rfl
  | c :: d :: r, h => by
    rw [uSp] at h
    split at h
    · cases h
    · rename_i hn
      rw [unesc, if_neg hn, unesc_none (d :: r) (by simpa using h)]
theorem unesc_some : ∀ (x : T) (i : Nat), uSp x = some i → ∃ c, x[i + 1]? = some c ∧ i + 2 ≤ x.length ∧ unesc x = x.take i ++ c :: unesc (x.drop (i + 2))
  | [], _, h => by cases h
  | [_], _, h => by cases h
  | c :: d :: r, i, h => by
    rw [uSp] at h
    split at h
    · rename_i hy
      cases h
      refine ⟨d, rfl, by simp, ?_⟩
      rw [unesc, if_pos hy]; rfl
    · rename_i hn
      obtain ⟨j, hj, rfl⟩ := Option.map_eq_some_iff.mp h
      obtain ⟨e, h1, h2, h3⟩ := unesc_some (d :: r) j hj
      refine ⟨e, by simpa using h1, by simpa using h2, ?_⟩
      rw [unesc, if_neg hn, h3]; rfl
theorem cutS (l : T) (a b : Nat) : (⟨(S l).cps.extract a b⟩ : Str) = S ((l.drop a).take (b - a)) := by
  show (⟨l.toArray.extract a b⟩ : Str) = ⟨((l.drop a).take (b - a)).toArray⟩
  rw [List.extract_toArray]
theorem wp_slice {A : Around} {E : Value → Shared → Prop} {l : T} {b e : Nat} {Q : Value → Shared → Prop} (hl : l.length ≤ 1000000) (h : ∀ t tk, Q (.str (S ((l.drop b).take (e - b))) t) { s with toks := tk }) : wpAny (model prog w) A (reSlice (S l).cps 0 b e) Q E s := by
  unfold reSlice
  rw [if_pos (by rfl), cutS]
  exact wpAny_mkStr (h _ _) (by rw [S_length, List.length_take, List.length_drop, sizeLine_eq]; omega)
theorem strValues_length (m : List (Str × Tok)) : (strValues m).length = m.length := by simp [strValues]
theorem sub_loop {A : Around} {R : Result → Shared → Prop} {a f pl : Addr} {l : T} {t : Tok} {pm cv ctv : Value} (hd : A.depth < recursionLimit) (hl : l.length ≤ 100000) : ∀ (k start : Nat) (nn : Int) (acc : List T) (m : List (Str × Tok)) (n : Nat) (s : Shared), l.length - start ≤ k → start ≤ l.length →
    s.heap.get? pl = some { cls := .type "list", data := .seq (strValues m).toArray n } → m.map (·.1) = acc.map S → acc.length ≤ start → acc.flatten.length ≤ start →
    PatAt s.heap a unsC 1 → s.heap.get? f = some { cls := .type "function", data := .func (kla_fn "<lambda>" qLam paLam boLam scLam [] pm cv ctv) } → s.heap.CodeRec cv qLam → s.heap.NoLimit → a ≠ pl → f ≠ pl →
    (∀ h' tk t', (∀ b o, b ≠ pl → s.heap.get? b = some o → h'.get? b = some o) → R (.ok (.ret (.str (S (acc.flatten ++ unesc (l.drop start))) t'))) { s with heap := h', toks := tk }) →
    codeAny (model prog w) A (.builtin "re.Pattern.sub.loop" ⟨[.ref a, .str (S l) t, .ref f, rawInt 1, rawInt 0, rawInt nn, rawInt start, rawInt start, .bool false, .ref pl, .bool false], []⟩) R s := by
  intro k
  induction k using Nat.strongRecOn with
  | _ k ih =>
    intro start nn acc m n s hk hs hpl hm ha1 ha2 hp hf hcd hlim hapl hfpl hR
    have hml : m.length = acc.length := by have := congrArg List.length hm; simpa using this
    have hsz : (S l).cps.size = l.length := by simp [S]
    refine codeAny_builtin entry_subloop ?_
    rw [Around.under_plainId plain_subloop _]
    unfold Builtin.«re.Pattern.sub.loop»
    dsimp only [rawInt]
    refine wpAny_bind (whole hp ?_)
    rw [if_neg (show ¬ ((1 : Int) == 0) = true by decide)]
    rw [if_neg (show ¬ (((0 : Int) != 0) && decide (nn ≥ 0)) = true by simp)]
    rw [Int.toNat_natCast]
    obtain ⟨nS, m', hnS, he, ho⟩ := uns_run l start hs
    dsimp only
    show wpAny _ _ (reRunToEnd (Sre.forSearch unsC (S l).cps 1 start (S l).cps.size false) >>= _) _ _ _
    rw [hsz]
    have up : ∀ {h4 : Heap}, (∀ b o, b ≠ pl → s.heap.get? b = some o → h4.get? b = some o) → PatAt h4 a unsC 1 ∧ h4.get? f = some { cls := .type "function", data := .func (kla_fn "<lambda>" qLam paLam boLam scLam [] pm cv ctv) } ∧ h4.CodeRec cv qLam ∧ h4.NoLimit := by
      intro h4 kk
      refine ⟨?_, kk _ _ hfpl hf, ?_, ?_⟩
      · obtain ⟨ps, t0, fl, ca, n0, e1, e2⟩ := hp
        exact ⟨ps, t0, fl, ca, n0, kk _ _ hapl e1, kk _ _ (fun q => by rw [q, hpl] at e2; have e3 := congrArg Obj.cls (Option.some.inj e2); exact absurd e3 (by simp)) e2⟩
      · obtain ⟨c1, oc, ws, t1, e1, e2, e3, e4⟩ := hcd
        exact ⟨c1, oc, ws, t1, e1, kk _ _ (fun q => by rw [q, hpl] at e2; cases e2; cases e3) e2, e3, e4⟩
      · obtain ⟨mc, ⟨oc, es, ep, e, hdc, r⟩, hmc⟩ := hlim
        exact ⟨mc, ⟨oc, es, ep, kk _ _ (fun q => by rw [q, hpl] at e; cases e; cases hdc) e, hdc, r⟩, hmc⟩
    refine wpAny_bind (he.toEnd (by omega) ?_)
    cases hu : uSp (l.drop start) with
    | none =>
      rw [hu] at ho
      refine .inr ⟨ho, ?_⟩
      dsimp only
      have hun := unesc_none _ hu
      rw [hun] at hR
      have rest : ∀ (acc1 : List T) (m1 : List (Str × Tok)) (n1 : Nat) (h1 : Heap) (tk1 : Nat), h1.get? pl = some { cls := .type "list", data := .seq (strValues m1).toArray n1 } → m1.map (·.1) = acc1.map S → acc1.flatten = acc.flatten ++ l.drop start →
          (∀ b o, b ≠ pl → s.heap.get? b = some o → h1.get? b = some o) →
          wpAny (model prog w) A.in1 (do
            let joiner ← reSlice (S l).cps 0 0 0
            let __do_lift ← seqItems? (Value.ref pl)
            if (__do_lift.getD #[]).isEmpty = true then do
              let text ← pure joiner
              if false = true then do
                let __do_lift ← holding [text] do
                        let __do_lift ← mkInt nn
                        newTuple [text, __do_lift]
                ret __do_lift
              else ret text
            else do
              let text ← call (Value.builtin (if ((0 : Nat) == 0) = true then "str.join" else "bytes.join")) [joiner, Value.ref pl]
              if false = true then do
                let __do_lift ← holding [text] do
                        let __do_lift ← mkInt nn
                        newTuple [text, __do_lift]
                ret __do_lift
              else ret text : Sem Fin)
            (fun fin s' => match fin with | .done f => R (.ok f) s' | .again c' => c'.quiet = true ∧ codeAny (model prog w) A c' R s') (fun e s' => R (.error e) s') { s with heap := h1, toks := tk1 } := by
        intro acc1 m1 n1 h1 tk1 hp1 hm1 hf1 kk
        refine wpAny_bind (wp_slice (by omega) fun t0 tk0 => ?_)
        refine wpAny_bind (wpAny_seqItems (s := { s with heap := h1, toks := tk0 }) hp1 rfl ?_)
        have hlen : acc1.flatten.length ≤ l.length := by rw [hf1, List.length_append, List.length_drop]; omega
        cases m1 with
        | nil =>
          have : acc1 = [] := by cases acc1 with | nil => rfl | cons x r => cases hm1
          subst this
          rw [if_pos (by rfl)]
          refine wpAny_bind (wpAny_pure ?_)
          rw [if_neg Bool.false_ne_true]
          refine wpAny_pure ?_
          rw [← hf1] at hR
          exact hR h1 tk0 t0 kk
        | cons x r =>
          rw [if_neg (by simp [strValues])]
          refine wpAny_bind ?_
          rw [if_pos (by rfl)]
          refine SC.join (s := { s with heap := h1, toks := tk0 }) (isList_of hp1) hm1 (joinOk_of ?_) (fun t' tk' => ?_)
          · rw [List.map_map, List.length_map, S_length]
            have e1 : (List.map ((fun x => x.length) ∘ S) acc1) = acc1.map List.length := List.map_congr_left fun a _ => S_length a
            rw [e1]
            have e2 : (acc1.map List.length).sum = acc1.flatten.length := by rw [List.length_flatten]
            rw [e2]
            simp only [List.drop_zero, Nat.sub_zero, List.take_zero, List.length_nil, Nat.mul_zero]
            omega
          · rw [if_neg Bool.false_ne_true]
            refine wpAny_pure ?_
            show R (.ok (.ret (.str (Txt.join (S []) (acc1.map S)) t'))) _
            rw [join_S, joinF_nil, hf1]
            exact hR h1 tk' t' kk
      split
      · refine wpAny_bind (wp_slice (by omega) fun t0 tk0 => ?_)
        refine wpAny_bind (wpAny_updateSeq (s := { s with toks := tk0 }) hpl rfl ?_ (by rw [List.size_toArray]; show (strValues _).length ≤ sizeLine; rw [strValues_length, sizeLine_eq]; omega) (by rw [Array.size_push, List.size_toArray, strValues_length, sizeLine_eq]; omega))
        have hg3 := Heap.get?_update_self (h := s.heap) (Obj.mapSeq (·.push (.str (S ((l.drop start).take (l.length - start))) t0))) hpl rfl
        have hs3 : Heap.SameBut pl s.heap (s.heap.update pl (Obj.mapSeq (·.push (.str (S ((l.drop start).take (l.length - start))) t0)))) := Heap.SameBut.update ..
        refine rest (acc ++ [l.drop start]) (m ++ [(S ((l.drop start).take (l.length - start)), t0)]) (n + 1) _ _ ?_ ?_ ?_ hs3.extBut
        · rw [hg3]; simp [Obj.mapSeq, strValues]
        · rw [List.map_append, hm, List.map_append, show (l.drop start).take (l.length - start) = l.drop start from List.take_of_length_le (by rw [List.length_drop]; omega)]; rfl
        · rw [List.flatten_append]; simp
      · refine rest acc m n s.heap s.toks hpl hm ?_ fun _ _ _ e => e
        rw [List.drop_eq_nil_iff.mpr (by omega), List.append_nil]
    | some i =>
      rw [hu] at ho
      obtain ⟨hmat, hst, hhd, hmk, hlm⟩ := ho
      refine .inl ⟨hmat, ?_⟩
      obtain ⟨c, hc, hi2, hun⟩ := unesc_some _ _ hu
      dsimp only
      rw [List.length_drop] at hi2
      have hc1 : l[start + i + 1]? = some c := by rw [List.getElem?_drop] at hc; rw [Nat.add_assoc]; exact hc
      have ok : okM 1 m' [((start + i : Nat) : Int), ((start + i + 2 : Nat) : Int), ((start + i + 1 : Nat) : Int), ((start + i + 2 : Nat) : Int)] = true := okM1 hmat hst hhd hmk hlm (by omega)
      have rest : ∀ (acc1 : List T) (m1 : List (Str × Tok)) (n1 : Nat) (h1 : Heap) (tk1 : Nat), h1.get? pl = some { cls := .type "list", data := .seq (strValues m1).toArray n1 } → m1.map (·.1) = acc1.map S → acc1.flatten = acc.flatten ++ (l.drop start).take i → acc1.length ≤ acc.length + 1 →
          (∀ b o, b ≠ pl → s.heap.get? b = some o → h1.get? b = some o) →
          wpAny (model prog w) A.in1 (do
            let found ← reNewMatch (Value.ref a) (Value.str (S l) t) 1 0 (List.length l) m'
            let item ← holding [found] (if ((1 : Int) == 1) = true then call (Value.ref f) [found]
                else do
                  let __do_lift ← reFound found
                  reExpand (Value.ref f) __do_lift)
            if (item != Value.none) = true then do
              updateSeq pl fun x => x.push item
              again (Code.builtin "re.Pattern.sub.loop" ⟨[Value.ref a, Value.str (S l) t, Value.ref f, Value.int 1 0, Value.int 0 0, Value.int (nn + 1) 0, Value.int (↑m'.handed) 0, Value.int (↑m'.handed) 0, Value.bool (m'.handed == m'.start), Value.ref pl, Value.bool false], []⟩)
            else
              again (Code.builtin "re.Pattern.sub.loop" ⟨[Value.ref a, Value.str (S l) t, Value.ref f, Value.int 1 0, Value.int 0 0, Value.int (nn + 1) 0, Value.int (↑m'.handed) 0, Value.int (↑m'.handed) 0, Value.bool (m'.handed == m'.start), Value.ref pl, Value.bool false], []⟩) : Sem Fin)
            (fun fin s' => match fin with | .done f => R (.ok f) s' | .again c' => c'.quiet = true ∧ codeAny (model prog w) A c' R s') (fun e s' => R (.error e) s') { s with heap := h1, toks := tk1 } := by
        intro acc1 m1 n1 h1 tk1 hp1 hm1 hf1 hl1 kk
        have hml1 : m1.length = acc1.length := by have := congrArg List.length hm1; simpa using this
        refine wpAny_bind (new_match (s := { s with heap := h1, toks := tk1 }) ok (by decide) fun h2 p hk2 hmt => ?_)
        have hpl2 := hk2 _ _ hp1
        refine wpAny_bind (wpAny_holding ?_)
        rw [if_pos (show ((1 : Int) == 1) = true by decide)]
        have kk2 : ∀ b o, b ≠ pl → s.heap.get? b = some o → h2.get? b = some o := fun b o hb e => hk2 b o (kk b o hb e)
        obtain ⟨u1, u2, u3, u4⟩ := up kk2
        refine lam_call (s := { s with heap := h2, toks := tk1 }) hd u4 u2 u3 hmt (by omega) hc1 fun h3 t3 tk3 hk3 => ?_
        rw [if_pos (by rfl)]
        refine wpAny_bind (wpAny_updateSeq (s := { s with heap := h3, toks := tk3 }) (hk3 _ _ hpl2) rfl ?_ (by rw [List.size_toArray]; show (strValues _).length ≤ sizeLine; rw [strValues_length, sizeLine_eq]; omega) (by rw [Array.size_push, List.size_toArray, strValues_length, sizeLine_eq]; omega))
        have hg3 := Heap.get?_update_self (h := h3) (Obj.mapSeq (·.push (.str (S [c]) t3))) (hk3 _ _ hpl2) rfl
        have hs3 : Heap.SameBut pl h3 (h3.update pl (Obj.mapSeq (·.push (.str (S [c]) t3)))) := Heap.SameBut.update ..
        have kk4 : ∀ b o, b ≠ pl → s.heap.get? b = some o → (h3.update pl (Obj.mapSeq (·.push (.str (S [c]) t3)))).get? b = some o := fun b o hb e => hs3.extBut b o hb (hk3 b o (kk2 b o hb e))
        obtain ⟨w1, w2, w3, w4⟩ := up kk4
        have e5 : (m'.handed == m'.start) = false := by rw [hst, hhd]; simp
        rw [e5, hhd]
        refine wpAny_pure ⟨plainId_quiet plain_subloop _, ?_⟩
        have hfl : (acc1 ++ [[c]]).flatten = acc.flatten ++ ((l.drop start).take i ++ [c]) := by rw [List.flatten_append, hf1]; simp
        refine ih (l.length - (start + i + 2)) (by omega) (start + i + 2) (nn + 1) (acc1 ++ [[c]]) (m1 ++ [(S [c], t3)]) (n1 + 1) { s with heap := _, toks := tk3 } (Nat.le_refl _) (by omega) ?_ ?_ ?_ ?_ w1 w2 w3 w4 hapl hfpl ?_
        · rw [hg3]; simp [Obj.mapSeq, strValues]
        · rw [List.map_append, hm1, List.map_append]; rfl
        · rw [List.length_append, List.length_singleton]; omega
        · rw [hfl]; simp only [List.length_append, List.length_take, List.length_singleton]; omega
        · intro h' tk t' hk'
          rw [hfl]
          have : unesc (l.drop start) = ((l.drop start).take i ++ [c]) ++ unesc (l.drop (start + i + 2)) := by
            rw [hun, List.drop_drop, List.append_assoc, Nat.add_assoc]; rfl
          rw [this, ← List.append_assoc] at hR
          exact hR h' tk t' fun b o hb e => hk' b o hb (kk4 b o hb e)
      split
      · rename_i hlt
        refine wpAny_bind (wp_slice (by omega) fun t0 tk0 => ?_)
        rw [hst] at rest ⊢
        rw [show start + i - start = i by omega]
        refine wpAny_bind (wpAny_updateSeq (s := { s with toks := tk0 }) hpl rfl ?_ (by rw [List.size_toArray]; show (strValues _).length ≤ sizeLine; rw [strValues_length, sizeLine_eq]; omega) (by rw [Array.size_push, List.size_toArray, strValues_length, sizeLine_eq]; omega))
        have hg3 := Heap.get?_update_self (h := s.heap) (Obj.mapSeq (·.push (.str (S ((l.drop start).take i)) t0))) hpl rfl
        have hs3 : Heap.SameBut pl s.heap (s.heap.update pl (Obj.mapSeq (·.push (.str (S ((l.drop start).take i)) t0)))) := Heap.SameBut.update ..
        rw [if_neg (show ¬ ((1 : Int) == 0) = true by decide)]
        refine rest (acc ++ [(l.drop start).take i]) (m ++ [(S ((l.drop start).take i), t0)]) (n + 1) _ _ ?_ ?_ ?_ ?_ hs3.extBut
        · rw [hg3]; simp [Obj.mapSeq, strValues]
        · rw [List.map_append, hm, List.map_append]; rfl
        · rw [List.flatten_append]; simp
        · rw [List.length_append]; exact Nat.le_refl _
      · rename_i hlt
        rw [if_neg (show ¬ ((1 : Int) == 0) = true by decide)]
        refine rest acc m n s.heap s.toks hpl hm ?_ (Nat.le_succ _) fun _ _ _ e => e
        have : i = 0 := by rw [hst] at hlt; omega
        subst this
        simp
end Mine
end
section
open PySem PySem.Spec PySem.Calls PyProof.Rows PySem.W PySem.Builtin PySem.Builtin.Re PySem.Builtin.Str
set_option maxRecDepth 100000
set_option maxHeartbeats 1000000
namespace Mine
variable {prog : Program} {w : World} {H : Heap} {s : Shared} {F : FC} {σ : List Addr} {lo : Lo} {ah : AH}
theorem slice_in (l : T) (h : 2 ≤ l.length) : Txt.slice (S l) (some 1) (some (-1)) = S ((l.drop 1).dropLast) := by
  have e : Txt.slice (S l) (some 1) (some (-1)) = Txt.slice (S l) ((some 1 : Option Nat).map Int.ofNat) ((some (l.length - 1) : Option Nat).map Int.ofNat) := by
    have e2 : strSliceIndices (some 1) (some (-1)) 1 (S l).length = strSliceIndices ((some 1 : Option Nat).map Int.ofNat) ((some (l.length - 1) : Option Nat).map Int.ofNat) 1 (S l).length := by
      rw [S_length]
      unfold strSliceIndices
      simp only [Option.map_some, Int.ofNat_eq_natCast, show (1 : Int) > 0 by decide, if_true, show ((-1 : Int) < 0) by decide]
      rw [if_neg (show ¬ ((1 : Int) < 0) by decide), if_neg (show ¬ (((1 : Nat) : Int) < 0) by decide), if_neg (show ¬ (((l.length - 1 : Nat) : Int) < 0) by omega)]
      congr 1
      omega
    unfold Txt.slice
    rw [e2]
  rw [e, slice_S]
  unfold cut clA clB
  dsimp only
  rw [Nat.min_eq_left (by omega), Nat.min_eq_left (by omega), List.dropLast_eq_take, List.length_drop, Nat.sub_sub]
theorem mk_fn {A : Around} {E : Value → Shared → Prop} {name qual : Str} {params : Arguments} {body : PySem.Expr} {scope : Scope} {env : Env} {c P : Addr} {ps : Array Value} {pos : Pos} {firstLine : Nat} {mg : Str → Option Value} {Q : Value → Shared → Prop}
    (hcl : closureFor scope env = (pure [] : Sem (List (Str × Addr)))) (hge0 : env.globals = mainGlobals) (hg : s.heap.Ns mainGlobals mg) (hcode : env.code = .ref c) (C : CodeHd s.heap c P) (hP : s.heap.get? P = some (tabObj ps)) (ht : TriplesOk ps.toList)
    (hnf : codeAmong pos ps.toList = none) (hgP : mainGlobals ≠ P) (hb : s.heap.BuiltinsAt mg P)
    (h : ∀ c' oc vs t h' tk, Heap.ExtBut P s.heap h' → s.heap.objs.size ≤ c' → c' < h'.objs.size → h'.get? c' = some oc → oc.cls = .type "code" → oc.data = .fields vs → vs[1]? = some (.str qual t) → h'.get? P = some (tabObj (ps ++ #[rawInt pos.line, rawInt pos.col, .ref c'])) →
      Q (.ref h'.objs.size) { s with heap := h'.push { cls := .type "function", data := .func (kla_fn name qual params body scope [] ((mg "__name__").getD .none) (.ref c') .none) }, toks := tk }) :
    wpAny (model prog w) A (makeFunction name qual params (.expr body) scope env [] [] [] pos firstLine) Q E s := by
  obtain ⟨bm, ob, hbm, hne0, _, hneP, hbo, hcls, hdict, hdata⟩ := hb
  rw [makeFunction_eq]
  simp only [List.zip_nil_right, List.filterMap_nil, List.isEmpty_nil, if_true, pure_bind]
  unfold makeTail
  rw [hcl, hge0]
  refine wpAny_bind (wpAny_pure ?_)
  simp only [List.isEmpty_nil, if_true]
  refine wpAny_bind (wpAny_pure ?_)
  refine wpAny_bind (wpAny_functionCodeX hcode (C.code hP ht) (C.tab hP) hnf fun c' h' tk hx hge hlt _ hrec htb hT => ?_)
  have hg' := hg.extBut hx hgP
  refine wpAny_bind (wpAny_builtinsFor hg' hbm hne0 (hx _ _ hneP hbo) hcls hdict hdata ?_)
  refine wpAny_bind (wpAny_nsGet hg' ?_)
  obtain ⟨P', _, _, ⟨oc, vs, g1, g2, g3, _⟩, _⟩ := hT
  obtain ⟨c2, o2, vs2, t2, q1, q2, q3, q4⟩ := hrec
  cases q1
  rw [g1] at q2; cases q2
  exact wpAny_bind (wpAny_pure (wpAny_newObj_type (h c' oc vs2 t2 h' tk hx hge hlt g1 g2 q3 q4 htb.2) (by size_fits)))
theorem core2 (B : Base prog w H) (P : Pats H) (G : GxB H) {A : Around} {L a : Addr} {pr : Addr → Obj → Prop} {os : OsState} {lv : Nat} (OK : FOk H (callF A (fdU .uqhv) L a (slU .uqhv) pr os lv))
    (I : Inv prog w (callF A (fdU .uqhv) L a (slU .uqhv) pr os lv) σ lo ah s) {l : T} (hx : getL lo 0 = some (.str l)) (hl2 : 2 ≤ l.length) (hl : l.length ≤ 100000)
    {K : AV → Lo → AH → Prop} (h : K (.str (unesc ((l.drop 1).dropLast))) lo ah) :
    wpAny (model prog w) (callF A (fdU .uqhv) L a (slU .uqhv) pr os lv).A (eval (sxP 2) (callF A (fdU .uqhv) L a (slU .uqhv) pr os lv).env) (fun z s' => 1 ≤ s'.toks → Post prog w (callF A (fdU .uqhv) L a (slU .uqhv) pr os lv) σ s.heap K z s') Nev s := by
  rw [sx2]
  have hh := OK.hand
  have hdep := OK.depth
  have hslot : (callF A (fdU .uqhv) L a (slU .uqhv) pr os lv).slots[0]? = some (nmS (slU .uqhv) 0, none) := rfl
  obtain ⟨c, hcode, hC⟩ := G.c60
  obtain ⟨mgb, bm, ob, hM⟩ := G.bm
  have hcode' : (callF A (fdU .uqhv) L a (slU .uqhv) pr os lv).env.code = .ref c := hcode
  have hqual : (callF A (fdU .uqhv) L a (slU .uqhv) pr os lv).env.qual ++ "<lambda>" = qLam := by kernel_rfl
  have hcl : closureFor scLam (callF A (fdU .uqhv) L a (slU .uqhv) pr os lv).env = (pure [] : Sem (List (Str × Addr))) := by kernel_rfl
  have hk : (callF A (fdU .uqhv) L a (slU .uqhv) pr os lv).env.kindOf GN.unslashRe.s = some .globalImplicit := by kernel_rfl
  have hb0 : (slU .uqhv).length = 1 := rfl
  generalize hFF : callF A (fdU .uqhv) L a (slU .uqhv) pr os lv = F at *
  have hnm : F.nm = nmS (slU .uqhv) := by rw [← hFF]; exact nm_callF
  obtain ⟨m0, hns0, hloc⟩ := I.loc
  obtain ⟨tv, hvv, htv⟩ := hloc 0 _ _ _ hslot hx
  obtain ⟨tt, rfl⟩ := vr_str_inv htv
  have hM1 := I.bmod OK B hM
  obtain ⟨mg, hmg, hgn, _⟩ := B.g
  obtain ⟨vg, hvg, rvg⟩ := hgn .unslashRe
  have hvg2 := vr_con_inv rvg
  subst hvg2
  have hq := P.now OK B I (a := 58) (code := unsC) (g := 1) rfl
  refine wpAny_Call_method_lateS (base_of (sx := sxP) (nm := nmS slLaw) (e := .glob .unslashRe ⟨39, 15, 39, 26⟩) rfl _ _ _) rfl rfl
    (Name_function_global OK.kind hk (loadGlobal_global (OK.glo ▸ I.oldNs OK hmg (by decide) (by decide)) hvg ?_) GN.unslashRe.ndb)
  refine ⟨"re.Pattern", "re.Pattern.sub", plainAttrs_pat, slot_sub, type_sub, hq.typeIs, fun a e => by cases e; obtain ⟨_, _, _, _, _, e1, _⟩ := hq; exact ⟨_, e1, rfl⟩, ?_⟩
  refine PySem.Calls.callWith_builtin rfl (evalArgs_plain (spliced_cons ?_))
  show wpAny _ _ (eval (.Lambda paLam boLam scLam ⟨39, 31, 39, 66⟩) F.env) _ _ _
  refine kla_eval rfl ?_
  rw [hqual]
  -- the rest, once the function is made
  have rest : ∀ (h1 h2 : Heap) (tk : Nat) (cv pm ctv : Value), Heap.ExtBut 60 s.heap h1 → (∀ h9, (∀ b o, h1.get? b = some o → h9.get? b = some o) → Tabs h9) → (∃ o, h1.get? 60 = some o ∧ frozen o = false) → h1.CodeRec cv qLam →
      h2 = h1.push { cls := .type "function", data := .func (kla_fn "<lambda>" qLam paLam boLam scLam [] pm cv ctv) } →
      wpAny (model prog w) F.A (eval (.Subscript (.Name (nmS (slU .uqhv) 0) ⟨39, 68, 39, 73⟩) (.Slice (some (.Constant (.int 1) 0 ⟨39, 74, 39, 75⟩)) (some (.UnaryOp .USub (.Constant (.int 1) 0 ⟨39, 77, 39, 78⟩) ⟨39, 76, 39, 78⟩)) none ⟨39, 74, 39, 78⟩) ⟨39, 68, 39, 79⟩) F.env)
        (fun v s₁ => wpAny (model prog w) F.A (call (.builtin "re.Pattern.sub") [.ref 58, .ref h1.objs.size, v]) (fun z s' => 1 ≤ s'.toks → Post prog w F σ s.heap K z s') Nev s₁) Nev { s with heap := h2, toks := tk } := by
    intro h1 h2 tk cv pm ctv hx1 htabs h60 hcd hh2
    have kp2 : ∀ b o, h1.get? b = some o → h2.get? b = some o := fun b o e => by rw [hh2]; exact Heap.get?_push_of_some _ e
    have hf2 : h2.get? h1.objs.size = some { cls := .type "function", data := .func (kla_fn "<lambda>" qLam paLam boLam scLam [] pm cv ctv) } := by rw [hh2]; exact Heap.get?_push_size _ rfl
    have hloc60 : F.env.locals ≠ 60 := fun q => by
      have := (I.parts).1.2.2.1
      exact this q.symm
    have hns2 : h2.Ns F.env.locals m0 := by
      obtain ⟨o, es, ep, e, r⟩ := hns0
      exact ⟨o, es, ep, kp2 _ _ (hx1 _ _ hloc60 e), r⟩
    refine Subscript_ (wpAny_Name (wpAny_loadName_local OK.kind (OK.sl 0 _ hslot) hns2 hvv (wpAny_Slice ?_)) (by decide +kernel))
    rw [evalPart_some]
    refine wpAny_Constant_int ?_
    rw [evalPart_some]
    refine wpAny_UnaryOp (wpAny_Constant_int (PyProof.Rows.neg_int ?_))
    rw [evalPart_none]
    refine wpAny_pure ?_
    refine tail_I (SBH.sliceItem_ss (s := { s with heap := h2, toks := tk + 1 + 1 + 1 }) (P := Ext { s with heap := h2, toks := tk }) kept_ext (fun _ _ e => e) (fun h3 t3 tk3 hk3 => ?_) (by rw [S_length, sizeLine_eq]; omega))
    rw [slice_in l hl2]
    have hk3 : ∀ b o, h2.get? b = some o → h3.get? b = some o := hk3
    have hsz : ((l.drop 1).dropLast).length ≤ 100000 := by rw [List.length_dropLast, List.length_drop]; omega
    generalize (l.drop 1).dropLast = lx at hsz h ⊢
    have hold : ∀ b o, b ≠ 60 → s.heap.get? b = some o → h3.get? b = some o := fun b o hb e => hk3 b o (kp2 b o (hx1 b o hb e))
    have hq3 : PatAt h3 58 unsC 1 := by
      obtain ⟨ps, t0, fl, ca, n0, e1, e2⟩ := hq
      have hca : ca ≠ 60 := fun q => by
        rw [q] at e2
        rcases I.tabs.2 with hP | ⟨_, _, _, _, hP, _⟩ <;> (rw [hP] at e2; have e3 := congrArg Obj.cls (Option.some.inj e2); exact absurd e3 (by simp [tabObj]))
      exact ⟨ps, t0, fl, ca, n0, hold _ _ (by decide) e1, hold _ _ hca e2⟩
    have hlim3 : h3.NoLimit := by
      obtain ⟨mc, ⟨oc, es, ep, e, r⟩, hmc⟩ := I.nolim OK B
      exact ⟨mc, ⟨oc, es, ep, hold _ _ (by decide) e, r⟩, hmc⟩
    have hcd3 : h3.CodeRec cv qLam := hcd.keeps fun b o e => hk3 b o (kp2 b o e)
    have hT : ({ s with heap := h3, toks := tk3 } : Shared).TypeIs (.ref 58) "re.Pattern" := PatAt.typeIs (s := { s with heap := h3, toks := tk3 }) hq3
    refine call_meetsIn slot_sub hT entry_sub (args_sub3 _ _ _) (S := fun A R s => wpAny (model prog w) A.in1 (Builtin.«re.Pattern.sub» ⟨[.ref 58, .ref h1.objs.size, .str (S lx) t3], []⟩) (fun fin s' => match fin with | .done f => R (.ok f) s' | .again c' => c'.quiet = true ∧ codeAny (model prog w) A c' R s') (fun e s' => R (.error e) s') s) (fun A R s h => h) ?_
    have hf3 := hk3 _ _ hf2
    refine subst_ok (s := { s with heap := h3, toks := tk3 }) hq3 hf3 ⟨plainId_quiet plain_subloop _, ?_⟩
    have kp4 : ∀ b o, h3.get? b = some o → (h3.push { cls := .type "list", data := .seq #[] }).get? b = some o := fun b o e => Heap.get?_push_of_some _ e
    have hpl := Heap.get?_push_size h3 (o := { cls := .type "list", data := .seq #[] }) rfl
    refine sub_loop (s := { s with heap := h3.push { cls := .type "list", data := .seq #[] }, toks := tk3 }) (by have : recursionLimit = 1000 := rfl; omega) hsz _ 0 0 [] [] 0 (Nat.le_refl _) (Nat.zero_le _) hpl rfl (Nat.le_refl _) (Nat.le_refl _) ?_ (kp4 _ _ hf3) (hcd3.keeps kp4) (hlim3.keeps kp4) ?_ ?_ fun h9 tk9 t9 hk9 => ?_
    · obtain ⟨ps, t0, fl, ca, n0, e1, e2⟩ := hq3
      exact ⟨ps, t0, fl, ca, n0, kp4 _ _ e1, kp4 _ _ e2⟩
    · obtain ⟨ps, t0, fl, ca, n0, e1, e2⟩ := hq3
      exact Nat.ne_of_lt (Heap.lt_size e1)
    · exact Nat.ne_of_lt (Heap.lt_size hf3)
    · intro ht
      have kk : ∀ b o, h1.get? b = some o → h9.get? b = some o := fun b o e => by
        have e3 := hk3 b o (kp2 b o e)
        exact hk9 b o (Nat.ne_of_lt (Heap.lt_size e3)) (kp4 b o e3)
      have hxx : Heap.ExtBut 60 s.heap h9 := fun b o hb e => kk b o (hx1 b o hb e)
      obtain ⟨o60, e60, f60⟩ := h60
      have IF := I.tabGen (s' := { s with heap := h9, toks := tk9 }) (.inr rfl) hxx ⟨o60, kk _ _ e60, f60⟩ (htabs _ kk) I.gens rfl ht
      exact ⟨σ, lo, ah, .str (unesc lx), IF, List.prefix_refl _, I.frz mem_60 hxx, vr_str, h⟩
  have C1 := I.code OK B hC
  have hBA : s.heap.BuiltinsAt mgb 60 := by
    refine ⟨bm, ob, hM1.name, hM1.ne, fun q => ?_, fun q => ?_, hM1.obj, hM1.cls, hM1.dict, hM1.data⟩
    · obtain ⟨o, es, ep, e, hd, _⟩ := hM1.ns
      have e2 := hM1.obj
      rw [q, e] at e2; cases e2
      have h2 := hM1.data
      rw [hd] at h2; cases h2
    · have e := hM1.obj; have h2 := hM1.data
      rcases I.tabs.2 with hP | ⟨_, _, _, _, hP, _⟩ <;> (rw [q, hP] at e; cases e; cases h2)
  rcases I.tabs.2 with hP | ⟨c', oc, vs, t', hP, g1, g2, g3, g4⟩
  · refine mk_fn hcl OK.glo hM1.ns hcode' C1 hP trivial rfl (by decide) hBA fun c' oc vs t' h1 tk hx1 hge hlt g1 g2 g3 g4 htb => ?_
    have htb' : h1.get? 60 = some (tabObj #[rawInt ((39 : Nat) : Int), rawInt ((31 : Nat) : Int), .ref c']) := htb
    refine spliced_cons ?_
    refine wpAny_mono (rest h1 _ tk (.ref c') _ .none hx1 (fun h9 kk => ⟨?_, .inr ⟨c', oc, vs, t', kk _ _ htb', kk _ _ g1, g2, g3, g4⟩⟩) ⟨_, htb', rfl⟩ ⟨c', oc, vs, t', rfl, g1, g3, g4⟩ rfl) (fun v s1 h1' => spliced_nil h1') fun _ _ e => e
    refine I.tabs.1.mono ((I.frz mem_60 hx1).trans (.of_keep kk)) fun o e => kk _ _ (hx1 48 o (by decide) e)
  · refine kla_makeFunctionHit (cv := .ref c') hcl OK.glo hM1.ns hcode' C1 hP trivial (tab_in rfl rfl rfl) hBA fun ctv h1 tk hk1 hsz1 => ?_
    refine spliced_cons ?_
    refine wpAny_mono (rest h1 _ tk (.ref c') _ ctv (fun b o _ e => hk1 b o e) (fun h9 kk => ⟨?_, .inr ⟨c', oc, vs, t', kk _ _ (hk1 _ _ hP), kk _ _ (hk1 _ _ g1), g2, g3, g4⟩⟩) ⟨_, hk1 _ _ hP, rfl⟩ ⟨c', oc, vs, t', rfl, hk1 _ _ g1, g3, g4⟩ rfl) (fun v s1 h1' => spliced_nil h1') fun _ _ e => e
    exact I.tabs.1.mono ((Frz.of_keep hk1).trans (.of_keep kk)) fun o e => kk _ _ (hk1 48 o e)
theorem sp2_ok (B : Base prog w H) (P : Pats H) (G : GxB H) {A : Around} {L a : Addr} {pr : Addr → Obj → Prop} {os : OsState} {lv : Nat} (OK : FOk H (callF A (fdU .uqhv) L a (slU .uqhv) pr os lv)) : SpOk prog w sxP (callF A (fdU .uqhv) L a (slU .uqhv) pr os lv) 2 := by
  refine spOk_call sx2 fun lo ah k h => ?_
  simp only [aSp] at h
  split at h
  · rename_i l hx
    refine W.intro fun σ s I => ?_
    exact core2 B P G OK I hx h.1 h.2.1 ⟨rfl, h.2.2⟩
  · exact h.elim
end Mine
end
section
open PySem PySem.Spec PySem.Calls PyProof.Rows PySem.W PySem.Builtin
set_option maxRecDepth 100000
set_option maxHeartbeats 1000000
namespace Mine
variable {prog : Program} {w : World} {H : Heap} {s : Shared} {F : FC} {σ : List Addr} {lo : Lo} {ah : AH} {ns : List Int}
/-- the whole top, as the functions see it -/
structure TopOk (prog : Program) (w : World) (H : Heap) : Prop where
  base : Base prog w H
  pats : Pats H
  gx : GxB H
  fn : ∀ f : UF, FnAt H f.a (fdU f)
  law : FnAt H 153 fdLaw
  dflt : ∃ n, H.get? 46 = some { cls := .type "tuple", data := .seq #[.bool true] n }
theorem TopOk.gl (T : TopOk prog w H) : Gl prog w H := ⟨T.base, T.pats, fun f => let ⟨⟨o, h1, h2⟩, _⟩ := T.fn f; ⟨o, fdU f, h1, h2⟩, pairOk T.base⟩
theorem fnOk_of (T : TopOk prog w H) (f : UF) {lv : Nat} {core : CS} (S : Stat (fdU f) (slU f) (PU f) ZNo lv core) (hg : (fdU f).globals = mainGlobals) (hb : (fdU f).builtins = builtinsNs) (hc : (fdU f).closure = [])
    (spe : ∀ n, PU f n = true → ∀ A L a pr os lv, FOk H (callF A (fdU f) L a (slU f) pr os lv) → SpOk prog w sxP (callF A (fdU f) L a (slU f) pr os lv) n) :
    FnOk prog w H f.a (fdU f) (slU f) sxP syP (PU f) ZNo ns lv core where
  at_ := T.fn f
  na := by cases f <;> decide
  sc := S.sc
  glo := hg
  bui := hb
  clo := hc
  body := S.body
  chk := S.chk
  spe := fun n h A L a pr os lv OK _ => spe n h A L a pr os lv OK
  sps := fun n h => Bool.noConfusion h
theorem out_str {k : KA} {ah ah2 : AH} {l : T} (h : k (.str l) ah) : ∃ v, AF.ret (.str l) = .ret v ∧ (∀ i < ([] : AH).length, ah2[i]? = ([] : AH)[i]?) ∧ Out ([] : AH).length k ah ah2 v :=
  ⟨_, rfl, fun i hi => absurd hi (Nat.not_lt_zero _), h⟩
theorem out_list {k : KA} {ah ah2 : AH} {j : Nat} {l : List T} (e : getO ah2 j = some (.list (l.map .str))) (h : k (.ref ah.length) (ah ++ [.list (l.map .str)])) : ∃ v, AF.ret (.ref j) = .ret v ∧ (∀ i < ([] : AH).length, ah2[i]? = ([] : AH)[i]?) ∧ Out ([] : AH).length k ah ah2 v :=
  ⟨_, rfl, fun i hi => absurd hi (Nat.not_lt_zero _), Nat.zero_le _, _, e, by show (l.map AV.str).all flatV = true; rw [List.all_eq_true]; intro x hx; obtain ⟨y, _, rfl⟩ := List.mem_map.mp hx; rfl, h⟩
theorem no_u {lv : Nat} (h : lv = 0) : ∀ f : UF, f.lev ≤ lv → UOk prog w H f := fun f hf => by subst h; cases f <;> exact absurd hf (by decide)
theorem u_plain (T : TopOk prog w H) {f : UF} {lv : Nat} {core : CS} (O : FnOk prog w H f.a (fdU f) (slU f) sxP syP (PU f) ZNo [] lv core) (U : ∀ f : UF, f.lev ≤ lv → UOk prog w H f) (UK : UF.unquote.lev ≤ lv → UOkK prog w H)
    (OK : FOk H F) (hlv : lv + 1 ≤ F.lv) (I : Inv prog w F σ lo ah s) {args : Args} {avs : List AV} {vs : List Value} {k : KA}
    (hloc : ((slU f).take vs.length).all (fun x => !x.2) = true) (hlen : vs.length ≤ (slU f).length) (hbind : BindsTo s (fdU f) args (((slU f).map (·.1)).zip vs)) (r : VRs [] s.heap avs vs)
    (h : aS [] core (avs.map some ++ List.replicate ((slU f).length - vs.length) none) [] fun f lo2 ah2 => ∃ v, f = .ret v ∧ (∀ i < ([] : AH).length, ah2[i]? = ([] : AH)[i]?) ∧ Out ([] : AH).length k ah ah2 v) :
    Op prog w F σ lo s (call (.ref f.a) args.pos args.kw) k :=
  u_call (σ0 := []) (ah0 := []) T.gl U UK O OK hlv I (fun _ h => nomatch h) List.nodup_nil (fun _ _ h => by simp at h) rfl hloc hlen hbind r h
theorem fo_text (T : TopOk prog w H) : FnOk prog w H UF.text.a (fdU .text) (slU .text) sxP syP (PU .text) ZNo ns 0 b_text := fnOk_of T .text st_text rfl rfl rfl fun _ h => Bool.noConfusion h
theorem fo_unquote (T : TopOk prog w H) : FnOk prog w H UF.unquote.a (fdU .unquote) (slU .unquote) sxP syP (PU .unquote) ZNo ns 1 b_unquote := fnOk_of T .unquote st_unquote rfl rfl rfl fun _ h => Bool.noConfusion h
theorem fo_qhv (T : TopOk prog w H) : FnOk prog w H UF.qhv.a (fdU .qhv) (slU .qhv) sxP syP (PU .qhv) ZNo ns 0 b_quote_header_value := fnOk_of T .qhv st_qhv rfl rfl rfl fun n h A L a pr os lv OK => by
  match n, h with
  | 1, _ => exact sp1_ok T.base T.gx OK
theorem fo_uqhv (T : TopOk prog w H) : FnOk prog w H UF.uqhv.a (fdU .uqhv) (slU .uqhv) sxP syP (PU .uqhv) ZNo ns 0 b_unquote_header_value := fnOk_of T .uqhv st_uqhv rfl rfl rfl fun n h A L a pr os lv OK => by
  match n, h with
  | 2, _ => exact sp2_ok T.base T.pats T.gx OK
theorem fo_dump (T : TopOk prog w H) : FnOk prog w H UF.dump.a (fdU .dump) (slU .dump) sxP syP (PU .dump) ZNo ns 1 b_dump_options_header := fnOk_of T .dump st_dump rfl rfl rfl fun _ h => Bool.noConfusion h
theorem fo_parse (T : TopOk prog w H) : FnOk prog w H UF.parse.a (fdU .parse) (slU .parse) sxP syP (PU .parse) ZNo ns 2 b_parse_options_header := fnOk_of T .parse st_parse rfl rfl rfl fun n h A L a pr os lv OK => by
  match n, h with
  | 0, _ => exact sp0_ok T.base (T.fn .parse).2 OK
  | 5, _ => exact sp5_ok T.base rfl OK
theorem fo_tongues (T : TopOk prog w H) : FnOk prog w H UF.tongues.a (fdU .tongues) (slU .tongues) sxP syP (PU .tongues) ZNo ns 0 b_law_tongues := fnOk_of T .tongues st_tongues rfl rfl rfl fun _ h => Bool.noConfusion h
theorem fo_spaces (T : TopOk prog w H) : FnOk prog w H UF.spaces.a (fdU .spaces) (slU .spaces) sxP syP (PU .spaces) ZNo ns 0 b_law_spaces := fnOk_of T .spaces st_spaces rfl rfl rfl fun _ h => Bool.noConfusion h
theorem fo_coded (T : TopOk prog w H) : FnOk prog w H UF.coded.a (fdU .coded) (slU .coded) sxP syP (PU .coded) ZNo ns 0 b_law_coded := fnOk_of T .coded st_coded rfl rfl rfl fun _ h => Bool.noConfusion h
theorem fo_quoted (T : TopOk prog w H) : FnOk prog w H UF.quoted.a (fdU .quoted) (slU .quoted) sxP syP (PU .quoted) ZNo ns 0 b_law_quoted := fnOk_of T .quoted st_quoted rfl rfl rfl fun _ h => Bool.noConfusion h
theorem fo_pieces (T : TopOk prog w H) : FnOk prog w H UF.pieces.a (fdU .pieces) (slU .pieces) sxP syP (PU .pieces) ZNo ns 0 b_law_pieces := fnOk_of T .pieces st_pieces rfl rfl rfl fun _ h => Bool.noConfusion h
theorem fo_written (T : TopOk prog w H) : FnOk prog w H UF.written.a (fdU .written) (slU .written) sxP syP (PU .written) ZNo ns 1 b_law_written := fnOk_of T .written st_written rfl rfl rfl fun n h A L a pr os lv OK => by
  match n, h with
  | 3, _ => exact sp3_ok T.base rfl OK
theorem uo_text (T : TopOk prog w H) : UOk prog w H .text := fun F σ lo ah s OK hlv I xs vs k h r => by
  unfold aU at h
  split at h <;> first | (exact h.elim) | (rename_i e1; cases e1; done) | skip
  rename_i b e _
  obtain ⟨hb, he, l, hl, hk⟩ := h
  obtain ⟨v1, _, rfl, r1, r⟩ := r.cons_inv
  obtain ⟨v2, _, rfl, r2, r⟩ := r.cons_inv
  rw [r.nil_inv]
  exact u_plain (args := ⟨[v1, v2], []⟩) T (fo_text T) (no_u rfl) (fun h => absurd h (by decide)) OK hlv I rfl (Nat.le_of_ble_eq_true rfl) (.of_eq (by kernel_rfl)) (.cons (r1.flat rfl) (.cons (r2.flat rfl) .nil)) (bo_text hb he hl fun lo => out_str hk)
theorem uo_qhv (T : TopOk prog w H) : UOk prog w H .qhv := fun F σ lo ah s OK hlv I xs vs k h r => by
  unfold aU at h
  split at h <;> first | (exact h.elim) | (rename_i e1; cases e1; done) | skip
  rename_i l _
  obtain ⟨hl, hk⟩ := h
  obtain ⟨v1, _, rfl, r1, r⟩ := r.cons_inv
  rw [r.nil_inv]
  obtain ⟨n, hn⟩ := T.dflt
  have h46 : s.heap.get? 46 = some { cls := .type "tuple", data := .seq #[.bool true] n } := I.old OK hn (by decide) (by decide)
  exact u_plain (args := ⟨[v1], []⟩) (vs := [v1, .bool true]) (avs := [.str l, .bool true]) T (fo_qhv T) (no_u rfl) (fun h => absurd h (by decide)) OK hlv I rfl (Nat.le_of_ble_eq_true rfl)
    (.of_defaults (T := 46) rfl h46 rfl rfl rfl) (.cons (r1.flat rfl) (.cons vr_bool .nil)) (bo_qhv hl fun lo => out_str hk)
theorem uo_uqhv (T : TopOk prog w H) : UOk prog w H .uqhv := fun F σ lo ah s OK hlv I xs vs k h r => by
  unfold aU at h
  split at h <;> first | (exact h.elim) | (rename_i e1; cases e1; done) | skip
  rename_i l _
  obtain ⟨hl, hk⟩ := h
  obtain ⟨v1, _, rfl, r1, r⟩ := r.cons_inv
  rw [r.nil_inv]
  exact u_plain (args := ⟨[v1], []⟩) T (fo_uqhv T) (no_u rfl) (fun h => absurd h (by decide)) OK hlv I rfl (Nat.le_of_ble_eq_true rfl) (.of_eq (by kernel_rfl)) (.cons (r1.flat rfl) .nil) (bo_uqhv hl fun lo => out_str hk)
theorem uo_tongues (T : TopOk prog w H) : UOk prog w H .tongues := fun F σ lo ah s OK hlv I xs vs k h r => by
  unfold aU at h
  split at h <;> first | (exact h.elim) | (rename_i e1; cases e1; done) | skip
  rw [r.nil_inv]
  exact u_plain (args := ⟨[], []⟩) T (fo_tongues T) (no_u rfl) (fun h => absurd h (by decide)) OK hlv I rfl (Nat.le_of_ble_eq_true rfl) (.of_eq (by kernel_rfl)) .nil (bo_tongues fun lo ah j e => out_list e h)
theorem uo_spaces (T : TopOk prog w H) : UOk prog w H .spaces := fun F σ lo ah s OK hlv I xs vs k h r => by
  unfold aU at h
  split at h <;> first | (exact h.elim) | (rename_i e1; cases e1; done) | skip
  rw [r.nil_inv]
  exact u_plain (args := ⟨[], []⟩) T (fo_spaces T) (no_u rfl) (fun h => absurd h (by decide)) OK hlv I rfl (Nat.le_of_ble_eq_true rfl) (.of_eq (by kernel_rfl)) .nil (bo_spaces fun lo ah j e => out_list e h)
theorem uo_coded (T : TopOk prog w H) : UOk prog w H .coded := fun F σ lo ah s OK hlv I xs vs k h r => by
  unfold aU at h
  split at h <;> first | (exact h.elim) | (rename_i e1; cases e1; done) | skip
  rename_i l kd b _
  obtain ⟨h1, h2, hk⟩ := h
  obtain ⟨v1, _, rfl, r1, r⟩ := r.cons_inv
  obtain ⟨v2, _, rfl, r2, r⟩ := r.cons_inv
  obtain ⟨v3, _, rfl, r3, r⟩ := r.cons_inv
  rw [r.nil_inv]
  exact u_plain (args := ⟨[v1, v2, v3], []⟩) T (fo_coded T) (no_u rfl) (fun h => absurd h (by decide)) OK hlv I rfl (Nat.le_of_ble_eq_true rfl) (.of_eq (by kernel_rfl)) (.cons (r1.flat rfl) (.cons (r2.flat rfl) (.cons (r3.flat rfl) .nil))) (bo_coded h1 h2 fun lo => out_str hk)
theorem uo_quoted (T : TopOk prog w H) : UOk prog w H .quoted := fun F σ lo ah s OK hlv I xs vs k h r => by
  unfold aU at h
  split at h <;> first | (exact h.elim) | (rename_i e1; cases e1; done) | skip
  rename_i l _
  obtain ⟨h1, hk⟩ := h
  obtain ⟨v1, _, rfl, r1, r⟩ := r.cons_inv
  rw [r.nil_inv]
  exact u_plain (args := ⟨[v1], []⟩) T (fo_quoted T) (no_u rfl) (fun h => absurd h (by decide)) OK hlv I rfl (Nat.le_of_ble_eq_true rfl) (.of_eq (by kernel_rfl)) (.cons (r1.flat rfl) .nil) (bo_quoted h1 fun lo => out_str hk)
theorem uo_pieces (T : TopOk prog w H) : UOk prog w H .pieces := fun F σ lo ah s OK hlv I xs vs k h r => by
  unfold aU at h
  split at h <;> first | (exact h.elim) | (rename_i e1; cases e1; done) | skip
  rename_i l d b _
  obtain ⟨h1, h2, h3, hk⟩ := h
  obtain ⟨v1, _, rfl, r1, r⟩ := r.cons_inv
  obtain ⟨v2, _, rfl, r2, r⟩ := r.cons_inv
  obtain ⟨v3, _, rfl, r3, r⟩ := r.cons_inv
  rw [r.nil_inv]
  exact u_plain (args := ⟨[v1, v2, v3], []⟩) T (fo_pieces T) (no_u rfl) (fun h => absurd h (by decide)) OK hlv I rfl (Nat.le_of_ble_eq_true rfl) (.of_eq (by kernel_rfl)) (.cons (r1.flat rfl) (.cons (r2.flat rfl) (.cons (r3.flat rfl) .nil))) (bo_pieces h1 h2 h3 fun lo ah j e => out_list e hk)
theorem u1 (T : TopOk prog w H) : ∀ f : UF, f.lev ≤ 1 → UOk prog w H f
  | .text, _ => uo_text T | .qhv, _ => uo_qhv T | .uqhv, _ => uo_uqhv T | .tongues, _ => uo_tongues T | .spaces, _ => uo_spaces T | .coded, _ => uo_coded T | .quoted, _ => uo_quoted T | .pieces, _ => uo_pieces T
  | .unquote, h => absurd h (by decide) | .dump, h => absurd h (by decide) | .parse, h => absurd h (by decide) | .written, h => absurd h (by decide)
theorem uo_written (T : TopOk prog w H) : UOk prog w H .written := fun F σ lo ah s OK hlv I xs vs k h r => by
  unfold aU at h
  split at h <;> first | (exact h.elim) | (rename_i e1; cases e1; done) | skip
  rename_i n l d b _
  obtain ⟨h1, h2, h3, h4, h5, hk⟩ := h
  obtain ⟨v1, _, rfl, r1, r⟩ := r.cons_inv
  obtain ⟨v2, _, rfl, r2, r⟩ := r.cons_inv
  obtain ⟨v3, _, rfl, r3, r⟩ := r.cons_inv
  obtain ⟨v4, _, rfl, r4, r⟩ := r.cons_inv
  rw [r.nil_inv]
  exact u_plain (args := ⟨[v1, v2, v3, v4], []⟩) T (fo_written T) (u1 T) (fun h => absurd h (by decide)) OK hlv I rfl (Nat.le_of_ble_eq_true rfl) (.of_eq (by kernel_rfl)) (.cons (r1.flat rfl) (.cons (r2.flat rfl) (.cons (r3.flat rfl) (.cons (r4.flat rfl) .nil)))) (bo_written h1 h2 h3 h4 h5 fun lo ah j e => out_list e hk)
theorem uo_unquote (T : TopOk prog w H) : UOk prog w H .unquote := fun F σ lo ah s OK hlv I xs vs k h r => by
  unfold aU at h
  split at h <;> first | (exact h.elim) | (rename_i e1; cases e1; done) | skip
  rename_i x e _
  obtain ⟨hb, he, l, hl, hk⟩ := h
  obtain ⟨v1, _, rfl, r1, r⟩ := r.cons_inv
  obtain ⟨v2, _, rfl, r2, r⟩ := r.cons_inv
  rw [r.nil_inv]
  exact u_plain (args := ⟨[v1, v2], []⟩) T (fo_unquote T) (u1 T) (fun h => absurd h (by decide)) OK hlv I rfl (Nat.le_of_ble_eq_true rfl) (.of_eq (by kernel_rfl)) (.cons (r1.flat rfl) (.cons (r2.flat rfl) .nil)) (bo_unquote hb he hl fun lo => out_str hk)
theorem uo_unquoteK (T : TopOk prog w H) : UOkK prog w H := fun F σ lo ah s OK hlv I x y v u k h r1 r2 => by
  unfold aU at h
  split at h <;> first | (exact h.elim) | (rename_i e1 e2; cases e1; done) | skip
  rename_i hq
  cases hq
  obtain ⟨hb, he, l, hl, hk⟩ := h
  exact u_plain (args := ⟨[v], [("encoding", u)]⟩) T (fo_unquote T) (u1 T) (fun h => absurd h (by decide)) OK hlv I (vs := [v, u]) rfl (Nat.le_of_ble_eq_true rfl) (.of_eq (by kernel_rfl)) (.cons (r1.flat rfl) (.cons (r2.flat rfl) .nil)) (bo_unquote hb he hl fun lo => out_str hk)
theorem vals_flat : ∀ {es : List (T × AV)} {xs : List (T × T)}, valsOf es = some xs → (es.all fun e => flatV e.2) = true
  | [], _, _ => rfl
  | (k, a) :: r, xs, h => by
    cases a <;> first | (cases h; done) | skip
    cases q : valsOf r with
    | none => simp only [valsOf, q] at h; cases h
    | some ys => rw [List.all_cons, vals_flat q]; rfl
theorem uo_dump (T : TopOk prog w H) : UOk prog w H .dump := fun F σ lo ah s OK hlv I xs vs k h r => by
  unfold aU at h
  split at h <;> first | (exact h.elim) | (rename_i e1; cases e1; done) | skip
  rename_i hd o _
  obtain ⟨es, ep, ys, ho, hv, h1, h2, h3, hk⟩ := h
  obtain ⟨v1, _, rfl, r1, r⟩ := r.cons_inv
  obtain ⟨v2, _, rfl, r2, r⟩ := r.cons_inv
  rw [r.nil_inv]
  obtain ⟨a, ha, rfl⟩ := vr_ref_inv r2
  rw [getO_eq] at ho
  refine u_call (args := ⟨[v1, .ref a], []⟩) (σ0 := [a]) (ah0 := [.dict es ep]) (avs := [.str hd, .ref 0]) (vs := [v1, .ref a]) (lv := 1) T.gl (u1 T) (fun h => absurd h (by decide)) (fo_dump (ns := []) T) OK hlv I (fun b hb => ?_) (List.nodup_cons.mpr ⟨List.not_mem_nil, List.nodup_nil⟩) (fun i b e => ?_) rfl rfl (Nat.le_of_ble_eq_true rfl)
    (.of_eq (by kernel_rfl)) (.cons (r1.flat rfl) (.cons (vr_ref rfl) .nil)) (bo_dump hv h1 h2 h3 fun lo ex => ⟨_, rfl, fun i hi => ?_, hk⟩)
  · rw [List.mem_singleton] at hb; rw [hb]; exact List.mem_of_getElem? ha
  · match i, e with
    | 0, e =>
      cases e
      exact ⟨o, .dict es ep, ha, ho, rfl, vals_flat hv⟩
  · match i, hi with
    | 0, _ => rfl
theorem u2 (T : TopOk prog w H) : ∀ f : UF, f.lev ≤ 2 → UOk prog w H f
  | .text, _ => uo_text T | .qhv, _ => uo_qhv T | .uqhv, _ => uo_uqhv T | .tongues, _ => uo_tongues T | .spaces, _ => uo_spaces T | .coded, _ => uo_coded T | .quoted, _ => uo_quoted T | .pieces, _ => uo_pieces T
  | .unquote, _ => uo_unquote T | .dump, _ => uo_dump T | .written, _ => uo_written T | .parse, h => absurd h (by decide)
theorem vs_flat : ∀ es : List (T × T), ((es.map vS).all fun e => flatV e.2) = true
  | [] => rfl
  | e :: r => by rw [List.map_cons, List.all_cons, vs_flat r]; rfl
theorem uo_parse (T : TopOk prog w H) : UOk prog w H .parse := fun F σ lo ah s OK hlv I xs vs k h r => by
  unfold aU at h
  split at h <;> first | (exact h.elim) | (rename_i e1; cases e1; done) | skip
  rename_i l _
  obtain ⟨h1, v, es, hp, hk⟩ := h
  obtain ⟨v1, _, rfl, r1, r⟩ := r.cons_inv
  rw [r.nil_inv]
  refine u_plain (args := ⟨[v1], []⟩) T (fo_parse T) (u2 T) (fun _ => uo_unquoteK T) OK hlv I rfl (Nat.le_of_ble_eq_true rfl) (.of_eq (by kernel_rfl)) (.cons (r1.flat rfl) .nil) (bo_parse h1 hp fun lo ah2 j ep e => ⟨_, rfl, fun i hi => absurd hi (Nat.not_lt_zero _), Nat.zero_le _, _, e, vs_flat es, hk ep⟩)
theorem u3 (T : TopOk prog w H) : ∀ f : UF, UOk prog w H f
  | .text => uo_text T | .qhv => uo_qhv T | .uqhv => uo_uqhv T | .tongues => uo_tongues T | .spaces => uo_spaces T | .coded => uo_coded T | .quoted => uo_quoted T | .pieces => uo_pieces T
  | .unquote => uo_unquote T | .dump => uo_dump T | .written => uo_written T | .parse => uo_parse T
end Mine
end
section
open PySem PySem.Spec PySem.Calls PyProof.Rows PySem.W PySem.Builtin
set_option maxRecDepth 100000
set_option maxHeartbeats 4000000
namespace Mine
/-- the part of the heap that the law reaches, as the top leaves it -/
def kAt (P : Params) : Frag :=
  [(3, { cls := .type "dict", data := .dict #[{ hash := PyData.keyHash P "__name__", key := .str "__name__" 165, val := .str "law_ez0418_01" 593 }, { hash := PyData.keyHash P "__doc__", key := .str "__doc__" 166, val := .none }, { hash := PyData.keyHash P "__package__", key := .str "__package__" 167, val := .none }, { hash := PyData.keyHash P "__loader__", key := .str "__loader__" 168, val := .builtin "__main__.__loader__#opaque" }, { hash := PyData.keyHash P "__spec__", key := .str "__spec__" 169, val := .none }, { hash := PyData.keyHash P "__annotations__", key := .str "__annotations__" 170, val := .ref 6 }, { hash := PyData.keyHash P "__builtins__", key := .str "__builtins__" 171, val := .ref 4 }, { hash := PyData.keyHash P "__file__", key := .str "__file__" 173, val := .str "/claim/cut.py" 172 }, { hash := PyData.keyHash P "__cached__", key := .str "__cached__" 174, val := .none }, { hash := PyData.keyHash P "_sre", key := .str "_sre" 275, val := .ref 12 }, { hash := PyData.keyHash P "_DIGITS", key := .str "_DIGITS" 285, val := .str "0123456789ABCDEFabcdef" 284 }, { hash := PyData.keyHash P "_text", key := .str "_text" 293, val := .ref 38 }, { hash := PyData.keyHash P "unquote", key := .str "unquote" 304, val := .ref 45 }, { hash := PyData.keyHash P "_token_chars", key := .str "_token_chars" 308, val := .str "!#$%&'*+-.0123456789ABCDEFGHIJKLMNOPQRSTUVWXYZ^_`abcdefghijklmnopqrstuvwxyz|~" 307 }, { hash := PyData.keyHash P "quote_header_value", key := .str "quote_header_value" 318, val := .ref 53 }, { hash := PyData.keyHash P "_unslash_re", key := .str "_unslash_re" 341, val := .ref 58 }, { hash := PyData.keyHash P "unquote_header_value", key := .str "unquote_header_value" 348, val := .ref 65 }, { hash := PyData.keyHash P "dump_options_header", key := .str "dump_options_header" 359, val := .ref 72 }, { hash := PyData.keyHash P "_parameter_key_re", key := .str "_parameter_key_re" 396, val := .ref 77 }, { hash := PyData.keyHash P "_parameter_mark_re", key := .str "_parameter_mark_re" 442, val := .ref 82 }, { hash := PyData.keyHash P "_parameter_token_value_re", key := .str "_parameter_token_value_re" 473, val := .ref 87 }, { hash := PyData.keyHash P "_charset_value_re", key := .str "_charset_value_re" 556, val := .ref 92 }, { hash := PyData.keyHash P "_parameter_delimiter_re", key := .str "_parameter_delimiter_re" 586, val := .ref 97 }, { hash := PyData.keyHash P "parse_options_header", key := .str "parse_options_header" 592, val := .ref 102 }, { hash := PyData.keyHash P "_law_signs", key := .str "_law_signs" 609, val := .ref 103 }, { hash := PyData.keyHash P "_law_names", key := .str "_law_names" 613, val := .ref 104 }, { hash := PyData.keyHash P "_law_charsets", key := .str "_law_charsets" 620, val := .ref 108 }, { hash := PyData.keyHash P "_law_tongues", key := .str "_law_tongues" 626, val := .ref 115 }, { hash := PyData.keyHash P "_law_spaces", key := .str "_law_spaces" 632, val := .ref 122 }, { hash := PyData.keyHash P "_law_coded", key := .str "_law_coded" 643, val := .ref 129 }, { hash := PyData.keyHash P "_law_quoted", key := .str "_law_quoted" 650, val := .ref 136 }, { hash := PyData.keyHash P "_law_pieces", key := .str "_law_pieces" 660, val := .ref 143 }, { hash := PyData.keyHash P "_law_written", key := .str "_law_written" 666, val := .ref 148 }, { hash := PyData.keyHash P "law", key := .str "law" 672, val := .ref 153 }] 34 }),
   (37, { cls := .type "code", data := .fields #[.str "_text" 286, .str "_text" 287, .str "/claim/cut.py" 288, .int 4 0, .int 2 0, .int 0 0, .int 0 0, .int 3 0, .ref 32, .bool true, .int 276 0, .ref 33, .none, .ref 34, .ref 35, .ref 36, .int 291 0, .int 4 0, .str "/claim/cut.py" 292] }),
   (38, { cls := .type "function", data := .func (fdU .text) }),
   (44, { cls := .type "code", data := .fields #[.str "unquote" 294, .str "unquote" 295, .str "/claim/cut.py" 296, .int 10 0, .int 2 0, .int 0 0, .int 0 0, .int 3 0, .ref 39, .bool true, .int 276 0, .ref 40, .none, .ref 41, .ref 42, .ref 43, .int 302 0, .int 10 0, .str "/claim/cut.py" 303] }),
   (45, { cls := .type "function", data := .func (fdU .unquote) }),
   (46, { cls := .type "tuple", data := .seq #[.bool true] }),
   (52, { cls := .type "code", data := .fields #[.str "quote_header_value" 309, .str "quote_header_value" 310, .str "/claim/cut.py" 311, .int 26 0, .int 2 0, .int 0 0, .int 0 0, .int 3 0, .ref 47, .bool true, .int 276 0, .ref 48, .none, .ref 49, .ref 50, .ref 51, .int 316 0, .int 26 0, .str "/claim/cut.py" 317] }),
   (53, { cls := .type "function", data := .func (fdU .qhv) }),
   (57, { cls := .type "tuple", data := .seq #[.int 14 0, .int 8 0, .int 1 0, .int 2 0, .int 2 0, .int 1 0, .int 1 0, .int 92 0, .int 0 0, .int 16 0, .int 92 0, .int 17 0, .int 0 0, .int 2 0, .int 17 0, .int 1 0, .int 1 0] }),
   (58, { cls := .type "re.Pattern", data := .fields #[.str "\\\\(.)" 320, .int 256 340, .int 1 0, .none, .none, .ref 57, .int 0 0] }),
   (64, { cls := .type "code", data := .fields #[.str "unquote_header_value" 342, .str "unquote_header_value" 343, .str "/claim/cut.py" 344, .int 37 0, .int 1 0, .int 0 0, .int 0 0, .int 3 0, .ref 59, .bool true, .int 276 0, .ref 60, .none, .ref 61, .ref 62, .ref 63, .int 346 0, .int 37 0, .str "/claim/cut.py" 347] }),
   (65, { cls := .type "function", data := .func (fdU .uqhv) }),
   (71, { cls := .type "code", data := .fields #[.str "dump_options_header" 349, .str "dump_options_header" 350, .str "/claim/cut.py" 351, .int 41 0, .int 2 0, .int 0 0, .int 0 0, .int 3 0, .ref 66, .bool true, .int 276 0, .ref 67, .none, .ref 68, .ref 69, .ref 70, .int 357 0, .int 41 0, .str "/claim/cut.py" 358] }),
   (72, { cls := .type "function", data := .func (fdU .dump) }),
   (76, { cls := .type "tuple", data := .seq #[.int 14 0, .int 4 0, .int 0 0, .int 2 0, .int 4294967295 0, .int 17 0, .int 0 0, .int 24 0, .int 18 0, .int 1 0, .int 4294967295 0, .int 13 0, .int 13 0, .int 9 0, .int 0 0, .int 27898 0, .int 1073741824 0, .int 1342177281 0, .int 0 0, .int 0 0, .int 0 0, .int 0 0, .int 8 0, .int 4 0, .int 0 0, .int 1 0, .int 17 0, .int 1 0, .int 16 0, .int 61 0, .int 1 0] }),
   (77, { cls := .type "re.Pattern", data := .fields #[.str "([\\w!#$%&'*+\\-.^`|~]+)=" 361, .int 256 395, .int 1 0, .none, .none, .ref 76, .int 0 0] }),
   (81, { cls := .type "tuple", data := .seq #[.int 14 0, .int 4 0, .int 0 0, .int 0 0, .int 4294967295 0, .int 23 0, .int 19 0, .int 0 0, .int 1 0, .int 16 0, .int 42 0, .int 17 0, .int 0 0, .int 24 0, .int 9 0, .int 1 0, .int 4294967295 0, .int 13 0, .int 4 0, .int 8 0, .int 0 0, .int 0 0, .int 1 0, .int 17 0, .int 1 0, .int 18 0, .int 23 0, .int 9 0, .int 0 0, .int 1 0, .int 17 0, .int 2 0, .int 16 0, .int 42 0, .int 17 0, .int 3 0, .int 18 0, .int 6 0, .int 5 0, .int 1 0] }),
   (82, { cls := .type "re.Pattern", data := .fields #[.str "(?:\\*(\\d+))?(\\*)?$" 398, .int 256 441, .int 2 0, .none, .none, .ref 81, .int 0 0] }),
   (86, { cls := .type "tuple", data := .seq #[.int 14 0, .int 4 0, .int 0 0, .int 1 0, .int 4294967295 0, .int 24 0, .int 18 0, .int 1 0, .int 4294967295 0, .int 13 0, .int 13 0, .int 9 0, .int 0 0, .int 27898 0, .int 1073741824 0, .int 1342177281 0, .int 0 0, .int 0 0, .int 0 0, .int 0 0, .int 8 0, .int 4 0, .int 0 0, .int 1 0, .int 1 0] }),
   (87, { cls := .type "re.Pattern", data := .fields #[.str "[\\w!#$%&'*+\\-.^`|~]+" 444, .int 256 472, .int 0 0, .none, .none, .ref 86, .int 0 0] }),
   (91, { cls := .type "tuple", data := .seq #[.int 14 0, .int 4 0, .int 0 0, .int 3 0, .int 4294967295 0, .int 17 0, .int 0 0, .int 24 0, .int 18 0, .int 0 0, .int 4294967295 0, .int 13 0, .int 13 0, .int 9 0, .int 0 0, .int 27770 0, .int 1073741824 0, .int 1342177281 0, .int 0 0, .int 0 0, .int 0 0, .int 0 0, .int 8 0, .int 4 0, .int 0 0, .int 1 0, .int 17 0, .int 1 0, .int 16 0, .int 39 0, .int 24 0, .int 18 0, .int 0 0, .int 4294967295 0, .int 13 0, .int 13 0, .int 9 0, .int 0 0, .int 27770 0, .int 1073741824 0, .int 1342177281 0, .int 0 0, .int 0 0, .int 0 0, .int 0 0, .int 8 0, .int 4 0, .int 0 0, .int 1 0, .int 16 0, .int 39 0, .int 17 0, .int 2 0, .int 24 0, .int 18 0, .int 1 0, .int 4294967295 0, .int 13 0, .int 13 0, .int 9 0, .int 0 0, .int 27898 0, .int 1073741824 0, .int 1342177281 0, .int 0 0, .int 0 0, .int 0 0, .int 0 0, .int 8 0, .int 4 0, .int 0 0, .int 1 0, .int 17 0, .int 3 0, .int 6 0, .int 5 0, .int 1 0] }),
   (92, { cls := .type "re.Pattern", data := .fields #[.str "([\\w!#$%&*+\\-.^`|~]*)'[\\w!#$%&*+\\-.^`|~]*'([\\w!#$%&'*+\\-.^`|~]+)$" 475, .int 256 555, .int 2 0, .none, .none, .ref 91, .int 0 0] }),
   (96, { cls := .type "tuple", data := .seq #[.int 14 0, .int 8 0, .int 1 0, .int 1 0, .int 4294967295 0, .int 1 0, .int 1 0, .int 59 0, .int 0 0, .int 16 0, .int 59 0, .int 24 0, .int 11 0, .int 0 0, .int 4294967295 0, .int 13 0, .int 6 0, .int 16 0, .int 32 0, .int 16 0, .int 9 0, .int 0 0, .int 1 0, .int 1 0] }),
   (97, { cls := .type "re.Pattern", data := .fields #[.str ";[ \\t]*" 558, .int 32 585, .int 0 0, .none, .none, .ref 96, .int 0 0] }),
   (101, { cls := .type "code", data := .fields #[.str "parse_options_header" 587, .str "parse_options_header" 588, .str "/claim/cut.py" 589, .int 58 0, .int 1 0, .int 0 0, .int 0 0, .int 3 0, .ref 98, .bool true, .int 276 0, .ref 99, .none, .none, .none, .ref 100, .int 590 0, .int 58 0, .str "/claim/cut.py" 591] }),
   (102, { cls := .type "function", data := .func (fdU .parse) }),
   (103, { cls := .type "list", data := .seq #[.str "a" 595, .str "Z" 596, .str "7" 597, .str "-" 598, .str " " 599, .str ";" 600, .str "," 601, .str "=" 602, .str "\"" 603, .str "\\" 604, .str "'" 605, .str "*" 606, .str "é" 607, .str "€" 608] }),
   (104, { cls := .type "list", data := .seq #[.str "name" 610, .str "b" 611, .str "file-1" 612] }),
   (105, { cls := .type "list", data := .seq #[.str "UTF-8" 614, .str "utf-8" 615] }),
   (106, { cls := .type "list", data := .seq #[.str "ISO-8859-1" 616, .str "iso-8859-1" 617] }),
   (107, { cls := .type "list", data := .seq #[.str "us-ascii" 618, .str "ASCII" 619] }),
   (108, { cls := .type "list", data := .seq #[.ref 105, .ref 106, .ref 107] }),
   (114, { cls := .type "code", data := .fields #[.str "_law_tongues" 621, .str "_law_tongues" 622, .str "/claim/cut.py" 623, .int 133 0, .int 0 0, .int 0 0, .int 0 0, .int 3 0, .ref 109, .bool true, .int 276 0, .ref 110, .none, .ref 111, .ref 112, .ref 113, .int 624 0, .int 133 0, .str "/claim/cut.py" 625] }),
   (115, { cls := .type "function", data := .func (fdU .tongues) }),
   (121, { cls := .type "code", data := .fields #[.str "_law_spaces" 627, .str "_law_spaces" 628, .str "/claim/cut.py" 629, .int 135 0, .int 0 0, .int 0 0, .int 0 0, .int 3 0, .ref 116, .bool true, .int 276 0, .ref 117, .none, .ref 118, .ref 119, .ref 120, .int 630 0, .int 135 0, .str "/claim/cut.py" 631] }),
   (122, { cls := .type "function", data := .func (fdU .spaces) }),
   (128, { cls := .type "code", data := .fields #[.str "_law_coded" 633, .str "_law_coded" 634, .str "/claim/cut.py" 635, .int 137 0, .int 3 0, .int 0 0, .int 0 0, .int 3 0, .ref 123, .bool true, .int 276 0, .ref 124, .none, .ref 125, .ref 126, .ref 127, .int 641 0, .int 137 0, .str "/claim/cut.py" 642] }),
   (129, { cls := .type "function", data := .func (fdU .coded) }),
   (135, { cls := .type "code", data := .fields #[.str "_law_quoted" 644, .str "_law_quoted" 645, .str "/claim/cut.py" 646, .int 149 0, .int 1 0, .int 0 0, .int 0 0, .int 3 0, .ref 130, .bool true, .int 276 0, .ref 131, .none, .ref 132, .ref 133, .ref 134, .int 648 0, .int 149 0, .str "/claim/cut.py" 649] }),
   (136, { cls := .type "function", data := .func (fdU .quoted) }),
   (142, { cls := .type "code", data := .fields #[.str "_law_pieces" 651, .str "_law_pieces" 652, .str "/claim/cut.py" 653, .int 151 0, .int 3 0, .int 0 0, .int 0 0, .int 3 0, .ref 137, .bool true, .int 276 0, .ref 138, .none, .ref 139, .ref 140, .ref 141, .int 658 0, .int 151 0, .str "/claim/cut.py" 659] }),
   (143, { cls := .type "function", data := .func (fdU .pieces) }),
   (147, { cls := .type "code", data := .fields #[.str "_law_written" 661, .str "_law_written" 662, .str "/claim/cut.py" 663, .int 158 0, .int 4 0, .int 0 0, .int 0 0, .int 3 0, .ref 144, .bool true, .int 276 0, .ref 145, .none, .none, .none, .ref 146, .int 664 0, .int 158 0, .str "/claim/cut.py" 665] }),
   (148, { cls := .type "function", data := .func (fdU .written) }),
   (152, { cls := .type "code", data := .fields #[.str "law" 667, .str "law" 668, .str "/claim/cut.py" 669, .int 173 0, .int 1 0, .int 0 0, .int 0 0, .int 3 0, .ref 149, .bool true, .int 276 0, .ref 150, .none, .none, .none, .ref 151, .int 670 0, .int 173 0, .str "/claim/cut.py" 671] }),
   (153, { cls := .type "function", data := .func fdLaw })]
def kAs : List Addr := [3, 37, 38, 44, 45, 46, 52, 53, 57, 58, 64, 65, 71, 72, 76, 77, 81, 82, 86, 87, 91, 92, 96, 97, 101, 102, 103, 104, 105, 106, 107, 108, 114, 115, 121, 122, 128, 129, 135, 136, 142, 143, 147, 148, 152, 153]
theorem kAs_ok : ∀ P, kAs = (kAt P).map (·.1) := fun _ => by kernel_rfl
end Mine
end
section
open PySem PySem.Spec PySem.Calls PyProof.Rows PySem.W PySem.Builtin
set_option maxRecDepth 100000
namespace Mine
/-! ## the plain law: the scan of a written line -/
theorem esc_cons (c : Nat) (r : T) : esc (c :: r) = (if c = 92 then [92, 92] else if c = 34 then [92, 34] else [c]) ++ esc r := by
  unfold esc repl1
  rw [List.flatMap_cons, List.flatMap_append]
  congr 1
  by_cases h : c = 92
  · subst h; rfl
  · rw [if_neg h, if_neg h]
    by_cases h2 : c = 34
    · subst h2; rfl
    · rw [if_neg h2]; simp [h2]
theorem esc_nil : esc [] = [] := rfl
theorem unesc_esc : ∀ l : T, unesc (esc l) = l
  | [] => rfl
  | c :: r => by
    have ih := unesc_esc r
    rw [esc_cons]
    by_cases h : c = 92
    · subst h
      rw [if_pos rfl]
      show unesc (92 :: 92 :: esc r) = _
      rw [unesc, if_pos (by decide), ih]
    · rw [if_neg h]
      by_cases h2 : c = 34
      · subst h2
        rw [if_pos rfl]
        show unesc (92 :: 34 :: esc r) = _
        rw [unesc, if_pos (by decide), ih]
      · rw [if_neg h2]
        show unesc (c :: esc r) = _
        cases he : esc r with
        | nil => rw [he] at ih; rw [unesc, ← ih]; rfl
        | cons d r' => rw [unesc, if_neg (fun q => h q.1), ← he, ih]
theorem qscan_esc : ∀ (l rest : T), qscan (esc l ++ 34 :: rest) = some (esc l ++ [34], rest)
  | [], rest => qs_end
  | c :: r, rest => by
    have ih := qscan_esc r rest
    rw [esc_cons]
    by_cases h : c = 92
    · subst h
      rw [if_pos rfl]
      show qscan (92 :: 92 :: (esc r ++ 34 :: rest)) = _
      rw [qs_two rfl (.inl rfl), ih]; rfl
    · rw [if_neg h]
      by_cases h2 : c = 34
      · subst h2
        rw [if_pos rfl]
        show qscan (92 :: 34 :: (esc r ++ 34 :: rest)) = _
        rw [qs_two rfl (.inr rfl), ih]; rfl
      · rw [if_neg h2]
        show qscan (c :: (esc r ++ 34 :: rest)) = _
        rw [qs_one h2 (fun d r' _ q => h q.1), ih]; rfl
theorem twP_app {p : Nat → Bool} : ∀ {a : T} (b : T), (∀ x ∈ a, p x = true) → (∀ x, b.head? = some x → p x = false) → (a ++ b).takeWhile p = a
  | [], [], _, _ => rfl
  | [], x :: b, _, h => by rw [List.nil_append, List.takeWhile_cons_of_neg (by rw [h x rfl]; decide)]
  | y :: a, b, h1, h2 => by
    rw [List.cons_append, List.takeWhile_cons_of_pos (h1 y (List.mem_cons_self ..)), twP_app b (fun x hx => h1 x (List.mem_cons_of_mem _ hx)) h2]
/-- a part of a line: a key, a value -/
structure PartOk (e : T × T) : Prop where
  kne : e.1 ≠ []
  ktok : ∀ x ∈ e.1, tokC x = true
  val : (e.2 ≠ [] ∧ ∀ x ∈ e.2, tokC x = true) ∨ ∃ l, e.2 = quotedF l
def ptx (e : T × T) : T := e.1 ++ 61 :: e.2
def flatB (bet : T) (es : List (T × T)) : T := es.flatMap fun e => bet ++ ptx e
def body (bet : T) : List (T × T) → T
  | [] => []
  | e :: r => ptx e ++ flatB bet r
def bet0 (bet : T) : T := (bet.dropWhile (· != 59)).drop 1
def entF (bet b : T) : T := (bet0 bet ++ b).dropWhile spt
theorem delim_pre : ∀ (a b : T), (∀ x ∈ a, x ≠ 59) → delim (a ++ b) = delim b
  | [], _, _ => rfl
  | x :: a, b, h => by
    show (if x = 59 then some ((a ++ b).dropWhile spt) else delim (a ++ b)) = _
    rw [if_neg (h x (List.mem_cons_self ..)), delim_pre a b fun y hy => h y (List.mem_cons_of_mem _ hy)]
theorem delim_bet {bet : T} (hb : bet ∈ spaces) (d : T) : delim (bet ++ d) = some (entF bet d) := by
  unfold spaces at hb
  simp only [List.mem_cons, List.not_mem_nil, or_false] at hb
  rcases hb with rfl | rfl | rfl | rfl | rfl <;> rfl
theorem tok59 {x : Nat} (h : tokC x = true) : x ≠ 59 ∧ spt x = false ∧ x ≠ 61 ∧ x ≠ 34 := by
  refine ⟨?_, ?_, ?_, ?_⟩
  · rintro rfl; exact absurd h (by decide)
  · cases q : spt x with
    | false => rfl
    | true =>
      unfold spt at q
      rw [Bool.or_eq_true, beq_iff_eq, beq_iff_eq] at q
      rcases q with rfl | rfl <;> exact absurd h (by decide)
  · rintro rfl; exact absurd h (by decide)
  · rintro rfl; exact absurd h (by decide)
theorem bet_head {bet : T} (hb : bet ∈ spaces) : ∀ x, bet.head? = some x → tokC x = false := by
  unfold spaces at hb
  simp only [List.mem_cons, List.not_mem_nil, or_false] at hb
  rcases hb with rfl | rfl | rfl | rfl | rfl <;> (intro x hx; cases hx; decide)
theorem flat_head {bet : T} (hb : bet ∈ spaces) (es : List (T × T)) : ∀ x, (flatB bet es).head? = some x → tokC x = false := by
  cases es with
  | nil => intro x hx; cases hx
  | cons e r =>
    intro x hx
    have hne : bet ≠ [] := by rintro rfl; exact absurd hb (by decide)
    obtain ⟨y, ys, rfl⟩ := List.exists_cons_of_ne_nil hne
    exact bet_head hb x (by unfold flatB at hx; rw [List.flatMap_cons] at hx; exact hx)
/-- behind a value: the next part -/
theorem goOn_flat {bet : T} (hb : bet ∈ spaces) (N : Nat) (pre : T) (hpre : ∀ x ∈ pre, x ≠ 59) (es : List (T × T)) : goOn N (pre ++ flatB bet es) = match es with | [] => [] | _ :: _ => scan N (entF bet (body bet es)) := by
  unfold goOn
  rw [delim_pre _ _ hpre]
  cases es with
  | nil => rfl
  | cons e r =>
    have : flatB bet (e :: r) = bet ++ body bet (e :: r) := by
      unfold flatB body flatB; rw [List.flatMap_cons, List.append_assoc]
    rw [this, delim_bet hb]
theorem scan_part {bet : T} (hb : bet ∈ spaces) (N : Nat) (e : T × T) (he : PartOk e) (r : List (T × T)) : scan (N + 1) (body bet (e :: r)) = (e.1.map lowC, e.2) :: match r with | [] => [] | _ :: _ => scan N (entF bet (body bet r)) := by
  have hd : body bet (e :: r) = e.1 ++ (61 :: (e.2 ++ flatB bet r)) := by
    show ptx e ++ flatB bet r = _
    unfold ptx; rw [List.append_assoc]; rfl
  have hm : e.1 = (body bet (e :: r)).takeWhile tokC := by
    rw [hd, twP_app _ he.ktok fun x hx => by cases hx; decide]
  have hdr : (body bet (e :: r)).drop e.1.length = 61 :: (e.2 ++ flatB bet r) := by rw [hd, List.drop_left]
  have hdr1 : (body bet (e :: r)).drop (e.1.length + 1) = e.2 ++ flatB bet r := by rw [← List.drop_drop, hdr]; rfl
  have hne : body bet (e :: r) ≠ [] := by rw [hd]; simp
  rcases he.val with ⟨h1, h2⟩ | ⟨l, hl⟩
  · have hm1 : e.2 = ((body bet (e :: r)).drop (e.1.length + 1)).takeWhile tokC := by rw [hdr1, twP_app _ h2 (flat_head hb r)]
    rw [scan_tok hne hm he.kne (by rw [hdr]; rfl) hm1 h1, hdr1, goOn_flat hb N _ fun x hx => (tok59 (h2 x hx)).1]
  · have e1 : e.2 ++ flatB bet r = 34 :: (esc l ++ 34 :: flatB bet r) := by rw [hl]; unfold quotedF; simp
    have hq : qscan (((body bet (e :: r)).drop (e.1.length + 1)).drop 1) = some (esc l ++ [34], flatB bet r) := by
      rw [hdr1, e1]; exact qscan_esc l _
    have e3 : e.2 = 34 :: (esc l ++ [34]) := by rw [hl]; rfl
    rw [scan_quo hne hm he.kne (by rw [hdr]; rfl) (by rw [hdr1, e1]; rfl) (by rw [hdr1, e1]; rfl) hq, ← e3]
    have := goOn_flat hb N [] (fun _ h => (nomatch h)) r
    rw [List.nil_append] at this
    rw [this]
theorem body_head {bet : T} {e : T × T} (he : PartOk e) (r : List (T × T)) : ∃ x xs, body bet (e :: r) = x :: xs ∧ tokC x = true := by
  obtain ⟨y, ys, hy⟩ := List.exists_cons_of_ne_nil he.kne
  refine ⟨y, ys ++ 61 :: e.2 ++ flatB bet r, ?_, he.ktok y (by rw [hy]; exact List.mem_cons_self ..)⟩
  show ptx e ++ flatB bet r = _
  unfold ptx; rw [hy]; simp
theorem scan_parts {bet : T} (hb : bet ∈ spaces) : ∀ (es : List (T × T)) (N : Nat), (∀ e ∈ es, PartOk e) → es ≠ [] → 2 * es.length ≤ N → scan N (entF bet (body bet es)) = es.map fun e => (e.1.map lowC, e.2)
  | [], _, _, h, _ => absurd rfl h
  | e :: r, N, hp, _, hN => by
    have he := hp e (List.mem_cons_self ..)
    obtain ⟨x, xs, hx, hxt⟩ := body_head (bet := bet) he r
    have hsp := (tok59 hxt).2.1
    have hlen : (e :: r).length = r.length + 1 := rfl
    obtain ⟨M, rfl⟩ : ∃ M, N = M + 2 := ⟨N - 2, by omega⟩
    have last : ∀ M', 2 * r.length ≤ M' → scan (M' + 1) (body bet (e :: r)) = (e :: r).map fun e => (e.1.map lowC, e.2) := by
      intro M' hM
      rw [scan_part hb M' e he r, List.map_cons]
      congr 1
      cases r with
      | nil => rfl
      | cons e2 r2 => exact scan_parts hb (e2 :: r2) M' (fun e h => hp e (List.mem_cons_of_mem _ h)) (by simp) hM
    have dw : (body bet (e :: r)).dropWhile spt = body bet (e :: r) := by rw [hx, List.dropWhile_cons_of_neg (by rw [hsp]; decide)]
    have hb' := hb
    unfold spaces at hb'
    simp only [List.mem_cons, List.not_mem_nil, or_false] at hb'
    rcases hb' with rfl | rfl | rfl | rfl | rfl
    · have : entF [59, 32] (body [59, 32] (e :: r)) = body [59, 32] (e :: r) := dw
      rw [this]; exact last _ (by omega)
    · have : entF [59] (body [59] (e :: r)) = body [59] (e :: r) := dw
      rw [this]; exact last _ (by omega)
    · have : entF [32, 59, 9] (body [32, 59, 9] (e :: r)) = body [32, 59, 9] (e :: r) := dw
      rw [this]; exact last _ (by omega)
    · have e0 : entF [59, 32, 102, 108, 97, 103, 59, 32] (body [59, 32, 102, 108, 97, 103, 59, 32] (e :: r)) = 102 :: 108 :: 97 :: 103 :: 59 :: 32 :: body [59, 32, 102, 108, 97, 103, 59, 32] (e :: r) := rfl
      rw [e0, scan_no (by simp) (by
        rintro ⟨_, h⟩
        cases h)]
      show (match delim (32 :: body [59, 32, 102, 108, 97, 103, 59, 32] (e :: r) |>.cons 59 |>.cons 103 |>.cons 97 |>.cons 108 |>.cons 102) with | some d2 => scan (M + 1) d2 | none => []) = _
      have : delim (102 :: 108 :: 97 :: 103 :: 59 :: 32 :: body [59, 32, 102, 108, 97, 103, 59, 32] (e :: r)) = some ((body [59, 32, 102, 108, 97, 103, 59, 32] (e :: r)).dropWhile spt) := rfl
      rw [this, dw]
      exact last _ (by omega)
    · have e0 : entF [59, 32, 61, 120, 59] (body [59, 32, 61, 120, 59] (e :: r)) = 61 :: 120 :: 59 :: body [59, 32, 61, 120, 59] (e :: r) := rfl
      rw [e0, scan_no (by simp) (by
        rintro ⟨h, _⟩
        exact h rfl)]
      show (match delim (61 :: 120 :: 59 :: body [59, 32, 61, 120, 59] (e :: r)) with | some d2 => scan (M + 1) d2 | none => []) = _
      have : delim (61 :: 120 :: 59 :: body [59, 32, 61, 120, 59] (e :: r)) = some ((body [59, 32, 61, 120, 59] (e :: r)).dropWhile spt) := rfl
      rw [this, dw]
      exact last _ (by omega)
end Mine
end
section
open PySem PySem.Spec PySem.Calls PyProof.Rows PySem.W PySem.Builtin
set_option maxRecDepth 100000
namespace Mine
theorem entF_pre {bet : T} (hb : bet ∈ spaces) {es : List (T × T)} (hp : ∀ e ∈ es, PartOk e) (hne : es ≠ []) : ∃ q, entF bet (body bet es) = q ++ body bet es := by
  obtain ⟨e, r, rfl⟩ := List.exists_cons_of_ne_nil hne
  obtain ⟨x, xs, hx, hxt⟩ := body_head (bet := bet) (hp e (List.mem_cons_self ..)) r
  have hsp := (tok59 hxt).2.1
  have dw : (body bet (e :: r)).dropWhile spt = body bet (e :: r) := by rw [hx, List.dropWhile_cons_of_neg (by rw [hsp]; decide)]
  have hb' := hb
  unfold spaces at hb'
  simp only [List.mem_cons, List.not_mem_nil, or_false] at hb'
  rcases hb' with rfl | rfl | rfl | rfl | rfl
  · exact ⟨[], dw⟩
  · exact ⟨[], dw⟩
  · exact ⟨[], dw⟩
  · exact ⟨[102, 108, 97, 103, 59, 32], rfl⟩
  · exact ⟨[61, 120, 59], rfl⟩
theorem ptx_last {e : T × T} (he : PartOk e) : ∃ a z, ptx e = a ++ [z] ∧ spt z = false := by
  unfold ptx
  rcases he.val with ⟨h1, h2⟩ | ⟨l, hl⟩
  · refine ⟨e.1 ++ 61 :: e.2.dropLast, e.2.getLast h1, ?_, (tok59 (h2 _ (List.getLast_mem h1))).2.1⟩
    rw [List.append_assoc, List.cons_append, List.dropLast_concat_getLast]
  · exact ⟨e.1 ++ 61 :: ([34] ++ esc l), 34, by rw [hl]; unfold quotedF; simp, by decide⟩
theorem flat_last {bet : T} : ∀ {es : List (T × T)}, (∀ e ∈ es, PartOk e) → es ≠ [] → ∃ a z, flatB bet es = a ++ [z] ∧ spt z = false
  | [], _, h => absurd rfl h
  | [e], hp, _ => by
    obtain ⟨a, z, h1, h2⟩ := ptx_last (hp e (List.mem_cons_self ..))
    exact ⟨bet ++ a, z, by unfold flatB; simp [h1], h2⟩
  | e :: e2 :: r, hp, _ => by
    obtain ⟨a, z, h1, h2⟩ := flat_last (bet := bet) (es := e2 :: r) (fun e h => hp e (List.mem_cons_of_mem _ h)) (by simp)
    refine ⟨bet ++ ptx e ++ a, z, ?_, h2⟩
    unfold flatB at h1 ⊢
    rw [List.flatMap_cons, h1, List.append_assoc, List.append_assoc, List.append_assoc]
theorem body_last {bet : T} {es : List (T × T)} (hp : ∀ e ∈ es, PartOk e) (hne : es ≠ []) : ∃ a z, body bet es = a ++ [z] ∧ spt z = false := by
  obtain ⟨e, r, rfl⟩ := List.exists_cons_of_ne_nil hne
  show ∃ a z, ptx e ++ flatB bet r = a ++ [z] ∧ _
  cases r with
  | nil =>
    obtain ⟨a, z, h1, h2⟩ := ptx_last (hp e (List.mem_cons_self ..))
    exact ⟨a, z, by unfold flatB; simp [h1], h2⟩
  | cons e2 r =>
    obtain ⟨a, z, h1, h2⟩ := flat_last (bet := bet) (es := e2 :: r) (fun e h => hp e (List.mem_cons_of_mem _ h)) (by simp)
    exact ⟨ptx e ++ a, z, by rw [h1, List.append_assoc], h2⟩
theorem strip_right {a : T} {z : Nat} (h : spt z = false) : ((a ++ [z]).reverse.dropWhile spt).reverse = a ++ [z] := by
  rw [List.reverse_append, List.reverse_singleton, List.singleton_append, List.dropWhile_cons_of_neg (by rw [h]; decide), List.reverse_cons, List.reverse_reverse]
theorem flat_len {bet : T} : ∀ {es : List (T × T)}, (∀ e ∈ es, PartOk e) → 2 * es.length ≤ (flatB bet es).length
  | [], _ => Nat.le_refl _
  | e :: r, hp => by
    have ih := flat_len (bet := bet) (es := r) fun e h => hp e (List.mem_cons_of_mem _ h)
    have hk : 0 < e.1.length := List.length_pos_iff.mpr (hp e (List.mem_cons_self ..)).kne
    unfold flatB at ih ⊢
    rw [List.flatMap_cons]
    unfold ptx
    simp only [List.length_append, List.length_cons]
    unfold ptx at ih
    omega
theorem body_len {bet : T} {es : List (T × T)} (hp : ∀ e ∈ es, PartOk e) : 2 * es.length ≤ (body bet es).length := by
  cases es with
  | nil => exact Nat.le_refl _
  | cons e r =>
    have ih := flat_len (bet := bet) (es := r) fun e h => hp e (List.mem_cons_of_mem _ h)
    have hk : 0 < e.1.length := List.length_pos_iff.mpr (hp e (List.mem_cons_self ..)).kne
    show _ ≤ (ptx e ++ flatB bet r).length
    unfold ptx
    simp only [List.length_append, List.length_cons]
    omega
theorem parse_line {main bet : T} {es : List (T × T)} (hm : main ∈ mains) (hb : bet ∈ spaces) (hp : ∀ e ∈ es, PartOk e) (hne : es ≠ []) (hl : es.length ≤ 20) (hv : ∀ e ∈ es, e.2.length ≤ 600) :
    parseF (main ++ flatB bet es) = (stepsF ⟨[], [], []⟩ (es.map fun e => (e.1.map lowC, e.2))).map fun st => (main, finF st) := by
  obtain ⟨q, hq⟩ := entF_pre hb hp hne
  obtain ⟨a, z, hz1, hz2⟩ := body_last (bet := bet) hp hne
  have hfl : flatB bet es = bet ++ body bet es := by
    obtain ⟨e, r, rfl⟩ := List.exists_cons_of_ne_nil hne
    unfold body flatB; rw [List.flatMap_cons, List.append_assoc]
  have hent : ((entF bet (body bet es)).reverse.dropWhile spt).reverse = entF bet (body bet es) := by
    rw [hq, hz1, ← List.append_assoc]; exact strip_right hz2
  have hscan := scan_parts hb es (entF bet (body bet es)).length hp hne (by have := body_len (bet := bet) hp; rw [hq, List.length_append]; omega)
  have hre : entF bet (body bet es) ≠ [] := by rw [hq, hz1]; simp
  have key : stripF ((main ++ flatB bet es).takeWhile (· != 59)) = main ∧ stripF ((main ++ flatB bet es).drop (((main ++ flatB bet es).takeWhile (· != 59)).length + 1)) = entF bet (body bet es) ∧ main ≠ [] := by
    rw [hfl]
    have e2 : stripF (bet0 bet ++ body bet es) = entF bet (body bet es) := hent
    unfold mains at hm
    unfold spaces at hb
    simp only [List.mem_cons, List.not_mem_nil, or_false] at hm hb
    generalize body bet es = bd at e2 ⊢
    rcases hm with rfl | rfl | rfl <;> rcases hb with rfl | rfl | rfl | rfl | rfl <;> exact ⟨rfl, e2, by simp⟩
  unfold parseF
  simp only []
  rw [key.1, key.2.1, hscan]
  rw [if_neg]
  rintro (h | h | h | h)
  · exact key.2.2 h
  · exact hre h
  · rw [List.length_map] at h; omega
  · have : (es.map fun e => (e.1.map lowC, e.2)).all (fun p => decide (p.2.length ≤ 600)) = true := by
      rw [List.all_eq_true]
      intro p hp2
      obtain ⟨e, he, rfl⟩ := List.mem_map.mp hp2
      exact decide_eq_true (hv e he)
    rw [this] at h; cases h
end Mine
end
section
open PySem PySem.Spec PySem.Calls PyProof.Rows PySem.W PySem.Builtin
set_option maxRecDepth 100000
namespace Mine
/-! ## the weaving of the rows -/
inductive Mix : List (List T) → List T → Prop
  | nil {rows} : (∀ r ∈ rows, r = []) → Mix rows []
  | cons {A B : List (List T)} {p : T} {r ps : List T} : Mix (A ++ r :: B) ps → Mix (A ++ (p :: r) :: B) (p :: ps)
theorem filt_nil {R : List (List T)} (h : ∀ r ∈ R, r = []) : R.filter (fun r => !r.isEmpty) = [] := by
  rw [List.filter_eq_nil_iff]
  intro r hr; rw [h r hr]; decide
theorem Mix.filt {R : List (List T)} {ps : List T} (h : Mix R ps) : ∀ R' : List (List T), R'.filter (fun r => !r.isEmpty) = R.filter (fun r => !r.isEmpty) → Mix R' ps := by
  induction h with
  | nil h =>
    intro R' hR
    rw [filt_nil h, List.filter_eq_nil_iff] at hR
    refine .nil fun r hr => ?_
    have := hR r hr
    cases r with
    | nil => rfl
    | cons _ _ => exact absurd rfl this
  | @cons A B p r ps _ ih =>
    intro R' hR
    rw [List.filter_append, List.filter_cons_of_pos (by rfl)] at hR
    obtain ⟨A', D, rfl, h1, h2⟩ := List.filter_eq_append_iff.mp hR
    obtain ⟨C, E, rfl, h3, h4, h5⟩ := List.filter_eq_cons_iff.mp h2
    rw [← List.append_assoc]
    refine .cons (ih _ ?_)
    have e1 : C.filter (fun r => !r.isEmpty) = [] := by
      rw [List.filter_eq_nil_iff]; exact fun r hr => h3 r hr
    rw [List.filter_append, List.filter_append, List.filter_append, h1, e1, List.append_nil]
    congr 1
    cases hr : (!r.isEmpty) with
    | true => rw [List.filter_cons_of_pos (by exact hr), List.filter_cons_of_pos (by exact hr), h5]
    | false => rw [List.filter_cons_of_neg (by rw [hr]; decide), List.filter_cons_of_neg (by rw [hr]; decide), h5]
def partsB (bet : T) (ps : List T) : T := ps.flatMap fun p => bet ++ p
theorem weave_mix (bet : T) : ∀ (N : Nat) (turn : Int) (rows : List (List T)) (line : T), (∀ r ∈ rows, r ≠ []) → total rows ≤ N → ∃ ps, weave N turn bet rows line = line ++ partsB bet ps ∧ Mix rows ps
  | 0, turn, rows, line, hne, hN => by
    have : rows = [] := by
      cases rows with
      | nil => rfl
      | cons r rs =>
        have := List.length_pos_iff.mpr (hne r (List.mem_cons_self ..))
        unfold total at hN
        rw [List.map_cons, List.sum_cons] at hN
        omega
    subst this
    exact ⟨[], by unfold partsB; simp [weave], .nil fun _ h => (nomatch h)⟩
  | N + 1, turn, rows, line, hne, hN => by
    rw [weave]
    by_cases hr : rows = []
    · subst hr
      rw [if_pos rfl]
      exact ⟨[], by unfold partsB; simp, .nil fun _ h => (nomatch h)⟩
    · rw [if_neg hr]
      have hrp : 0 < rows.length := List.length_pos_iff.mpr hr
      have hp0 : 0 ≤ turn % (rows.length : Int) := Int.emod_nonneg _ (by omega)
      have hp1 : turn % (rows.length : Int) < rows.length := Int.emod_lt_of_pos _ (by omega)
      generalize turn % (rows.length : Int) = place at hp0 hp1
      have hpn : place.toNat < rows.length := by omega
      generalize place.toNat = i at hpn
      have hrow : rows[i]? = some (rows.getD i []) := by rw [List.getD_eq_getElem?_getD, List.getElem?_eq_getElem hpn]; rfl
      generalize rows.getD i [] = row at hrow
      have hrne := hne row (List.mem_of_getElem? hrow)
      obtain ⟨p, row', rfl⟩ := List.exists_cons_of_ne_nil hrne
      have ht := total_set rows i _ hrow hrne
      have hsplit : rows = rows.take i ++ (p :: row') :: rows.drop (i + 1) := by
        obtain ⟨h1, h2⟩ := List.getElem?_eq_some_iff.mp hrow
        rw [← h2, ← List.drop_eq_getElem_cons h1, List.take_append_drop]
      have hset : rows.set i row' = rows.take i ++ row' :: rows.drop (i + 1) := List.set_eq_take_append_cons_drop ▸ (by rw [if_pos hpn])
      obtain ⟨ps, h1, h2⟩ := weave_mix bet N (turn / 3) ((rows.set i row').filter fun r => !r.isEmpty) (line ++ (bet ++ p)) (fun r hr => by
        have := (List.mem_filter.mp hr).2
        intro q; subst q; cases this) (by rw [total_filter]; have : (p :: row').drop 1 = row' := rfl; rw [this] at ht; omega)
      refine ⟨p :: ps, ?_, ?_⟩
      · show weave N (turn / 3) bet ((rows.set i row').filter fun r => !r.isEmpty) (line ++ (bet ++ p)) = _
        rw [h1]; unfold partsB; rw [List.flatMap_cons, List.append_assoc]
      · rw [hsplit]
        refine .cons ?_
        rw [← hset]
        exact h2.filt _ (by rw [List.filter_filter]; congr 1; funext r; rw [Bool.and_self])
end Mine
end
section
open PySem PySem.Spec PySem.Calls PyProof.Rows PySem.W PySem.Builtin
set_option maxRecDepth 100000
namespace Mine
/-! ## the coded text -/
def bytes1 (kind : Int) (c : Nat) : List UInt8 := if kind = 0 then u8 c else [UInt8.ofNat c]
/-- signs that a kind can tell -/
def KindOk (kind : Int) (c : Nat) : Prop := c ∈ signs ∧ (c = 8364 → kind = 0) ∧ (c = 233 → kind = 0 ∨ kind = 1)
theorem kind3 {l : T} {d : Int} : kindF l d = 0 ∨ kindF l d = 1 ∨ kindF l d = 2 := by
  unfold kindF
  split
  · exact .inl rfl
  · split <;> omega
theorem kind_ok {l : T} {d : Int} (h : ∀ c ∈ l, c ∈ signs) : ∀ c ∈ l, KindOk (kindF l d) c := by
  intro c hc
  refine ⟨h c hc, ?_, ?_⟩
  · rintro rfl; unfold kindF; rw [if_pos hc]
  · rintro rfl
    unfold kindF
    split
    · exact .inl rfl
    · omega
theorem octs_code1 {kind : Int} {bare : Bool} {c : Nat} (hk : kind = 0 ∨ kind = 1 ∨ kind = 2) (h : KindOk kind c) (r : T) : octs (code1 kind bare c ++ r) = (octs r).map (bytes1 kind c ++ ·) := by
  obtain ⟨h1, h2, h3⟩ := h
  unfold signs at h1
  simp only [List.mem_cons, List.not_mem_nil, or_false] at h1
  rcases hk with rfl | rfl | rfl <;> rcases h1 with rfl | rfl | rfl | rfl | rfl | rfl | rfl | rfl | rfl | rfl | rfl | rfl | rfl | rfl <;>
    first
    | (have h := h2 rfl; exact absurd h (by decide))
    | (have h := h3 rfl; exact absurd h (by decide))
    | (cases bare <;> first | rfl | (simp [code1, octs, bytes1, u8, hexV, hex2, pairs, hexU, hexL, Option.map_map]; done) | (simp [code1, octs, bytes1, u8, hexV, hex2, pairs, hexU, hexL, Option.map_map]; rfl))
theorem twP_app' {p : Nat → Bool} {a b : T} (h1 : ∀ x ∈ a, p x = true) (h2 : ∀ x, b.head? = some x → p x = false) : (a ++ b).takeWhile p = a := twP_app b h1 h2
theorem octs_coded {kind : Int} {bare : Bool} (hk : kind = 0 ∨ kind = 1 ∨ kind = 2) : ∀ {l : T}, (∀ c ∈ l, KindOk kind c) → octs (codedF l kind bare) = some (l.flatMap (bytes1 kind))
  | [], _ => rfl
  | c :: r, h => by
    have ih := octs_coded (bare := bare) hk fun c hc => h c (List.mem_cons_of_mem _ hc)
    unfold codedF at ih ⊢
    rw [List.flatMap_cons, octs_code1 hk (h c (List.mem_cons_self ..)), ih, List.flatMap_cons]; rfl
theorem dec_u8 {c : Nat} (h : c ∈ signs) (r : List UInt8) : decU (u8 c ++ r) = (decU r).map (c :: ·) := by
  unfold signs at h
  simp only [List.mem_cons, List.not_mem_nil, or_false] at h
  rcases h with rfl | rfl | rfl | rfl | rfl | rfl | rfl | rfl | rfl | rfl | rfl | rfl | rfl | rfl <;> simp [u8, decU]
theorem dec_0 : ∀ {l : T}, (∀ c ∈ l, c ∈ signs) → decU (l.flatMap u8) = some l
  | [], _ => rfl
  | c :: r, h => by
    rw [List.flatMap_cons, dec_u8 (h c (List.mem_cons_self ..)), dec_0 fun c hc => h c (List.mem_cons_of_mem _ hc)]; rfl
theorem sign_cases {c : Nat} (h : c ∈ signs) : c = 8364 ∨ c = 233 ∨ c < 128 := by
  have : ∀ c ∈ signs, c = 8364 ∨ c = 233 ∨ c < 128 := by decide
  exact this c h
theorem back_nat : ∀ {l : T}, (∀ c ∈ l, c < 256) → (l.map UInt8.ofNat).map (·.toNat) = l
  | [], _ => rfl
  | c :: r, h => by
    rw [List.map_cons, List.map_cons, back_nat fun c hc => h c (List.mem_cons_of_mem _ hc)]
    congr 1
    have := h c (List.mem_cons_self ..)
    simp [UInt8.toNat_ofNat, Nat.mod_eq_of_lt this]
def csF (kind : Int) (j : Nat) : T := (charsets.getD kind.toNat []).getD j []
theorem cs_ok {kind : Int} (hk : kind = 0 ∨ kind = 1 ∨ kind = 2) {j : Nat} (hj : j < 2) : csF kind j ≠ [] ∧ (∀ x ∈ csF kind j, chsC x = true) ∧ ((csF kind j).map lowC = sAscii ∨ (csF kind j).map lowC = sUs ∨ (csF kind j).map lowC = sUtf8 ∨ (csF kind j).map lowC = sIso) ∧ (csF kind j).length ≤ 10 := by
  have : j = 0 ∨ j = 1 := by omega
  rcases hk with rfl | rfl | rfl <;> rcases this with rfl | rfl <;> refine ⟨by decide, by decide, by decide, by decide⟩
theorem dec_kind {kind : Int} (hk : kind = 0 ∨ kind = 1 ∨ kind = 2) {j : Nat} (hj : j < 2) {l : T} (h : ∀ c ∈ l, KindOk kind c) : decF ((csF kind j).map lowC) (l.flatMap (bytes1 kind)) = some l := by
  have hj2 : j = 0 ∨ j = 1 := by omega
  have f1 : ∀ (l : T), l.flatMap (fun c => [UInt8.ofNat c]) = l.map UInt8.ofNat := fun l => by
    induction l with
    | nil => rfl
    | cons c r ih => rw [List.flatMap_cons, ih]; rfl
  rcases hk with rfl | rfl | rfl
  · have e : (csF 0 j).map lowC = sUtf8 := by rcases hj2 with rfl | rfl <;> decide
    rw [e]
    unfold decF
    rw [if_pos rfl]
    exact dec_0 fun c hc => (h c hc).1
  · have e : (csF 1 j).map lowC = sIso := by rcases hj2 with rfl | rfl <;> decide
    rw [e]
    unfold decF
    rw [if_neg (by decide), if_pos rfl]
    have : l.flatMap (bytes1 1) = l.map UInt8.ofNat := f1 l
    rw [this, back_nat fun c hc => ?_]
    obtain ⟨h1, h2, h3⟩ := h c hc
    rcases sign_cases h1 with q | q | q
    · exact absurd (h2 q) (by decide)
    · omega
    · omega
  · have e : (csF 2 j).map lowC ≠ sUtf8 ∧ (csF 2 j).map lowC ≠ sIso := by rcases hj2 with rfl | rfl <;> decide
    unfold decF
    rw [if_neg e.1, if_neg e.2]
    have : l.flatMap (bytes1 2) = l.map UInt8.ofNat := f1 l
    have hlt : ∀ c ∈ l, c < 128 := by
      intro c hc
      obtain ⟨h1, h2, h3⟩ := h c hc
      rcases sign_cases h1 with q | q | q
      · exact absurd (h2 q) (by decide)
      · have := h3 q; rcases this with q | q <;> exact absurd q (by decide)
      · exact q
    rw [this, back_nat fun c hc => by have := hlt c hc; omega, if_pos]
    rw [List.all_eq_true]
    intro x hx
    obtain ⟨c, hc, rfl⟩ := List.mem_map.mp hx
    have := hlt c hc
    refine decide_eq_true ?_
    rw [UInt8.lt_iff_toNat_lt, UInt8.toNat_ofNat', Nat.mod_eq_of_lt (by omega)]
    exact this
theorem code1_chs {kind : Int} {bare : Bool} {c : Nat} (hk : kind = 0 ∨ kind = 1 ∨ kind = 2) (h : c ∈ signs) : code1 kind bare c ≠ [] ∧ ∀ x ∈ code1 kind bare c, chsC x = true := by
  have : ∀ k ∈ ([0, 1, 2] : List Int), ∀ c ∈ signs, ∀ b : Bool, code1 k b c ≠ [] ∧ ∀ x ∈ code1 k b c, chsC x = true := by decide +kernel
  exact this kind (by simp [hk]) c h bare
theorem coded_chs {kind : Int} {bare : Bool} (hk : kind = 0 ∨ kind = 1 ∨ kind = 2) {l : T} (h : ∀ c ∈ l, c ∈ signs) : ∀ x ∈ codedF l kind bare, chsC x = true := by
  intro x hx
  obtain ⟨c, hc, hx⟩ := List.mem_flatMap.mp hx
  exact (code1_chs hk (h c hc)).2 x hx
theorem coded_ne {kind : Int} {bare : Bool} (hk : kind = 0 ∨ kind = 1 ∨ kind = 2) {l : T} (h : ∀ c ∈ l, c ∈ signs) (hl : l ≠ []) : codedF l kind bare ≠ [] := by
  obtain ⟨c, r, rfl⟩ := List.exists_cons_of_ne_nil hl
  intro e
  unfold codedF at e
  rw [List.flatMap_cons, List.append_eq_nil_iff] at e
  exact (code1_chs hk (h c (List.mem_cons_self ..))).1 e.1
theorem chs_tok {x : Nat} (h : chsC x = true) : tokC x = true := by
  unfold chsC at h
  unfold tokC
  rw [Bool.or_eq_true] at h ⊢
  refine h.imp _root_.id fun h => ?_
  have all : ([33, 35, 36, 37, 38, 42, 43, 45, 46, 94, 96, 124, 126] : List Nat).all (fun x => ([33, 35, 36, 37, 38, 39, 42, 43, 45, 46, 94, 96, 124, 126] : List Nat).contains x) = true := by decide
  exact List.all_eq_true.mp all x (List.contains_iff_mem.mp h)
theorem unq_coded {kind : Int} {bare : Bool} (hk : kind = 0 ∨ kind = 1 ∨ kind = 2) {j : Nat} (hj : j < 2) {l : T} (h : ∀ c ∈ l, KindOk kind c) : unqF (codedF l kind bare) ((csF kind j).map lowC) = some l := by
  unfold unqF
  rw [if_pos, octs_coded hk h]
  · exact dec_kind hk hj h
  · rw [List.all_eq_true]
    intro x hx
    exact decide_eq_true (bchs_lt (coded_chs hk (fun c hc => (h c hc).1) x hx))
theorem chsF_front {cs tg v : T} (h1 : ∀ x ∈ cs, chsC x = true) (h2 : ∀ x ∈ tg, chsC x = true) (h3 : v ≠ []) (h4 : ∀ x ∈ v, tokC x = true) : chsF (cs ++ [39] ++ tg ++ [39] ++ v) = some (cs, v) := by
  have e : cs ++ [39] ++ tg ++ [39] ++ v = cs ++ 39 :: (tg ++ 39 :: v) := by simp
  rw [e]
  unfold chsF
  simp only []
  rw [twP_app' h1 (fun x hx => by cases hx; decide), List.drop_left]
  simp only []
  rw [twP_app' h2 (fun x hx => by cases hx; decide), List.drop_left]
  simp only []
  rw [if_pos ⟨h3, by rw [List.all_eq_true]; exact h4⟩]
theorem chsF_none {v : T} (h1 : ∀ x ∈ v, chsC x = true) : chsF v = none := by
  unfold chsF
  simp only []
  have := twP_app' (p := chsC) (a := v) (b := []) h1 (fun x hx => by cases hx)
  rw [List.append_nil] at this
  rw [this, List.drop_length]
end Mine
end
section
open PySem PySem.Spec PySem.Calls PyProof.Rows PySem.W PySem.Builtin
set_option maxRecDepth 100000
namespace Mine
/-! ## one part is taken up -/
/-- a key's ends: what stands behind the name, whether it is one of several, whether it is coded -/
def markE (hc hs : Bool) (n : Nat) : T := (if hc then [42, 48 + n] else []) ++ (if hs then [42] else [])
def upN (u : Bool) (k : Nat) : T := if u then (names.getD k []).map upC else names.getD k []
theorem keyE_ok {k n : Nat} (hk : k < 3) (hn : n < 3) (u hc hs : Bool) : upN u k ++ markE hc hs n ≠ [] ∧ (∀ x ∈ upN u k ++ markE hc hs n, tokC x = true) ∧ (upN u k ++ markE hc hs n).map lowC = names.getD k [] ++ markE hc hs n ∧
    names.getD k [] ++ markE hc hs n ∈ keyL ∧ markF (names.getD k [] ++ markE hc hs n) = some (names.getD k [], hc, hs) := by
  have all : ∀ k : Fin 3, ∀ n : Fin 3, ∀ u hc hs : Bool, upN u k ++ markE hc hs n ≠ [] ∧ (∀ x ∈ upN u k ++ markE hc hs n, tokC x = true) ∧ (upN u k ++ markE hc hs n).map lowC = names.getD k [] ++ markE hc hs n ∧
    names.getD k [] ++ markE hc hs n ∈ keyL ∧ markF (names.getD k [] ++ markE hc hs n) = some (names.getD k [], hc, hs) := by decide +kernel
  exact all ⟨k, hk⟩ ⟨n, hn⟩ u hc hs
/-- what a part does to the state -/
def putS (st : St) (nm v : T) (hc : Bool) (e : Option T) : St := if hc then ⟨st.opt, dput st.con nm ((dget st.con nm).getD [] ++ [v]), match e with | some x => dput st.enc nm x | none => st.enc⟩ else ⟨dput st.opt nm v, st.con, st.enc⟩
theorem step_plain {st : St} {key val nm : T} {hc : Bool} (h1 : key ∈ keyL) (h2 : markF key = some (nm, hc, false)) (h3 : 37 ∉ uqF val) (h4 : hc = true → dget st.opt nm = none) (h5 : hc = false → dget st.con nm = none) :
    stepF st (key, val) = some (putS st nm (uqF val) hc none) := by
  unfold stepF putS
  rw [if_pos h1, h2]
  cases hc with
  | true => simp [h3, h4 rfl]
  | false => simp [h3, h5 rfl]
theorem step_coded {st : St} {key val nm cs v w e : T} {hc : Bool} (h1 : key ∈ keyL) (h2 : markF key = some (nm, hc, true)) (h3 : chsF val = some (cs, v)) (he : cs.map lowC = e) (hne : e ≠ []) (hen : e = sAscii ∨ e = sUs ∨ e = sUtf8 ∨ e = sIso) (hu : unqF v e = some w)
    (h4 : hc = true → dget st.opt nm = none) (h5 : hc = false → dget st.con nm = none) : stepF st (key, val) = some (putS st nm w hc (some e)) := by
  obtain ⟨c, r, rfl⟩ := List.exists_cons_of_ne_nil hne
  unfold stepF putS
  rw [if_pos h1, h2]
  cases hc with
  | true => simp [h3, he, hen, hu, h4 rfl]
  | false => simp [h3, he, hen, hu, h5 rfl]
theorem step_told {st : St} {key val nm w e : T} (h1 : key ∈ keyL) (h2 : markF key = some (nm, true, true)) (h3 : chsF val = none) (h3' : val.all chsC = true) (he : dget st.enc nm = some e) (hne : e ≠ []) (hen : e = sAscii ∨ e = sUs ∨ e = sUtf8 ∨ e = sIso) (hu : unqF val e = some w)
    (h4 : dget st.opt nm = none) : stepF st (key, val) = some (putS st nm w true (some e)) := by
  obtain ⟨c, r, rfl⟩ := List.exists_cons_of_ne_nil hne
  unfold stepF putS
  rw [if_pos h1, h2]
  simp [h3, h3', he, hen, hu, h4]
theorem dget_put {α : Type} : ∀ (l : List (T × α)) (x y : T) (v : α), dget (dput l x v) y = if x = y then some v else dget l y
  | [], x, y, v => by
    show (if x = y then some v else dget [] y) = _
    rfl
  | (k, u) :: r, x, y, v => by
    show dget (if k = x then (k, v) :: r else (k, u) :: dput r x v) y = _
    by_cases h : k = x
    · subst h
      rw [if_pos rfl]
      show (if k = y then some v else dget r y) = if k = y then some v else (if k = y then some u else dget r y)
      split <;> rfl
    · rw [if_neg h]
      show (if k = y then some u else dget (dput r x v) y) = if x = y then some v else (if k = y then some u else dget r y)
      rw [dget_put r x y v]
      by_cases h2 : k = y
      · subst h2; rw [if_pos rfl, if_neg (fun q => h q.symm), if_pos rfl]
      · rw [if_neg h2, if_neg h2]
theorem dput_keys {α : Type} : ∀ (l : List (T × α)) (x : T) (v : α), (dput l x v).map (·.1) = if x ∈ l.map (·.1) then l.map (·.1) else l.map (·.1) ++ [x]
  | [], x, v => rfl
  | (k, u) :: r, x, v => by
    show (if k = x then (k, v) :: r else (k, u) :: dput r x v).map (·.1) = _
    by_cases h : k = x
    · subst h; rw [if_pos rfl, if_pos (by simp)]; rfl
    · rw [if_neg h, List.map_cons, dput_keys r x v, List.map_cons]
      by_cases h2 : x ∈ r.map (·.1)
      · rw [if_pos h2, if_pos (List.mem_cons_of_mem _ h2)]
      · rw [if_neg h2, if_neg (by rw [List.mem_cons, not_or]; exact ⟨fun q => h q.symm, h2⟩)]; rfl
theorem dget_none_iff {α : Type} : ∀ {l : List (T × α)} {x : T}, dget l x = none ↔ x ∉ l.map (·.1)
  | [], x => by simp [dget]
  | (k, v) :: r, x => by
    show (if k = x then some v else dget r x) = none ↔ _
    rw [List.map_cons, List.mem_cons, not_or]
    by_cases h : k = x
    · subst h; rw [if_pos rfl]; simp
    · rw [if_neg h, dget_none_iff]
      exact ⟨fun q => ⟨fun e => h e.symm, q⟩, fun q => q.2⟩
/-- the keys of the state: no two alike, all of them names -/
structure KeysOk (st : St) (n : Nat) : Prop where
  nd : (st.opt.map (·.1) ++ st.con.map (·.1)).Nodup
  sub : ∀ x ∈ st.opt.map (·.1) ++ st.con.map (·.1), ∃ k < n, x = names.getD k []
theorem keys_put {st : St} {n k : Nat} (K : KeysOk st n) (hk : k < n) {v : T} {hc : Bool} {e : Option T} (h4 : hc = true → dget st.opt (names.getD k []) = none) (h5 : hc = false → dget st.con (names.getD k []) = none) : KeysOk (putS st (names.getD k []) v hc e) n := by
  unfold putS
  have hs : ∀ (a b : List T) (x : T), (a ++ b).Nodup → x ∉ a → x ∉ b → (a ++ (b ++ [x])).Nodup ∧ ((a ++ [x]) ++ b).Nodup := by
    intro a b x hn h1 h2
    rw [List.nodup_append] at hn
    refine ⟨?_, ?_⟩
    · rw [← List.append_assoc, List.nodup_append]
      refine ⟨by rw [List.nodup_append]; exact hn, by simp, ?_⟩
      intro y hy z hz
      rw [List.mem_singleton] at hz; subst hz
      rintro rfl
      exact (List.mem_append.mp hy).elim h1 h2
    · rw [List.nodup_append, List.nodup_append]
      refine ⟨⟨hn.1, by simp, fun y hy z hz => ?_⟩, hn.2.1, fun y hy z hz => ?_⟩
      · rw [List.mem_singleton] at hz; subst hz
        rintro rfl; exact h1 hy
      · rcases List.mem_append.mp hy with hy | hy
        · exact hn.2.2 y hy z hz
        · rw [List.mem_singleton] at hy; subst hy
          rintro rfl; exact h2 hz
  cases hc with
  | true =>
    rw [if_pos rfl]
    have ho := dget_none_iff.mp (h4 rfl)
    by_cases hm : names.getD k [] ∈ st.con.map (·.1)
    · refine ⟨?_, ?_⟩ <;> (dsimp only; rw [dput_keys, if_pos hm])
      · exact K.nd
      · exact K.sub
    · refine ⟨?_, ?_⟩ <;> (dsimp only; rw [dput_keys, if_neg hm])
      · exact (hs _ _ _ K.nd ho hm).1
      · intro x hx
        rw [← List.append_assoc] at hx
        rcases List.mem_append.mp hx with hx | hx
        · exact K.sub x hx
        · rw [List.mem_singleton] at hx; exact ⟨k, hk, hx⟩
  | false =>
    rw [if_neg Bool.false_ne_true]
    have ho := dget_none_iff.mp (h5 rfl)
    by_cases hm : names.getD k [] ∈ st.opt.map (·.1)
    · refine ⟨?_, ?_⟩ <;> (dsimp only; rw [dput_keys, if_pos hm])
      · exact K.nd
      · exact K.sub
    · refine ⟨?_, ?_⟩ <;> (dsimp only; rw [dput_keys, if_neg hm])
      · exact (hs _ _ _ K.nd hm ho).2
      · intro x hx
        rcases List.mem_append.mp hx with hx | hx
        · rcases List.mem_append.mp hx with hx | hx
          · exact K.sub x (List.mem_append_left _ hx)
          · rw [List.mem_singleton] at hx; exact ⟨k, hk, hx⟩
        · exact K.sub x (List.mem_append_right _ hx)
end Mine
end
section
open PySem PySem.Spec PySem.Calls PyProof.Rows PySem.W PySem.Builtin
set_option maxRecDepth 100000
namespace Mine
/-! ## a row is taken up, part by part -/
theorem mark_eq (np n : Nat) (name : T) : (if np = 1 then name else name ++ [42] ++ [48 + n]) = name ++ markE (decide (np ≠ 1)) false n := by
  unfold markE
  by_cases h : np = 1
  · rw [if_pos h]; simp [h]
  · rw [if_neg h]; simp [h]
theorem mark_coded (np n : Nat) (name : T) : (if np = 1 then name else name ++ [42] ++ [48 + n]) ++ [42] = name ++ markE (decide (np ≠ 1)) true n := by
  unfold markE
  by_cases h : np = 1
  · rw [if_pos h]; simp [h]
  · rw [if_neg h]; simp [h]
theorem tg_ok (j : Nat) (hj : j < 3) : ∀ x ∈ tongues.getD j [], chsC x = true := by
  have all : ∀ j : Fin 3, ∀ x ∈ tongues.getD j.val [], chsC x = true := by decide
  exact all ⟨j, hj⟩
/-- the three ways to write a piece -/
theorem write1_cases (name l : T) (d b : Int) (np n : Nat) (told : Bool) (piece : T) :
    (piece ≠ [] ∧ ∃ front : T, ((front = [] ∧ told = true) ∨ ∃ tg : T, (∀ x ∈ tg, chsC x = true) ∧ front = csF (kindF l d) (d / 5 % 2).toNat ++ [39] ++ tg ++ [39]) ∧
      write1 name l d b np told n piece = (ptx (name ++ markE (decide (np ≠ 1)) true n, front ++ codedF piece (kindF l d) (decide (d / 3 % 2 = 0))), true)) ∨
    (piece ≠ [] ∧ piece.all plainC = true ∧ write1 name l d b np told n piece = (ptx (name ++ markE (decide (np ≠ 1)) false n, piece), told)) ∨
    write1 name l d b np told n piece = (ptx (name ++ markE (decide (np ≠ 1)) false n, quotedF piece), told) := by
  unfold write1 ptx
  simp only []
  rw [← mark_eq, ← mark_coded]
  generalize (if np = 1 then name else name ++ [42] ++ [48 + n]) = mk
  split
  · rename_i h
    refine .inl ⟨h.2, (if told = true ∧ b / 3 / 4 ^ n % 4 = 3 then [] else csF (kindF l d) (d / 5 % 2).toNat ++ [39] ++ tongues.getD (d / 11 % 3).toNat [] ++ [39]), ?_, ?_⟩
    · split
      · rename_i h2; exact .inl ⟨rfl, h2.1⟩
      · exact .inr ⟨_, tg_ok _ (by omega), rfl⟩
    · unfold csF; simp
  · split
    · rename_i h; exact .inr (.inl ⟨h.2.1, h.2.2, by simp⟩)
    · exact .inr (.inr (by simp))
theorem uq_quoted (l : T) : uqF (quotedF l) = l := by
  unfold uqF quotedF
  have e : ([34] ++ esc l ++ [34] : T) = 34 :: (esc l ++ [34]) := rfl
  rw [if_pos]
  · rw [e]
    show unesc ((esc l ++ [34]).dropLast) = l
    rw [List.dropLast_concat, unesc_esc]
  · refine ⟨by simp, rfl, by rw [List.getLast?_concat]⟩
theorem uq_plain {l : T} (h : ∀ x ∈ l, x ≠ 34) : uqF l = l := by
  unfold uqF
  rw [if_neg]
  rintro ⟨_, h1, _⟩
  exact h 34 (List.mem_of_mem_head? h1) rfl
theorem plain_ok {x : Nat} (h : plainC x = true) : tokC x = true ∧ x ≠ 34 ∧ x ≠ 37 := by
  have : ∀ x ∈ ([97, 90, 55, 45, 39, 42] : List Nat), tokC x = true ∧ x ≠ 34 ∧ x ≠ 37 := by decide
  exact this x (List.contains_iff_mem.mp h)
theorem sign_37 {x : Nat} (h : x ∈ signs) : x ≠ 37 := by
  have : ∀ x ∈ signs, x ≠ 37 := by decide
  exact this x h
structure RowIn (l : T) (d b : Int) (u : Bool) (k : Nat) (st : St) (rem : List T) (n : Nat) (told : Bool) : Prop where
  le : n ≤ (piecesF l d b).length
  rem : rem = writeL (upN u k) l d b (piecesF l d b).length n told ((piecesF l d b).drop n)
  one : (piecesF l d b).length = 1 → dget st.con (names.getD k []) = none ∧ dget st.opt (names.getD k []) = if n = 0 then none else some l
  more : (piecesF l d b).length ≠ 1 → dget st.opt (names.getD k []) = none ∧ dget st.con (names.getD k []) = if n = 0 then none else some ((piecesF l d b).take n)
  told0 : n = 0 → told = false
  told1 : (piecesF l d b).length ≠ 1 → told = true → dget st.enc (names.getD k []) = some ((csF (kindF l d) (d / 5 % 2).toNat).map lowC)
theorem pieces_one {l : T} {d b : Int} (h : (piecesF l d b).length = 1) : piecesF l d b = [l] := by
  unfold piecesF at h ⊢
  simp only [] at h ⊢
  split
  · rfl
  · rename_i h1
    rw [if_neg h1] at h
    split at h <;> simp at h
theorem row_step {l : T} {d b : Int} {u : Bool} {k n : Nat} {told : Bool} {st : St} {p : T} {r : List T} (hk : k < 3) (hl : l.length ≤ 6) (hs : ∀ c ∈ l, c ∈ signs) (R : RowIn l d b u k st (p :: r) n told) :
    ∃ e told' v hc ee, p = ptx e ∧ PartOk e ∧ stepF st (e.1.map lowC, e.2) = some (putS st (names.getD k []) v hc ee) ∧ (hc = true → dget st.opt (names.getD k []) = none) ∧ (hc = false → dget st.con (names.getD k []) = none) ∧
      RowIn l d b u k (putS st (names.getD k []) v hc ee) r (n + 1) told' := by
  obtain ⟨h1, h2, h3, h4, h5, h6⟩ := R
  have hpl := pieces_len l d b
  have hpo := pieces_one (l := l) (d := d) (b := b)
  have hsub : ∀ p ∈ piecesF l d b, ∀ c ∈ p, c ∈ l := fun p hp => (pieces_sub hp).2
  generalize hP : piecesF l d b = ps at *
  cases hd : ps.drop n with
  | nil => rw [hd] at h2; cases h2
  | cons piece rest =>
    have hn : n < ps.length := by
      have := congrArg List.length hd
      rw [List.length_drop, List.length_cons] at this; omega
    have hget : ps[n]? = some piece := by have := congrArg List.head? hd; rwa [List.head?_drop] at this
    have hrest : ps.drop (n + 1) = rest := by have := congrArg List.tail hd; rwa [List.tail_drop] at this
    have htake : ps.take (n + 1) = ps.take n ++ [piece] := by rw [List.take_add_one, hget]; rfl
    have hpm := List.mem_of_getElem? hget
    have hsg : ∀ c ∈ piece, c ∈ signs := fun c hc => hs c (hsub _ hpm c hc)
    have hkk : ∀ c ∈ piece, KindOk (kindF l d) c := fun c hc => kind_ok hs c (hsub _ hpm c hc)
    rw [hd] at h2
    have h2 : p :: r = (write1 (upN u k) l d b ps.length told n piece).1 :: writeL (upN u k) l d b ps.length (n + 1) (write1 (upN u k) l d b ps.length told n piece).2 rest := h2
    injection h2 with e1 e2
    have hj : (d / 5 % 2).toNat < 2 := by omega
    have hk3 := kind3 (l := l) (d := d)
    obtain ⟨c1, c2, c3, c4⟩ := cs_ok hk3 hj
    have hcA : decide (ps.length ≠ 1) = true → dget st.opt (names.getD k []) = none := fun q => (h4 (of_decide_eq_true q)).1
    have hcB : decide (ps.length ≠ 1) = false → dget st.con (names.getD k []) = none := fun q => (h3 (by have := of_decide_eq_false q; omega)).1
    have newR : ∀ (told' : Bool) (ee : Option T), (ps.length ≠ 1 → told' = true → (match ee with | some x => some x | none => dget st.enc (names.getD k [])) = some ((csF (kindF l d) (d / 5 % 2).toNat).map lowC)) → r = writeL (upN u k) l d b ps.length (n + 1) told' (ps.drop (n + 1)) →
        RowIn l d b u k (putS st (names.getD k []) piece (decide (ps.length ≠ 1)) ee) r (n + 1) told' := by
      intro told' ee ht hr
      refine ⟨by rw [hP]; exact hn, by rw [hP]; exact hr, fun q => ?_, fun q => ?_, fun q => (by omega), fun q q2 => ?_⟩
      · rw [hP] at q
        have hn0 : n = 0 := by omega
        have hpl1 : piece = l := by
          have := hpo q
          rw [this, hn0] at hget; cases hget; rfl
        unfold putS
        rw [if_neg (by simp [q])]
        exact ⟨(h3 q).1, by rw [dget_put, if_pos rfl, if_neg (by omega), hpl1]⟩
      · rw [hP] at q ⊢
        unfold putS
        rw [if_pos (decide_eq_true q)]
        refine ⟨(h4 q).1, ?_⟩
        dsimp only
        rw [dget_put, if_pos rfl, if_neg (by omega), (h4 q).2, htake]
        by_cases hn0 : n = 0
        · subst hn0; rfl
        · rw [if_neg hn0]; rfl
      · rw [hP] at q
        unfold putS
        rw [if_pos (decide_eq_true q)]
        have := ht q q2
        cases ee with
        | none => exact this
        | some x =>
          dsimp only at this ⊢
          rw [dget_put, if_pos rfl]; exact this
    rcases write1_cases (upN u k) l d b ps.length n told piece with ⟨hne, front, hf, hw⟩ | ⟨hne, hpc, hw⟩ | hw
    · rw [hw] at e1 e2
      obtain ⟨k1, k2, k3, k4, k5⟩ := keyE_ok hk (n := n) (by omega) u (decide (ps.length ≠ 1)) true
      have hct : ∀ x ∈ codedF piece (kindF l d) (decide (d / 3 % 2 = 0)), chsC x = true := coded_chs hk3 hsg
      have hcn := coded_ne (bare := decide (d / 3 % 2 = 0)) hk3 hsg hne
      have hun := unq_coded (bare := decide (d / 3 % 2 = 0)) hk3 hj hkk
      have hene : (csF (kindF l d) (d / 5 % 2).toNat).map lowC ≠ [] := fun q => c1 (List.map_eq_nil_iff.mp q)
      refine ⟨_, true, piece, decide (ps.length ≠ 1), some ((csF (kindF l d) (d / 5 % 2).toNat).map lowC), e1, ⟨k1, k2, .inl ⟨fun q => hcn (List.append_eq_nil_iff.mp q).2, ?_⟩⟩, ?_, hcA, hcB, newR true _ (fun _ _ => rfl) (by rw [hrest]; exact e2)⟩
      · intro x hx
        rcases List.mem_append.mp hx with hx | hx
        · rcases hf with ⟨rfl, _⟩ | ⟨tg, ht, rfl⟩
          · cases hx
          · simp only [List.mem_append, List.mem_singleton] at hx
            rcases hx with ((hx | hx) | hx) | hx
            · exact chs_tok (c2 x hx)
            · subst hx; decide
            · exact chs_tok (ht x hx)
            · subst hx; decide
        · exact chs_tok (hct x hx)
      · rw [k3]
        rcases hf with ⟨rfl, ht⟩ | ⟨tg, ht, rfl⟩
        · have hn0 : ps.length ≠ 1 := fun q => by
            have hn0 : n = 0 := by omega
            rw [h5 hn0] at ht; cases ht
          have hdc : decide (ps.length ≠ 1) = true := decide_eq_true hn0
          rw [hdc] at k4 k5 ⊢
          rw [List.nil_append]
          exact step_told k4 k5 (chsF_none hct) (by rw [List.all_eq_true]; exact hct) (h6 hn0 ht) hene c3 hun (h4 hn0).1
        · exact step_coded k4 k5 (chsF_front c2 ht hcn fun x hx => chs_tok (hct x hx)) rfl hene c3 hun hcA hcB
    · rw [hw] at e1 e2
      obtain ⟨k1, k2, k3, k4, k5⟩ := keyE_ok hk (n := n) (by omega) u (decide (ps.length ≠ 1)) false
      have hpx := fun x hx => plain_ok (List.all_eq_true.mp hpc x hx)
      have huq : uqF piece = piece := uq_plain fun x hx => (hpx x hx).2.1
      have hst := step_plain (st := st) (val := piece) k4 k5 (by rw [huq]; exact fun q => (hpx 37 q).2.2 rfl) hcA hcB
      rw [huq] at hst
      exact ⟨_, told, piece, decide (ps.length ≠ 1), none, e1, ⟨k1, k2, .inl ⟨hne, fun x hx => (hpx x hx).1⟩⟩, by rw [k3]; exact hst, hcA, hcB, newR told none h6 (by rw [hrest]; exact e2)⟩
    · rw [hw] at e1 e2
      obtain ⟨k1, k2, k3, k4, k5⟩ := keyE_ok hk (n := n) (by omega) u (decide (ps.length ≠ 1)) false
      have hst := step_plain (st := st) (val := quotedF piece) k4 k5 (by rw [uq_quoted]; exact fun q => sign_37 (hsg 37 q) rfl) hcA hcB
      rw [uq_quoted] at hst
      exact ⟨_, told, piece, decide (ps.length ≠ 1), none, e1, ⟨k1, k2, .inr ⟨piece, rfl⟩⟩, by rw [k3]; exact hst, hcA, hcB, newR told none h6 (by rw [hrest]; exact e2)⟩
end Mine
end
section
open PySem PySem.Spec PySem.Calls PyProof.Rows PySem.W PySem.Builtin
set_option maxRecDepth 100000
namespace Mine
/-! ## the whole line -/
theorem names_ne {k j : Nat} (hk : k < 3) (hj : j < 3) (h : k ≠ j) : names.getD k [] ≠ names.getD j [] := by
  have all : ∀ k j : Fin 3, k ≠ j → names.getD k.val [] ≠ names.getD j.val [] := by decide
  exact all ⟨k, hk⟩ ⟨j, hj⟩ fun q => h (congrArg Fin.val q)
theorem put_other {st : St} {nm x v : T} {hc : Bool} {e : Option T} (h : nm ≠ x) : dget (putS st nm v hc e).opt x = dget st.opt x ∧ dget (putS st nm v hc e).con x = dget st.con x ∧ dget (putS st nm v hc e).enc x = dget st.enc x := by
  unfold putS
  cases hc with
  | true =>
    rw [if_pos rfl]
    refine ⟨rfl, by dsimp only; rw [dget_put, if_neg h], ?_⟩
    cases e with
    | none => rfl
    | some y => dsimp only; rw [dget_put, if_neg h]
  | false =>
    rw [if_neg Bool.false_ne_true]
    exact ⟨by dsimp only; rw [dget_put, if_neg h], rfl, rfl⟩
theorem RowIn.other {l : T} {d b : Int} {u : Bool} {k : Nat} {st st' : St} {rem : List T} {n : Nat} {told : Bool} (R : RowIn l d b u k st rem n told)
    (h : dget st'.opt (names.getD k []) = dget st.opt (names.getD k []) ∧ dget st'.con (names.getD k []) = dget st.con (names.getD k []) ∧ dget st'.enc (names.getD k []) = dget st.enc (names.getD k [])) : RowIn l d b u k st' rem n told :=
  ⟨R.le, R.rem, fun q => by rw [h.1, h.2.1]; exact R.one q, fun q => by rw [h.1, h.2.1]; exact R.more q, R.told0, fun q q2 => by rw [h.2.2]; exact R.told1 q q2⟩
def kvF (e : T × T) : T × T := (e.1.map lowC, e.2)
theorem mix_ok {N : Nat} (hN : N ≤ 3) (l : Nat → T) (d b : Nat → Int) (u : Nat → Bool) (hl : ∀ k < N, (l k).length ≤ 6) (hs : ∀ k < N, ∀ c ∈ l k, c ∈ signs) {rows : List (List T)} {ps : List T} (M : Mix rows ps) :
    rows.length = N → ∀ st, KeysOk st N → (∀ k < N, ∃ n told, RowIn (l k) (d k) (b k) (u k) k st (rows.getD k []) n told) →
    ∃ (es : List (T × T)) (st' : St), ps = es.map ptx ∧ (∀ e ∈ es, PartOk e) ∧ stepsF st (es.map kvF) = some st' ∧ KeysOk st' N ∧ ∀ k < N, ∃ n told, RowIn (l k) (d k) (b k) (u k) k st' [] n told := by
  induction M with
  | @nil rows h =>
    intro hr st K R
    refine ⟨[], st, rfl, fun _ h => (nomatch h), rfl, K, fun k hk => ?_⟩
    obtain ⟨n, told, r⟩ := R k hk
    have : rows.getD k [] = [] := by
      rw [List.getD_eq_getElem?_getD, List.getElem?_eq_getElem (by omega)]
      exact h _ (List.getElem_mem _)
    rw [this] at r
    exact ⟨n, told, r⟩
  | @cons A B p r ps _ ih =>
    intro hr st K R
    rw [List.length_append, List.length_cons] at hr
    have hk0 : A.length < N := by omega
    obtain ⟨n, told, r0⟩ := R A.length hk0
    have hg : (A ++ (p :: r) :: B).getD A.length [] = p :: r := by
      rw [List.getD_eq_getElem?_getD, List.getElem?_append_right (Nat.le_refl _), Nat.sub_self]; rfl
    rw [hg] at r0
    obtain ⟨e, told', v, hc, ee, h1, h2, h3, h4, h5, h6⟩ := row_step (by omega) (hl _ hk0) (hs _ hk0) r0
    obtain ⟨es, st', g1, g2, g3, g4, g5⟩ := ih (by rw [List.length_append, List.length_cons]; exact hr) (putS st (names.getD A.length []) v hc ee) (keys_put K hk0 h4 h5) (fun k hk => by
      by_cases hkA : k = A.length
      · subst hkA
        refine ⟨n + 1, told', ?_⟩
        have : (A ++ r :: B).getD A.length [] = r := by
          rw [List.getD_eq_getElem?_getD, List.getElem?_append_right (Nat.le_refl _), Nat.sub_self]; rfl
        rw [this]; exact h6
      · obtain ⟨n2, told2, r2⟩ := R k hk
        refine ⟨n2, told2, ?_⟩
        have : (A ++ r :: B).getD k [] = (A ++ (p :: r) :: B).getD k [] := by
          rw [List.getD_eq_getElem?_getD, List.getD_eq_getElem?_getD]
          by_cases hlt : k < A.length
          · rw [List.getElem?_append_left hlt, List.getElem?_append_left hlt]
          · rw [List.getElem?_append_right (by omega), List.getElem?_append_right (by omega)]
            obtain ⟨m, hm⟩ : ∃ m, k - A.length = m + 1 := ⟨k - A.length - 1, by omega⟩
            rw [hm]; rfl
        rw [this]
        exact r2.other (put_other (names_ne (by omega) (by omega) fun q => hkA q.symm)))
    refine ⟨e :: es, st', by rw [List.map_cons, ← h1, ← g1], fun x hx => (List.mem_cons.mp hx).elim (fun q => q ▸ h2) (g2 x), ?_, g4, g5⟩
    rw [List.map_cons]
    show (stepF st (e.1.map lowC, e.2)).bind _ = _
    rw [h3]; exact g3
theorem pieces_flat (l : T) (d b : Int) : (piecesF l d b).flatten = l := by
  unfold piecesF
  simp only []
  split
  · simp
  · split
    · simp
    · have hc : (cutsF l d).1 ≤ (cutsF l d).2 := by unfold cutsF; simp only []; omega
      generalize (cutsF l d).1 = a at hc ⊢
      generalize (cutsF l d).2 = b at hc ⊢
      simp only [List.flatten_cons, List.flatten_nil, List.append_nil]
      have h1 : l.take a = (l.take b).take a := by rw [List.take_take, Nat.min_eq_left hc]
      rw [← List.append_assoc, h1, List.take_append_drop, List.take_append_drop]
theorem dget_of_mem {α : Type} : ∀ {l : List (T × α)} {x : T} {y : α}, (l.map (·.1)).Nodup → (x, y) ∈ l → dget l x = some y
  | (k, v) :: r, x, y, hn, h => by
    rw [List.map_cons, List.nodup_cons] at hn
    show (if k = x then some v else dget r x) = some y
    rcases List.mem_cons.mp h with h | h
    · cases h; rw [if_pos rfl]
    · rw [if_neg, dget_of_mem hn.2 h]
      rintro rfl
      exact hn.1 (List.mem_map.mpr ⟨_, h, rfl⟩)
theorem fold_fresh : ∀ (xs : List (T × List T)) (es : List (T × T)), (es.map (·.1) ++ xs.map (·.1)).Nodup → xs.foldl (fun o c => dput o c.1 c.2.flatten) es = es ++ xs.map fun c => (c.1, c.2.flatten)
  | [], es, _ => by show es = es ++ []; rw [List.append_nil]
  | x :: r, es, hn => by
    show r.foldl _ (dput es x.1 x.2.flatten) = _
    have hx : dget es x.1 = none := by
      rw [dget_none_iff]
      intro q
      rw [List.map_cons, List.nodup_append] at hn
      exact hn.2.2 _ q _ (List.mem_cons_self ..) rfl
    rw [dput_new _ _ _ hx, fold_fresh r _ (by rw [List.map_append, List.append_assoc]; exact hn), List.append_assoc]; rfl
/-- what the names stand for in the end -/
def wantL (N : Nat) (l : Nat → T) : List (T × T) := (List.range N).foldl (fun w k => dput w (names.getD k []) (l k)) []
theorem wantL_eq (l : Nat → T) : ∀ {N : Nat}, N ≤ 3 → wantL N l = (List.range N).map fun k => (names.getD k [], l k)
  | 0, _ => rfl
  | N + 1, h => by
    have ih := wantL_eq l (N := N) (by omega)
    unfold wantL at ih ⊢
    rw [List.range_succ, List.foldl_append, ih, List.map_append]
    show dput _ _ _ = _
    rw [dput_new]
    · rfl
    · rw [dget_none_iff, List.map_map]
      intro q
      obtain ⟨j, hj, e⟩ := List.mem_map.mp q
      rw [List.mem_range] at hj
      exact names_ne (k := j) (j := N) (by omega) (by omega) (by omega) e
/-- a list of the names' pairs -/
structure Full (N : Nat) (l : Nat → T) (es : List (T × T)) : Prop where
  nd : (es.map (·.1)).Nodup
  mem : ∀ e ∈ es, ∃ k < N, e = (names.getD k [], l k)
  len : es.length = N
theorem Full.deq {N : Nat} (hN : N ≤ 3) {l : Nat → T} {es : List (T × T)} (F : Full N l es) : dEq es (wantL N l) = true := by
  rw [wantL_eq l hN]
  unfold dEq
  rw [Bool.and_eq_true]
  refine ⟨by rw [List.length_map, List.length_range, F.len]; exact beq_self_eq_true N, ?_⟩
  rw [List.all_eq_true]
  intro e he
  obtain ⟨k, hk, rfl⟩ := F.mem e he
  rw [dget_of_mem (y := l k) _ (List.mem_map.mpr ⟨k, List.mem_range.mpr hk, rfl⟩)]
  · exact beq_self_eq_true _
  · rw [List.map_map]
    refine (List.pairwise_map.mpr ?_)
    refine List.Pairwise.imp_of_mem (fun {a b} ha hb hab => ?_) List.nodup_range
    rw [List.mem_range] at ha hb
    exact names_ne (by omega) (by omega) hab
theorem fin_full {N : Nat} (hN : N ≤ 3) {l : Nat → T} {d b : Nat → Int} {u : Nat → Bool} {st : St} (K : KeysOk st N) (R : ∀ k < N, ∃ n told, RowIn (l k) (d k) (b k) (u k) k st [] n told) : Full N l (finF st) := by
  have hfin : finF st = st.opt ++ st.con.map fun c => (c.1, c.2.flatten) := fold_fresh _ _ K.nd
  have hkeys : (finF st).map (·.1) = st.opt.map (·.1) ++ st.con.map (·.1) := by rw [hfin, List.map_append, List.map_map]; rfl
  have hnd := K.nd
  rw [List.nodup_append] at hnd
  have row : ∀ k < N, ((piecesF (l k) (d k) (b k)).length = 1 ∧ dget st.con (names.getD k []) = none ∧ dget st.opt (names.getD k []) = some (l k)) ∨
      ((piecesF (l k) (d k) (b k)).length ≠ 1 ∧ dget st.opt (names.getD k []) = none ∧ dget st.con (names.getD k []) = some (piecesF (l k) (d k) (b k))) := by
    intro k hk
    obtain ⟨n, told, r⟩ := R k hk
    have hp := pieces_len (l k) (d k) (b k)
    have hn : n = (piecesF (l k) (d k) (b k)).length := by
      have h1 := r.rem
      have h2 := r.le
      cases hd : (piecesF (l k) (d k) (b k)).drop n with
      | nil => have := List.drop_eq_nil_iff.mp hd; omega
      | cons p q => rw [hd] at h1; cases h1
    by_cases h1 : (piecesF (l k) (d k) (b k)).length = 1
    · obtain ⟨g1, g2⟩ := r.one h1
      rw [if_neg (by omega)] at g2
      exact .inl ⟨h1, g1, g2⟩
    · obtain ⟨g1, g2⟩ := r.more h1
      rw [if_neg (by omega), hn, List.take_length] at g2
      exact .inr ⟨h1, g1, g2⟩
  have hmem : ∀ e ∈ finF st, ∃ k < N, e = (names.getD k [], l k) := by
    intro e he
    rw [hfin] at he
    rcases List.mem_append.mp he with he | he
    · obtain ⟨k, hk, hx⟩ := K.sub e.1 (List.mem_append_left _ (List.mem_map.mpr ⟨e, he, rfl⟩))
      have hg := dget_of_mem (x := e.1) (y := e.2) hnd.1 he
      rw [hx] at hg
      refine ⟨k, hk, ?_⟩
      rcases row k hk with ⟨_, _, g⟩ | ⟨_, g, _⟩
      · rw [g] at hg; cases e; cases hx; cases hg; rfl
      · rw [g] at hg; cases hg
    · obtain ⟨c, hc, rfl⟩ := List.mem_map.mp he
      obtain ⟨k, hk, hx⟩ := K.sub c.1 (List.mem_append_right _ (List.mem_map.mpr ⟨c, hc, rfl⟩))
      have hg := dget_of_mem (x := c.1) (y := c.2) hnd.2.1 hc
      rw [hx] at hg
      refine ⟨k, hk, ?_⟩
      rcases row k hk with ⟨_, g, _⟩ | ⟨_, _, g⟩
      · rw [g] at hg; cases hg
      · rw [g] at hg
        have : c.2 = piecesF (l k) (d k) (b k) := (Option.some.inj hg).symm
        rw [hx, this, pieces_flat]
  refine ⟨by rw [hkeys]; exact K.nd, hmem, ?_⟩
  have hn1 : ((List.range N).map fun k => names.getD k []).Nodup := by
    refine (List.pairwise_map.mpr ?_)
    refine List.Pairwise.imp_of_mem (fun {a b} ha hb hab => ?_) List.nodup_range
    rw [List.mem_range] at ha hb
    exact names_ne (by omega) (by omega) hab
  have l1 := List.Nodup.length_le_of_subset (l₁ := (finF st).map (·.1)) (l₂ := (List.range N).map fun k => names.getD k []) (by rw [hkeys]; exact K.nd) (fun x hx => by
    rw [hkeys] at hx
    obtain ⟨k, hk, rfl⟩ := K.sub x hx
    exact List.mem_map.mpr ⟨k, List.mem_range.mpr hk, rfl⟩)
  have l2 := List.Nodup.length_le_of_subset (l₁ := (List.range N).map fun k => names.getD k []) (l₂ := (finF st).map (·.1)) hn1 (fun x hx => by
    obtain ⟨k, hk, rfl⟩ := List.mem_map.mp hx
    rw [List.mem_range] at hk
    rw [hkeys]
    have some_mem : ∀ {α : Type} {m : List (T × α)} {y : α}, dget m (names.getD k []) = some y → names.getD k [] ∈ m.map (·.1) := fun {α m y} q => by
      by_cases hm : names.getD k [] ∈ m.map (·.1)
      · exact hm
      · rw [dget_none_iff.mpr hm] at q; cases q
    rcases row k hk with ⟨_, _, g⟩ | ⟨_, _, g⟩
    · exact List.mem_append_left _ (some_mem g)
    · exact List.mem_append_right _ (some_mem g))
  rw [List.length_map, List.length_map, List.length_range] at l1 l2
  omega
end Mine
end
section
open PySem PySem.Spec PySem.Calls PyProof.Rows PySem.W PySem.Builtin
set_option maxRecDepth 100000
namespace Mine
def sumF (f : T → Nat) (ps : List T) : Nat := (ps.map f).sum
theorem Mix.sum {f : T → Nat} {rows : List (List T)} {ps : List T} (M : Mix rows ps) : sumF f ps = (rows.map (sumF f)).sum := by
  induction M with
  | nil h =>
    rename_i rows
    have : (rows.map (sumF f)).sum = 0 := by
      induction rows with
      | nil => rfl
      | cons r rs ih =>
        rw [List.map_cons, List.sum_cons, ih fun r hr => h r (List.mem_cons_of_mem _ hr), h r (List.mem_cons_self ..)]; rfl
    rw [this]; rfl
  | cons _ ih =>
    unfold sumF at ih ⊢
    simp only [List.map_cons, List.sum_cons, List.map_append, List.sum_append] at ih ⊢
    omega
theorem Mix.mem {rows : List (List T)} {ps : List T} (M : Mix rows ps) : ∀ p ∈ ps, ∃ r ∈ rows, p ∈ r := by
  induction M with
  | nil _ => intro p hp; cases hp
  | @cons A B q r ps _ ih =>
    intro p hp
    rcases List.mem_cons.mp hp with rfl | hp
    · exact ⟨_, List.mem_append_right _ (List.mem_cons_self ..), List.mem_cons_self ..⟩
    · obtain ⟨r', h1, h2⟩ := ih p hp
      rcases List.mem_append.mp h1 with h1 | h1
      · exact ⟨r', List.mem_append_left _ h1, h2⟩
      · rcases List.mem_cons.mp h1 with rfl | h1
        · exact ⟨_, List.mem_append_right _ (List.mem_cons_self ..), List.mem_cons_of_mem _ h2⟩
        · exact ⟨r', List.mem_append_right _ (List.mem_cons_of_mem _ h1), h2⟩
theorem write1_sz {nm l : T} {d b : Int} {np n : Nat} {told : Bool} {p : T} (h1 : nm.length ≤ 6) : (write1 nm l d b np told n p).1.length ≤ 27 + 9 * p.length := by
  have hm : (if np = 1 then nm else nm ++ [42] ++ [48 + n]).length ≤ 8 := by
    split
    · omega
    · simp only [List.length_append, List.length_cons, List.length_nil]; omega
  have hc := coded_len p (kindF l d) (decide (d / 3 % 2 = 0))
  have hq := quoted_len p
  have h3 := chs_len (kindF l d).toNat (d / 5 % 2).toNat
  have h4 := tg_len (d / 11 % 3).toNat
  unfold write1
  simp only
  generalize (if np = 1 then nm else nm ++ [42] ++ [48 + n]) = mk at hm
  split
  · split
    · simp only [List.length_append, List.length_cons, List.length_nil]; omega
    · simp only [List.length_append, List.length_cons, List.length_nil]; omega
  · split
    · simp only [List.length_append, List.length_cons, List.length_nil]; omega
    · simp only [List.length_append, List.length_cons, List.length_nil]; omega
theorem writeL_sz {nm l : T} {d b : Int} {np : Nat} (B : Nat) (h1 : nm.length ≤ 6) : ∀ (ps : List T) (n : Nat) (told : Bool), sumF (fun p => B + p.length) (writeL nm l d b np n told ps) ≤ (B + 27) * ps.length + 9 * ps.flatten.length
  | [], _, _ => Nat.zero_le _
  | p :: r, n, told => by
    have ih := writeL_sz (l := l) (d := d) (b := b) (np := np) B h1 r (n + 1) (write1 nm l d b np told n p).2
    have hw := write1_sz (l := l) (d := d) (b := b) (np := np) (n := n) (told := told) (p := p) h1
    show ((writeL nm l d b np n told (p :: r)).map _).sum ≤ _
    unfold sumF at ih
    rw [writeL, List.map_cons, List.sum_cons, List.length_cons, List.flatten_cons, List.length_append, Nat.mul_add, Nat.mul_one]
    omega
theorem sum_rows {f : List T → Nat} {B : Nat} : ∀ (ks : List (List T)), (∀ r ∈ ks, f r ≤ B) → (ks.map f).sum ≤ B * ks.length
  | [], _ => Nat.zero_le _
  | r :: rs, h => by
    have h1 := h r (List.mem_cons_self ..)
    have h2 := sum_rows rs fun r hr => h r (List.mem_cons_of_mem _ hr)
    rw [List.map_cons, List.sum_cons, List.length_cons, Nat.mul_add, Nat.mul_one]
    omega
theorem parts_sz (bet : T) : ∀ ps : List T, (partsB bet ps).length = sumF (fun p => bet.length + p.length) ps
  | [] => rfl
  | p :: r => by
    have ih := parts_sz bet r
    unfold partsB sumF at ih ⊢
    rw [List.flatMap_cons, List.length_append, List.length_append, ih, List.map_cons, List.sum_cons]
theorem parts_flat (bet : T) : ∀ es : List (T × T), partsB bet (es.map ptx) = flatB bet es
  | [] => rfl
  | e :: r => by
    have ih := parts_flat bet r
    unfold partsB flatB at ih ⊢
    rw [List.map_cons, List.flatMap_cons, List.flatMap_cons, ih]
theorem join_flat (s x : T) : ∀ ys : List T, joinF s (x :: ys) = x ++ partsB s ys
  | [] => by show x = x ++ []; rw [List.append_nil]
  | y :: r => by
    show x ++ s ++ joinF s (y :: r) = _
    rw [join_flat s y r]
    unfold partsB
    rw [List.flatMap_cons, List.append_assoc, List.append_assoc]
theorem signs_text (d : Int) : ∀ c ∈ textF d, c ∈ signs := by
  intro c hc
  unfold textF at hc
  obtain ⟨n, _, rfl⟩ := List.mem_map.mp hc
  have h1 : (d / 14 ^ n % 14).toNat < 14 := by omega
  generalize (d / 14 ^ n % 14).toNat = m at h1
  have all : ∀ m : Fin 14, signs.getD m.val 0 ∈ signs := by decide
  exact all ⟨m, h1⟩
theorem uq_qhv (l : T) : uqF (qhvF l) = l ∧ ((qhvF l ≠ [] ∧ ∀ x ∈ qhvF l, tokC x = true) ∨ ∃ l', qhvF l = quotedF l') := by
  unfold qhvF
  split
  · rename_i h; subst h; exact ⟨rfl, .inr ⟨[], rfl⟩⟩
  · rename_i h
    split
    · rename_i h2
      rw [List.all_eq_true] at h2
      exact ⟨uq_plain fun x hx => (tok59 (h2 x hx)).2.2.2, .inl ⟨h, h2⟩⟩
    · exact ⟨uq_quoted l, .inr ⟨l, rfl⟩⟩
theorem qhv_sz (l : T) : (qhvF l).length ≤ 4 * l.length + 2 := by
  have := quoted_len l
  unfold qhvF
  split
  · simp
  · split
    · omega
    · exact this
theorem nm_facts {k : Nat} (hk : k < 3) : (names.getD k []).length ≤ 6 ∧ names.getD k [] ≠ [] ∧ (∀ x ∈ names.getD k [], tokC x = true) ∧ (names.getD k []).map lowC = names.getD k [] ∧ names.getD k [] ∈ keyL ∧ markF (names.getD k []) = some (names.getD k [], false, false) ∧ (names.getD k []).getLast? ≠ some 42 := by
  have all : ∀ k : Fin 3, (names.getD k.val []).length ≤ 6 ∧ names.getD k.val [] ≠ [] ∧ (∀ x ∈ names.getD k.val [], tokC x = true) ∧ (names.getD k.val []).map lowC = names.getD k.val [] ∧ names.getD k.val [] ∈ keyL ∧ markF (names.getD k.val []) = some (names.getD k.val [], false, false) ∧ (names.getD k.val []).getLast? ≠ some 42 := by decide +kernel
  exact all ⟨k, hk⟩
theorem steps_again {N : Nat} (hN : N ≤ 3) {l : Nat → T} (hs : ∀ k < N, ∀ c ∈ l k, c ∈ signs) : ∀ (es pre : List (T × T)), ((pre ++ es).map (·.1)).Nodup → (∀ e ∈ es, ∃ k < N, e = (names.getD k [], l k)) →
    stepsF ⟨pre, [], []⟩ ((es.map fun e => (e.1, qhvF e.2)).map kvF) = some ⟨pre ++ es, [], []⟩
  | [], pre, _, _ => by show some _ = some _; rw [List.append_nil]
  | e :: r, pre, hn, hm => by
    obtain ⟨k, hk, rfl⟩ := hm e (List.mem_cons_self ..)
    obtain ⟨h1, h2, h3, h4, h5, h6, h7⟩ := nm_facts (k := k) (by omega)
    have huq := (uq_qhv (l k)).1
    have hst := step_plain (st := ⟨pre, [], []⟩) (val := qhvF (l k)) (hc := false) h5 h6 (by rw [huq]; exact fun q => sign_37 (hs k hk 37 q) rfl) (fun q => by cases q) (fun _ => rfl)
    rw [huq] at hst
    have hno : dget pre (names.getD k []) = none := by
      rw [dget_none_iff]
      intro q
      rw [List.map_append, List.map_cons, List.nodup_append] at hn
      exact hn.2.2 _ q _ (List.mem_cons_self ..) rfl
    rw [List.map_cons, List.map_cons]
    show (stepF ⟨pre, [], []⟩ ((names.getD k []).map lowC, qhvF (l k))).bind _ = _
    rw [h4, hst]
    show stepsF ⟨dput pre (names.getD k []) (l k), [], []⟩ _ = _
    rw [dput_new _ _ _ hno, steps_again hN hs r _ (by rw [List.append_assoc]; exact hn) fun e he => hm e (List.mem_cons_of_mem _ he), List.append_assoc]
    rfl
theorem plainOk (ns : List Int) : PlainOk (cellsF ns) := by
  have hc8 := cells_len ns
  have hcb := cells_bd ns
  generalize cellsF ns = c at hc8 hcb
  have hc0 := hcb _ (getD_mem (c := c) (i := 0) (by omega))
  have hN1 : 1 ≤ cntF c ∧ cntF c ≤ 3 := by unfold cntF; omega
  have hmain : mainF c ∈ mains := by
    unfold mainF
    have : (c.getD 0 0 / 3 % 3) = 0 ∨ (c.getD 0 0 / 3 % 3) = 1 ∨ (c.getD 0 0 / 3 % 3) = 2 := by omega
    rcases this with e | e | e <;> rw [e] <;> decide
  have hml : (mainF c).length ≤ 9 := by
    have : ∀ m ∈ mains, m.length ≤ 9 := by decide
    exact this _ hmain
  have hbet : betF c ∈ spaces := by
    unfold betF
    have : (c.getD 0 0 / 9 % 5) = 0 ∨ (c.getD 0 0 / 9 % 5) = 1 ∨ (c.getD 0 0 / 9 % 5) = 2 ∨ (c.getD 0 0 / 9 % 5) = 3 ∨ (c.getD 0 0 / 9 % 5) = 4 := by omega
    rcases this with e | e | e | e | e <;> rw [e] <;> decide
  have hbl : (betF c).length ≤ 8 := by
    have : ∀ m ∈ spaces, m.length ≤ 8 := by decide
    exact this _ hbet
  have hnl : ∀ k, (nameF c k).length ≤ 6 := name_len c
  have hup : ∀ k, nameF c k = upN (decide (bitsF c k / 200 % 2 = 1)) k := by
    intro k; unfold nameF upN
    by_cases h : bitsF c k / 200 % 2 = 1
    · rw [if_pos h, decide_eq_true h]; rfl
    · rw [if_neg h, decide_eq_false h]; rfl
  have hrr : ∀ r ∈ rowsF c (cntF c), r ≠ [] ∧ r.length ≤ 3 ∧ sumF (fun p => (betF c).length + p.length) r ≤ 159 ∧ ∀ p ∈ r, p.length ≤ 100 := by
    intro r hr
    obtain ⟨k, _, rfl⟩ := List.mem_map.mp hr
    refine ⟨written_pos, written_len, ?_, written_bd (hnl k) (text_ok _).1⟩
    have h1 := writeL_sz (l := txtF c k) (d := drawF c k) (b := bitsF c k) (np := (piecesF (txtF c k) (drawF c k) (bitsF c k)).length) (betF c).length (hnl k) (piecesF (txtF c k) (drawF c k) (bitsF c k)) 0 false
    have h2 := (pieces_len (txtF c k) (drawF c k) (bitsF c k)).2
    rw [pieces_flat] at h1
    have h3 : (txtF c k).length ≤ 6 := (text_ok _).1
    have h4 : ((betF c).length + 27) * (piecesF (txtF c k) (drawF c k) (bitsF c k)).length ≤ 35 * 3 := Nat.mul_le_mul (by omega) h2
    show sumF _ (writeL _ _ _ _ _ 0 false _) ≤ 159
    omega
  have hrl : (rowsF c (cntF c)).length = cntF c := by unfold rowsF; rw [List.length_map, List.length_range]
  have htot := total_le 3 _ fun r hr => (hrr r hr).2.1
  obtain ⟨ps, hline, hmix⟩ := weave_mix (betF c) 10 (c.getD 7 0) (rowsF c (cntF c)) (mainF c) (fun r hr => (hrr r hr).1) (by omega)
  have hline : lineF c = mainF c ++ partsB (betF c) ps := hline
  obtain ⟨es, st, hps, hpo, hst, hK, hR⟩ := mix_ok hN1.2 (txtF c) (drawF c) (bitsF c) (fun k => decide (bitsF c k / 200 % 2 = 1)) (fun k _ => (text_ok _).1) (fun k _ => signs_text _) hmix hrl ⟨[], [], []⟩ ⟨List.nodup_nil, fun _ h => (nomatch h)⟩ (fun k hk => by
    refine ⟨0, false, Nat.zero_le _, ?_, fun _ => ⟨rfl, rfl⟩, fun _ => ⟨rfl, rfl⟩, fun _ => rfl, fun _ h => (nomatch h)⟩
    have : (rowsF c (cntF c)).getD k [] = rowF c k := by
      unfold rowsF
      rw [List.getD_eq_getElem?_getD, List.getElem?_map, List.getElem?_range hk]; rfl
    rw [this, ← hup]; rfl)
  have hlen : ps.length = total (rowsF c (cntF c)) := by
    have := hmix.sum (f := fun _ => 1)
    have e1 : ∀ qs : List T, sumF (fun _ => 1) qs = qs.length := fun qs => by
      unfold sumF
      induction qs with
      | nil => rfl
      | cons q r ih => rw [List.map_cons, List.sum_cons, ih, List.length_cons]; omega
    rw [e1] at this
    rw [this]
    unfold total
    congr 1
    exact List.map_congr_left fun r _ => e1 r
  have hpos : 0 < total (rowsF c (cntF c)) := by
    cases hrows : rowsF c (cntF c) with
    | nil => rw [hrows] at hrl; simp at hrl; omega
    | cons r rs =>
      have := List.length_pos_iff.mpr (hrr r (by rw [hrows]; exact List.mem_cons_self ..)).1
      unfold total
      rw [List.map_cons, List.sum_cons]; omega
  have hel : es.length = ps.length := by rw [hps, List.length_map]
  have hsz : (partsB (betF c) ps).length ≤ 477 := by
    rw [parts_sz, hmix.sum]
    have := sum_rows (f := sumF fun p => (betF c).length + p.length) _ fun r hr => (hrr r hr).2.2.1
    have h3 : 159 * (rowsF c (cntF c)).length ≤ 159 * 3 := Nat.mul_le_mul (Nat.le_refl _) (by omega)
    omega
  have hval : ∀ e ∈ es, e.2.length ≤ 600 := by
    intro e he
    obtain ⟨r, h1, h2⟩ := hmix.mem (ptx e) (by rw [hps]; exact List.mem_map.mpr ⟨e, he, rfl⟩)
    have := (hrr r h1).2.2.2 _ h2
    unfold ptx at this
    rw [List.length_append, List.length_cons] at this
    omega
  have hparse : parseF (lineF c) = some (mainF c, finF st) := by
    rw [hline, hps, parts_flat, parse_line hmain hbet hpo (by rintro rfl; rw [List.length_nil] at hel; omega) (by omega) hval]
    have : es.map (fun e => (e.1.map lowC, e.2)) = es.map kvF := rfl
    rw [this, hst]; rfl
  have F := fin_full hN1.2 hK hR
  have hdeq : dEq (finF st) (wantF c (cntF c)) = true := F.deq hN1.2
  have hmem : ∀ e ∈ finF st, e.1.length ≤ 6 ∧ e.2.length ≤ 6 ∧ e.1.getLast? ≠ some 42 ∧ e.1 ≠ [] ∧ (∀ x ∈ e.1, tokC x = true) := by
    intro e he
    obtain ⟨k, hk, rfl⟩ := F.mem e he
    obtain ⟨h1, h2, h3, h4, h5, h6, h7⟩ := nm_facts (k := k) (by omega)
    exact ⟨h1, (text_ok _).1, h7, h2, h3⟩
  have hdump : dumpF (mainF c) (finF st) = mainF c ++ flatB [59, 32] ((finF st).map fun e => (e.1, qhvF e.2)) := by
    unfold dumpF
    rw [join_flat, ← parts_flat, List.map_map]
    congr 2
    refine List.map_congr_left fun e _ => ?_
    show e.1 ++ [61] ++ qhvF e.2 = e.1 ++ 61 :: qhvF e.2
    simp
  have hp2 : ∀ e ∈ (finF st).map fun e => (e.1, qhvF e.2), PartOk e ∧ (ptx e).length ≤ 33 ∧ e.2.length ≤ 600 := by
    intro e he
    obtain ⟨e0, h0, rfl⟩ := List.mem_map.mp he
    obtain ⟨h1, h2, _, h4, h5⟩ := hmem e0 h0
    have hq := qhv_sz e0.2
    refine ⟨⟨h4, h5, (uq_qhv e0.2).2⟩, ?_, by show (qhvF e0.2).length ≤ 600; omega⟩
    unfold ptx
    rw [List.length_append, List.length_cons]
    show e0.1.length + ((qhvF e0.2).length + 1) ≤ 33
    omega
  have hdl : (dumpF (mainF c) (finF st)).length ≤ 600 := by
    rw [hdump, List.length_append, ← parts_flat, parts_sz]
    have h1 : ∀ (qs : List (T × T)), (∀ e ∈ qs, (ptx e).length ≤ 33) → sumF (fun p => ([59, 32] : T).length + p.length) (qs.map ptx) ≤ 35 * qs.length := by
      intro qs
      induction qs with
      | nil => intro _; exact Nat.zero_le _
      | cons q r ih =>
        intro h
        have i1 := ih fun e he => h e (List.mem_cons_of_mem _ he)
        have i2 := h q (List.mem_cons_self ..)
        unfold sumF at i1 ⊢
        rw [List.map_cons, List.map_cons, List.sum_cons, List.length_cons]
        simp only [List.length_cons, List.length_nil] at i1 ⊢
        omega
    have := h1 _ fun e he => (hp2 e he).2.1
    rw [List.length_map, F.len] at this
    omega
  have hes2 : stepsF ⟨[], [], []⟩ (((finF st).map fun e => (e.1, qhvF e.2)).map kvF) = some ⟨finF st, [], []⟩ :=
    steps_again hN1.2 (l := txtF c) (fun k _ => signs_text _) (finF st) [] (by rw [List.nil_append]; exact F.nd) F.mem
  have hflen := F.len
  have hparse2 : parseF (dumpF (mainF c) (finF st)) = some (mainF c, finF st) := by
    rw [hdump, parse_line hmain (bet := [59, 32]) (by decide) (fun e he => (hp2 e he).1) (fun q => by have := congrArg List.length q; rw [List.length_map, F.len, List.length_nil] at this; omega) (by rw [List.length_map]; omega) fun e he => (hp2 e he).2.2]
    have : ((finF st).map fun e => (e.1, qhvF e.2)).map (fun e => (e.1.map lowC, e.2)) = ((finF st).map fun e => (e.1, qhvF e.2)).map kvF := rfl
    rw [this, hes2]; rfl
  refine ⟨by rw [hline, List.length_append]; omega, finF st, hparse, hdeq, by omega, fun e he => ?_, hdl, finF st, hparse2, hdeq, by omega⟩
  obtain ⟨h1, h2, h3, _⟩ := hmem e he
  exact ⟨by omega, by omega, h3⟩
end Mine
end
section
open PySem PySem.Spec PySem.Calls PyProof.Rows PySem.W PySem.Builtin
set_option maxRecDepth 100000
set_option maxHeartbeats 4000000
namespace Mine
variable {prog : Program} {w : World} {H : Heap} {P : Params}
def codeRecIn (K : Frag) (c : Addr) (q : Str) : Bool := match K.lookup c with
  | some ⟨_, _, .fields vs, _⟩ => (match (vs[1]? : Option Value) with | some (.str x _) => x == q | _ => false)
  | _ => false
theorem codeRec_K {K : Frag} {h : Heap} {c : Addr} {q : Str} (X : K.In h) (e : codeRecIn K c q = true) : h.CodeRec (.ref c) q := by
  unfold codeRecIn at e
  split at e
  · rename_i c1 d1 vs s1 hl
    split at e
    · rename_i x t hx
      have : x = q := eq_of_beq e
      subst this
      exact ⟨c, _, vs, t, rfl, X _ _ hl, rfl, hx⟩
    · cases e
  · cases e
theorem fnAt_K (X : (kAt P).In H) : ∀ f : UF, FnAt H f.a (fdU f)
  | .text => ⟨⟨_, X 38 _ rfl, rfl⟩, codeRec_K X (by kernel_rfl)⟩
  | .unquote => ⟨⟨_, X 45 _ rfl, rfl⟩, codeRec_K X (by kernel_rfl)⟩
  | .qhv => ⟨⟨_, X 53 _ rfl, rfl⟩, codeRec_K X (by kernel_rfl)⟩
  | .uqhv => ⟨⟨_, X 65 _ rfl, rfl⟩, codeRec_K X (by kernel_rfl)⟩
  | .dump => ⟨⟨_, X 72 _ rfl, rfl⟩, codeRec_K X (by kernel_rfl)⟩
  | .parse => ⟨⟨_, X 102 _ rfl, rfl⟩, codeRec_K X (by kernel_rfl)⟩
  | .tongues => ⟨⟨_, X 115 _ rfl, rfl⟩, codeRec_K X (by kernel_rfl)⟩
  | .spaces => ⟨⟨_, X 122 _ rfl, rfl⟩, codeRec_K X (by kernel_rfl)⟩
  | .coded => ⟨⟨_, X 129 _ rfl, rfl⟩, codeRec_K X (by kernel_rfl)⟩
  | .quoted => ⟨⟨_, X 136 _ rfl, rfl⟩, codeRec_K X (by kernel_rfl)⟩
  | .pieces => ⟨⟨_, X 143 _ rfl, rfl⟩, codeRec_K X (by kernel_rfl)⟩
  | .written => ⟨⟨_, X 148 _ rfl, rfl⟩, codeRec_K X (by kernel_rfl)⟩
theorem pats_K (X : (kAt P).In H) : Pats H := ⟨fun a code g h => by
  unfold patC at h
  split at h <;> cases h
  · exact ⟨_, _, _, _, _, X 58 { cls := .type "re.Pattern", data := .fields #[.str "\\\\(.)" 320, .int 256 340, .int 1 0, .none, .none, .ref 57, .int 0 0] } (by kernel_rfl), X 57 { cls := .type "tuple", data := .seq (unsC.map fun c => rawInt (c : Nat)) } (by kernel_rfl)⟩
  · exact ⟨_, _, _, _, _, X 77 { cls := .type "re.Pattern", data := .fields #[.str "([\\w!#$%&'*+\\-.^`|~]+)=" 361, .int 256 395, .int 1 0, .none, .none, .ref 76, .int 0 0] } (by kernel_rfl), X 76 { cls := .type "tuple", data := .seq (keyC.map fun c => rawInt (c : Nat)) } (by kernel_rfl)⟩
  · exact ⟨_, _, _, _, _, X 82 { cls := .type "re.Pattern", data := .fields #[.str "(?:\\*(\\d+))?(\\*)?$" 398, .int 256 441, .int 2 0, .none, .none, .ref 81, .int 0 0] } (by kernel_rfl), X 81 { cls := .type "tuple", data := .seq (markC.map fun c => rawInt (c : Nat)) } (by kernel_rfl)⟩
  · exact ⟨_, _, _, _, _, X 87 { cls := .type "re.Pattern", data := .fields #[.str "[\\w!#$%&'*+\\-.^`|~]+" 444, .int 256 472, .int 0 0, .none, .none, .ref 86, .int 0 0] } (by kernel_rfl), X 86 { cls := .type "tuple", data := .seq (tokRC.map fun c => rawInt (c : Nat)) } (by kernel_rfl)⟩
  · exact ⟨_, _, _, _, _, X 92 { cls := .type "re.Pattern", data := .fields #[.str "([\\w!#$%&*+\\-.^`|~]*)'[\\w!#$%&*+\\-.^`|~]*'([\\w!#$%&'*+\\-.^`|~]+)$" 475, .int 256 555, .int 2 0, .none, .none, .ref 91, .int 0 0] } (by kernel_rfl), X 91 { cls := .type "tuple", data := .seq (chsRC.map fun c => rawInt (c : Nat)) } (by kernel_rfl)⟩
  · exact ⟨_, _, _, _, _, X 97 { cls := .type "re.Pattern", data := .fields #[.str ";[ \\t]*" 558, .int 32 585, .int 0 0, .none, .none, .ref 96, .int 0 0] } (by kernel_rfl), X 96 { cls := .type "tuple", data := .seq (delC.map fun c => rawInt (c : Nat)) } (by kernel_rfl)⟩⟩
theorem vr_con' {σ : List Addr} {h : Heap} {c : Value} : VR σ h (.con c) c := by simp only [VR]
theorem tabs_K (X : (kAt P).In H) : ∀ a xs, gtab a = some xs → ∃ vs, H.IsList a vs.toArray ∧ VRs [] H xs vs := fun a xs h => by
  unfold gtab at h
  split at h <;> cases h
  · exact ⟨[.str (S [97]) 595, .str (S [90]) 596, .str (S [55]) 597, .str (S [45]) 598, .str (S [32]) 599, .str (S [59]) 600, .str (S [44]) 601, .str (S [61]) 602, .str (S [34]) 603, .str (S [92]) 604, .str (S [39]) 605, .str (S [42]) 606, .str (S [233]) 607, .str (S [8364]) 608], isList_of (n := 0) (X 103 { cls := .type "list", data := .seq ([.str (S [97]) 595, .str (S [90]) 596, .str (S [55]) 597, .str (S [45]) 598, .str (S [32]) 599, .str (S [59]) 600, .str (S [44]) 601, .str (S [61]) 602, .str (S [34]) 603, .str (S [92]) 604, .str (S [39]) 605, .str (S [42]) 606, .str (S [233]) 607, .str (S [8364]) 608] : List Value).toArray } (by kernel_rfl)), .cons vr_str (.cons vr_str (.cons vr_str (.cons vr_str (.cons vr_str (.cons vr_str (.cons vr_str (.cons vr_str (.cons vr_str (.cons vr_str (.cons vr_str (.cons vr_str (.cons vr_str (.cons vr_str (.nil))))))))))))))⟩
  · exact ⟨[.str (S [110, 97, 109, 101]) 610, .str (S [98]) 611, .str (S [102, 105, 108, 101, 45, 49]) 612], isList_of (n := 0) (X 104 { cls := .type "list", data := .seq ([.str (S [110, 97, 109, 101]) 610, .str (S [98]) 611, .str (S [102, 105, 108, 101, 45, 49]) 612] : List Value).toArray } (by kernel_rfl)), .cons vr_str (.cons vr_str (.cons vr_str (.nil)))⟩
  · exact ⟨[.str (S [85, 84, 70, 45, 56]) 614, .str (S [117, 116, 102, 45, 56]) 615], isList_of (n := 0) (X 105 { cls := .type "list", data := .seq ([.str (S [85, 84, 70, 45, 56]) 614, .str (S [117, 116, 102, 45, 56]) 615] : List Value).toArray } (by kernel_rfl)), .cons vr_str (.cons vr_str (.nil))⟩
  · exact ⟨[.str (S [73, 83, 79, 45, 56, 56, 53, 57, 45, 49]) 616, .str (S [105, 115, 111, 45, 56, 56, 53, 57, 45, 49]) 617], isList_of (n := 0) (X 106 { cls := .type "list", data := .seq ([.str (S [73, 83, 79, 45, 56, 56, 53, 57, 45, 49]) 616, .str (S [105, 115, 111, 45, 56, 56, 53, 57, 45, 49]) 617] : List Value).toArray } (by kernel_rfl)), .cons vr_str (.cons vr_str (.nil))⟩
  · exact ⟨[.str (S [117, 115, 45, 97, 115, 99, 105, 105]) 618, .str (S [65, 83, 67, 73, 73]) 619], isList_of (n := 0) (X 107 { cls := .type "list", data := .seq ([.str (S [117, 115, 45, 97, 115, 99, 105, 105]) 618, .str (S [65, 83, 67, 73, 73]) 619] : List Value).toArray } (by kernel_rfl)), .cons vr_str (.cons vr_str (.nil))⟩
  · exact ⟨[.ref 105, .ref 106, .ref 107], isList_of (n := 0) (X 108 { cls := .type "list", data := .seq ([.ref 105, .ref 106, .ref 107] : List Value).toArray } (by kernel_rfl)), .cons vr_con' (.cons vr_con' (.cons vr_con' .nil))⟩
theorem gns_K {mg : Str → Option Value} (X : (kAt P).In H) (G : H.Ns mainGlobals mg) : ∀ n : GN, ∃ v, mg n.s = some v ∧ VR [] H n.v v
  | .digits => ⟨.str (S [48, 49, 50, 51, 52, 53, 54, 55, 56, 57, 65, 66, 67, 68, 69, 70, 97, 98, 99, 100, 101, 102]) 284, mg_of X G (by kernel_rfl), vr_str⟩
  | .tokens => ⟨.str (S [33, 35, 36, 37, 38, 39, 42, 43, 45, 46, 48, 49, 50, 51, 52, 53, 54, 55, 56, 57, 65, 66, 67, 68, 69, 70, 71, 72, 73, 74, 75, 76, 77, 78, 79, 80, 81, 82, 83, 84, 85, 86, 87, 88, 89, 90, 94, 95, 96, 97, 98, 99, 100, 101, 102, 103, 104, 105, 106, 107, 108, 109, 110, 111, 112, 113, 114, 115, 116, 117, 118, 119, 120, 121, 122, 124, 126]) 307, mg_of X G (by kernel_rfl), vr_str⟩
  | .unslashRe => ⟨.ref 58, mg_of X G (by kernel_rfl), vr_con'⟩
  | .keyRe => ⟨.ref 77, mg_of X G (by kernel_rfl), vr_con'⟩
  | .markRe => ⟨.ref 82, mg_of X G (by kernel_rfl), vr_con'⟩
  | .tokRe => ⟨.ref 87, mg_of X G (by kernel_rfl), vr_con'⟩
  | .charsetRe => ⟨.ref 92, mg_of X G (by kernel_rfl), vr_con'⟩
  | .delimRe => ⟨.ref 97, mg_of X G (by kernel_rfl), vr_con'⟩
  | .signs => ⟨.ref 103, mg_of X G (by kernel_rfl), vr_con'⟩
  | .names => ⟨.ref 104, mg_of X G (by kernel_rfl), vr_con'⟩
  | .charsets => ⟨.ref 108, mg_of X G (by kernel_rfl), vr_con'⟩
theorem bfs_K {mg : Str → Option Value} (X : (kAt P).In H) (G : H.Ns mainGlobals mg) : ∀ f : BF, mg f.s = none
  | .len => mg_none_of X G (by kernel_rfl)
  | .ord => mg_none_of X G (by kernel_rfl)
  | .bytes => mg_none_of X G (by kernel_rfl)
  | .int => mg_none_of X G (by kernel_rfl)
  | .str => mg_none_of X G (by kernel_rfl)
  | .sorted => mg_none_of X G (by kernel_rfl)
  | .all => mg_none_of X G (by kernel_rfl)
theorem ufs_K {mg : Str → Option Value} (X : (kAt P).In H) (G : H.Ns mainGlobals mg) : ∀ f : UF, mg f.s = some (.ref f.a)
  | .text => mg_of X G (by kernel_rfl)
  | .unquote => mg_of X G (by kernel_rfl)
  | .qhv => mg_of X G (by kernel_rfl)
  | .uqhv => mg_of X G (by kernel_rfl)
  | .dump => mg_of X G (by kernel_rfl)
  | .parse => mg_of X G (by kernel_rfl)
  | .tongues => mg_of X G (by kernel_rfl)
  | .spaces => mg_of X G (by kernel_rfl)
  | .coded => mg_of X G (by kernel_rfl)
  | .quoted => mg_of X G (by kernel_rfl)
  | .pieces => mg_of X G (by kernel_rfl)
  | .written => mg_of X G (by kernel_rfl)
theorem bv_K {mb : Str → Option Value} (hb : ∀ x : Str, x ≠ "__name__" → mb x = bootBuiltins x) : ∀ f : BF, mb f.s = some f.v
  | .len => (hb _ (by decide +kernel)).trans (by kernel_rfl)
  | .ord => (hb _ (by decide +kernel)).trans (by kernel_rfl)
  | .bytes => (hb _ (by decide +kernel)).trans (by kernel_rfl)
  | .int => (hb _ (by decide +kernel)).trans (by kernel_rfl)
  | .str => (hb _ (by decide +kernel)).trans (by kernel_rfl)
  | .sorted => (hb _ (by decide +kernel)).trans (by kernel_rfl)
  | .all => (hb _ (by decide +kernel)).trans (by kernel_rfl)
theorem base_K {q : Program} {loose : List Str} {mean : ExcName → Option Value} {mg mb : Str → Option Value} (X : (kAt P).In H) (h48 : H.get? 48 = some (tabObj #[])) (h60 : H.get? 60 = some (tabObj #[])) (h1 : ∃ o, H.get? 1 = some o) (TT : PyProof.Rows.Top q loose mean mg mb H) : Base prog w H where
  g := ⟨mg, TT.g, gns_K X TT.g, bfs_K X TT.g, mg_none_of X TT.g (by kernel_rfl), ufs_K X TT.g⟩
  b := ⟨mb, TT.b, bv_K TT.builtins, (TT.builtins _ (by decide +kernel)).trans (by kernel_rfl)⟩
  tab := tabs_K X
  t48 := h48
  t60 := h60
  sysm := h1
  nolim := TT.nolimit
theorem topOk_K {q : Program} {loose : List Str} {mean : ExcName → Option Value} {mg mb : Str → Option Value} (X : (kAt P).In H) (h48 : H.get? 48 = some (tabObj #[])) (h60 : H.get? 60 = some (tabObj #[])) (h1 : ∃ o, H.get? 1 = some o) (TT : PyProof.Rows.Top q loose mean mg mb H) : TopOk prog w H where
  base := base_K X h48 h60 h1 TT
  pats := pats_K X
  gx := ⟨⟨52, rfl, codeHd_of_K X (by kernel_rfl)⟩, ⟨64, rfl, codeHd_of_K X (by kernel_rfl)⟩, by
    obtain ⟨bm, ob, a1, a2, a3, a4, a5, a6⟩ := TT.bmain
    exact ⟨mg, bm, ob, TT.g, a1, a2, a3, a4, a5, a6⟩⟩
  fn := fnAt_K X
  law := ⟨⟨_, X 153 _ rfl, rfl⟩, codeRec_K X (by kernel_rfl)⟩
  dflt := ⟨0, X 46 _ rfl⟩
end Mine
end
section
open PySem PySem.Spec PySem.Calls PyProof.Rows PySem.W PySem.Builtin
set_option maxRecDepth 100000
set_option maxHeartbeats 4000000
namespace Mine
variable {prog : Program} {w : World} {s : Shared}
/-! ## the law's own call -/
def lawRest : CS := match b_law with | .sp _ r => r | c => c
theorem law_is : b_law = .sp 0 lawRest := rfl
def Z1 : Nat → Bool | 1 => true | _ => false
theorem chk_rest : ∀ L a, chkS (kdS fdLaw.scope) PLaw Z1 3 (nmS slLaw) sxP (callEnvC fdLaw L a) lawRest := fun L a => by
  unfold lawRest b_law
  simp only [bl_row, bl_turn, bl_end, chkS]
  repeat' (first | exact True.intro | refine And.intro ?_ ?_ | kernel_rfl | (intro x; kernel_rfl))
theorem law_call (T : TopOk prog w s.heap) {A : Around} (hd : A.depth + 1 + 60 ≤ 800) (hu : A.units + 3 + 600 ≤ 9000) (hh : A.handled = none) (hg : A.guards = some []) {sa : Addr} {items : Array Value} {ns : List Int} (hsa : s.heap.IsList sa items) (hns : IntsAre items.toList ns) (hn : ns.length ≤ 1000) (hgens : AllBare s.gens)
    {Q : Value → Shared → Prop} {E : Value → Shared → Prop} (hQ : ∀ s', (∀ b o, b ≠ 48 → b ≠ 60 → s.heap.get? b = some o → s'.heap.get? b = some o) → Tabs s'.heap → s'.os = s.os → AllBare s'.gens → Q (.bool true) s') :
    wpAny (model prog w) A (call (.ref 153) [.ref sa]) Q E s := by
  have hB := T.base
  have X : Pre prog w [] [] s := by
    refine ⟨rfl, by decide, fun b hb => ?_, fun i ao e => (by simp at e), ⟨.inl hB.t48, .inl hB.t60⟩, hgens⟩
    simp only [List.mem_cons, List.not_mem_nil, or_false] at hb
    rcases hb with rfl | rfl
    · exact ⟨_, hB.t48, rfl⟩
    · exact ⟨_, hB.t60, rfl⟩
  refine call_fn (lv := 3) (avs := [.con (.ref sa)]) (vs := [.ref sa]) (args := ⟨[.ref sa], []⟩) hB (fun b o e _ _ => ⟨e, List.not_mem_nil⟩) T.law ⟨by decide, by decide⟩ st_law.sc rfl rfl rfl st_law.body rfl (Nat.le_of_ble_eq_true rfl) (.of_eq (by kernel_rfl)) (by omega) (by omega) hh hg (.inr ⟨_, _, rfl⟩) X (.cons vr_con' .nil) fun F s' hF OK ST I hk => ?_
  have hpr : F.pr = fun b o => s.heap.get? b = some o ∧ b ∉ [48, 60] := by rw [hF]; rfl
  have hos : F.os = s.os := by rw [hF]; rfl
  have hlv : F.lv = 3 := by rw [hF]; rfl
  have G := T.gl
  rw [law_is]
  show wpAny _ _ (execs (syP 0 :: toS (nmS slLaw) sxP syP lawRest) F.env) _ _ _
  refine wpAny_execs_cons ?_
  have hsa' : s'.heap.IsList sa items := hsa.at fun o e => hk _ _ e
  have hb := bo_law (ns := ns) (sc := some (.con (.ref sa))) (K := fun f _ _ => f = .ret (.bool true)) (plainOk ns) fun _ _ => rfl
  rw [law_is] at hb
  have hb2 : aS ns lawRest (setL ([some (.con (.ref sa)), none, none, none, none, none, none, none, none, none, none, none, none, none, none, none] : Lo) 1 (.ref ([] : AH).length)) (([] : AH) ++ [.list ((ns.take 8).map fun n => .int (n % 1000000000))]) (fun f _ _ => f = .ret (.bool true)) := hb
  have hnm : F.nm = nmS slLaw := by rw [hF]; exact nm_callF
  have C : Ctx prog w s.heap sxP F PLaw := by
    refine ⟨OK, hB, T.pats, ST, G.fn, fun f _ => u3 T f, fun _ => uo_unquoteK T, fun n hn p hp => ?_, G.pair⟩
    have OK2 := OK.setPr hp
    subst hF
    match n, hn with
    | 4, _ => exact sp4_ok hB OK2
  have hz : ∀ n, Z1 n = true → ∀ p, (∀ b o, F.pr b o → p b o) → SpSOk prog w syP ns (F.setPr p) n := fun n hn p hp => by
    have OK2 := OK.setPr hp
    subst hF
    match n, hn with
    | 1, _ => exact sps1_ok OK2
  have hch : chkS (kdOf F) PLaw Z1 F.lv F.nm sxP F.env lawRest := by
    rw [hnm, hlv, hF]
    exact chk_rest _ _
  have z := okS lawRest C hz hch _ _ _ hb2
  rw [hnm] at z
  have hex : ∀ σ2 s2, Inv prog w F σ2 (setL ([some (.con (.ref sa)), none, none, none, none, none, none, none, none, none, none, none, none, none, none, none] : Lo) 1 (.ref ([] : AH).length)) (([] : AH) ++ [.list ((ns.take 8).map fun n => .int (n % 1000000000))]) s2 →
      wpAny (model prog w) F.A (execs (toS (nmS slLaw) sxP syP lawRest) F.env) (fun f s'' => Q (match f with | .ret v => v | _ => .none) s'') Nev s2 := by
    intro σ2 s2 I2
    refine z.then I2 fun σ3 s3 lo3 ah3 b f I3 p3 f3 r3 q3 => ?_
    have q3 : b = .ret (.bool true) := q3
    subst q3
    obtain ⟨u, rfl, ru⟩ := r3
    have := vr_bool_inv ru
    subst this
    refine hQ s3 (fun b o h1 h2 e => ?_) I3.tabs (by rw [I3.os, hos]) I3.gens
    exact (I3.pr b o (by rw [hpr]; exact ⟨e, by simp only [List.mem_cons, List.not_mem_nil, or_false, not_or]; exact ⟨h1, h2⟩⟩)).1
  subst hF
  exact s0_ok OK I rfl (Nat.le_of_ble_eq_true rfl) hsa' hns hn fun σ2 s2 I2 => hex σ2 s2 I2
end Mine
end
section
open PySem PySem.Spec PySem.Calls PyProof.Rows PySem.W PySem.Builtin
set_option maxRecDepth 100000
set_option maxHeartbeats 8000000
namespace Mine
/-- what is seen of the heap at the end of the top -/
def lawHook : Hook where
  α := List (Option Obj) × List (Option Obj) × Bool
  obs := fun s => (kAs.map s.heap.get?, ([48, 60] : List Addr).map s.heap.get?, (s.heap.get? 1).isSome)
  val := fun w => ((kAt w.params).map fun p => some p.2, ([48, 60] : List Addr).map fun _ => some (tabObj #[]), true)
  says := fun w h => InK kAt w h ∧ (∀ P ∈ ([48, 60] : List Addr), h.get? P = some (tabObj #[])) ∧ ∃ o, h.get? 1 = some o
  of := fun w s x => ⟨InK.of kAs_ok w s (Prod.mk.inj x).1, List.map_inj_left.mp (Prod.mk.inj (Prod.mk.inj x).2).1, Option.isSome_iff_exists.mp (Prod.mk.inj (Prod.mk.inj x).2).2⟩
  keeps := fun w h h' x k => ⟨InK.keeps w h h' x.1 k, fun P hP => k _ _ (x.2.1 P hP), let ⟨o, e⟩ := x.2.2; ⟨o, k _ _ e⟩⟩
theorem old_law {s s' : Shared} {c48 c60 : Addr} (h48 : s.heap.get? 48 = some (tabObj #[])) (h60 : s.heap.get? 60 = some (tabObj #[])) (C48 : CodeHd s.heap c48 48) (C60 : CodeHd s.heap c60 60)
    (hk : ∀ b o, b ≠ 48 → b ≠ 60 → s.heap.get? b = some o → s'.heap.get? b = some o) (ht : Tabs s'.heap) : OldK s.heap s'.heap := by
  have t48 : ∃ more : Array Value, s'.heap.get? 48 = some (tabObj (#[] ++ more)) := by
    rcases ht.1 with h | ⟨c', _, _, _, h, _⟩
    · exact ⟨#[], h⟩
    · exact ⟨_, by rw [h, Array.empty_append]⟩
  have t60 : ∃ more : Array Value, s'.heap.get? 60 = some (tabObj (#[] ++ more)) := by
    rcases ht.2 with h | ⟨c', _, _, _, h, _⟩
    · exact ⟨#[], h⟩
    · exact ⟨_, by rw [h, Array.empty_append]⟩
  obtain ⟨m48, e48⟩ := t48
  obtain ⟨m60, e60⟩ := t60
  refine ⟨fun b o e => ?_, fun b o e => ?_⟩
  · by_cases h1 : b = 48
    · subst h1
      rw [h48] at e; cases e
      exact .inr (.inl ⟨(C48.tab h48).isCodeTable, rfl, #[], m48, rfl, e48⟩)
    · by_cases h2 : b = 60
      · subst h2
        rw [h60] at e; cases e
        exact .inr (.inl ⟨(C60.tab h60).isCodeTable, rfl, #[], m60, rfl, e60⟩)
      · exact .inl (hk b o h1 h2 e)
  · by_cases h1 : b = 48
    · subst h1; exact ⟨_, e48⟩
    · by_cases h2 : b = 60
      · subst h2; exact ⟨_, e60⟩
      · exact ⟨o, hk b o h1 h2 e⟩
theorem law_holds : PySem.Challenge.rw_ez0418_01.Holds := by
  w_on
  o_law
  o_head lawHook
  case hw => w_witness2
  intro w s₀ s₁ mg mb G Y fa o pm cd doc dV kV ho hd hcd hD hmg hg args vals as hpre hlay hrd hwl hlo
  obtain ⟨X, hT, h1⟩ := Y
  have X : (kAt w.params).In s₁.heap := X
  have hfa : mg "law" = some (.ref 153) := mg_of X G.T.g (by kernel_rfl)
  have hmg : mg "law" = some (.ref fa) := hmg
  rw [hfa] at hmg
  cases hmg
  have T := topOk_K (prog := PySem.Challenge.pw_ez0418_01) (w := w) X (hT 48 (by simp)) (hT 60 (by simp)) h1 G.T
  wrow_args hpre hlay hrd hwl hlo
  rename_i ns hs hlay0 hL1 hr1 hl2 as1 as2 sa vs as3 hL ra w1 r0 hI hr hcond' hc2
  refine law_call T (by decide) (by decide) rfl rfl hL (by simpa using hI) (by omega) (.of_eq hg) fun s' hk ht hos hgs => ?_
  obtain ⟨c48, _, C48⟩ := T.gx.c48
  obtain ⟨c60, _, C60⟩ := T.gx.c60
  refine ⟨.inl ⟨.bool true, .bool true, [], rfl, fun _ => rfl, ?_, ?_, fun _ => ⟨List.nodup_nil, fun _ h => (nomatch h)⟩⟩, old_law (hT 48 (by simp)) (hT 60 (by simp)) C48 C60 hk ht, hos, hgs⟩
  · exact .bool true
  · wrow_post
end Mine
end
theorem PySem.Challenge.cw_ez0418_01_holds : PySem.Challenge.rw_ez0418_01.Holds := by
  exact Mine.law_holds
