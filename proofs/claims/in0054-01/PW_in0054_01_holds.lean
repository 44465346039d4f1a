import PyProof.Rows.All
import Wide.All
import OpenK.AllK
import Wide.FinOn
import PyProof.FactsAll.list
import PyProof.IsiH_list
import PyProof.TupleCall
import PySem.Challenge.RW_in0054_01
open PySem PySem.W PyProof.Rows
set_option Elab.async false
set_option compiler.extract_closed false
set_option linter.unusedVariables false
set_option linter.unusedSimpArgs false
set_option linter.unusedSectionVars false
namespace Mine
section
open PySem
theorem len1 {α : Type} : ∀ {l : List α}, l.length = 1 → ∃ a, l = [a]
  | [a], _ => ⟨a, rfl⟩
theorem len2 {α : Type} : ∀ {l : List α}, l.length = 2 → ∃ a b, l = [a, b]
  | [a, b], _ => ⟨a, b, rfl⟩
theorem len3 {α : Type} : ∀ {l : List α}, l.length = 3 → ∃ a b c, l = [a, b, c]
  | [a, b, c], _ => ⟨a, b, c, rfl⟩
theorem lt4 {n : Nat} (h : n < 4) : n = 0 ∨ n = 1 ∨ n = 2 ∨ n = 3 := by
  match n, h with
  | 0, _ => exact .inl rfl
  | 1, _ => exact .inr (.inl rfl)
  | 2, _ => exact .inr (.inr (.inl rfl))
  | 3, _ => exact .inr (.inr (.inr rfl))
theorem toNat_mod (z : Int) {k : Nat} (hk : 0 < k) : (z % (k : Int)).toNat < k := by
  have h1 := Int.emod_nonneg z (Int.natCast_ne_zero.mpr (Nat.pos_iff_ne_zero.mp hk))
  have h2 := Int.emod_lt_of_pos z (Int.natCast_pos.mpr hk)
  exact (Int.toNat_lt h1).mpr h2
theorem mod4 (z : Int) : (z % 4).toNat = 0 ∨ (z % 4).toNat = 1 ∨ (z % 4).toNat = 2 ∨ (z % 4).toNat = 3 := lt4 (toNat_mod z (k := 4) (by decide))
theorem mod5 (z : Int) : (z % 5).toNat = 0 ∨ (z % 5).toNat = 1 ∨ (z % 5).toNat = 2 ∨ (z % 5).toNat = 3 ∨ (z % 5).toNat = 4 := by
  have h := toNat_mod z (k := 5) (by decide)
  rcases Nat.lt_succ_iff_lt_or_eq.mp h with h | h
  · rcases lt4 h with e | e | e | e
    · exact .inl e
    · exact .inr (.inl e)
    · exact .inr (.inr (.inl e))
    · exact .inr (.inr (.inr (.inl e)))
  · exact .inr (.inr (.inr (.inr h)))
theorem subN3 (a b c : Nat) : ((a : Int) - (b : Int) - (c : Int)).toNat = a - b - c := by
  rw [Int.sub_sub, Nat.sub_sub]
  exact Int.toNat_sub a (b + c)
theorem idx1 {k n : Nat} (h : k < n) : (0 : Int) ≤ (k : Int) ∧ (k : Int) < (n : Int) := ⟨Int.natCast_nonneg k, Int.ofNat_lt.mpr h⟩
theorem seq_ix {i : Int} {len : Nat} (h0 : 0 ≤ i) (h1 : i < (len : Int)) : seqIndex? i len = some i.toNat := by
  unfold seqIndex?
  dsimp only
  rw [if_neg (Int.not_lt.mpr h0), decide_eq_true h0, decide_eq_true h1]; rfl
theorem seq_last {len : Nat} (h : 0 < len) : seqIndex? (-1) len = some (len - 1) := by
  obtain ⟨m, rfl⟩ : ∃ m, len = m + 1 := ⟨len - 1, (Nat.succ_pred_eq_of_pos h).symm⟩
  have e : (-1 : Int) + ((m + 1 : Nat) : Int) = (m : Int) := by rw [Int.natCast_succ, Int.add_comm, Int.add_neg_cancel_right]
  show (if (decide (0 ≤ (-1 : Int) + ((m + 1 : Nat) : Int)) && decide ((-1 : Int) + ((m + 1 : Nat) : Int) < ((m + 1 : Nat) : Int))) = true then some ((-1 : Int) + ((m + 1 : Nat) : Int)).toNat else none) = some (m + 1 - 1)
  rw [e, decide_eq_true (Int.natCast_nonneg m), decide_eq_true (Int.ofNat_lt.mpr (Nat.lt_succ_self m))]; rfl
theorem pos_name {x : Str} {p : Pos} : (Expr.Name x p).pos = p := rfl
theorem min_step (a n k : Nat) : min (a + k) n - min a n ≤ k := by
  rcases Nat.le_total a n with h | h
  · rw [Nat.min_eq_left h]
    exact Nat.sub_le_of_le_add (Nat.le_trans (Nat.min_le_left _ _) (Nat.le_of_eq (Nat.add_comm a k)))
  · rw [Nat.min_eq_right h, Nat.min_eq_right (Nat.le_trans h (Nat.le_add_right _ _)), Nat.sub_self]
    exact Nat.zero_le _
theorem cnt_sub {a b : Nat} (h : ¬ b = 0) : a - (b - 1) = a + 1 - b := by
  cases b with
  | zero => exact absurd rfl h
  | succ m => exact (Nat.add_sub_add_right a 1 m).symm
theorem min_cut {a b l : Nat} (h : a - b = l) (hb : a ≤ l) : min (a - b) (l - b) = l :=
  Nat.le_antisymm (Nat.le_trans (Nat.min_le_left _ _) (Nat.le_of_eq h)) (Nat.le_min.mpr ⟨Nat.le_of_eq h.symm, Nat.le_trans (Nat.le_of_eq h.symm) (Nat.sub_le_sub_right hb _)⟩)
theorem clip_le (i : Int) (n : Nat) : (max 0 (min i (n : Int))).toNat ≤ n := Int.toNat_le.mpr (Int.max_le.mpr ⟨Int.natCast_nonneg _, Int.min_le_right _ _⟩)
theorem clip_nat (k n : Nat) : (max 0 (min (if (k : Int) < 0 then (k : Int) + (n : Int) else (k : Int)) (n : Int))).toNat = min k n := by
  rw [if_neg (Int.not_lt.mpr (Int.natCast_nonneg k))]
  rcases Nat.le_total k n with h | h
  · rw [Nat.min_eq_left h, Int.min_eq_left (Int.ofNat_le.mpr h), Int.max_eq_right (Int.natCast_nonneg _)]; rfl
  · rw [Nat.min_eq_right h, Int.min_eq_right (Int.ofNat_le.mpr h), Int.max_eq_right (Int.natCast_nonneg _)]; rfl
noncomputable abbrev hsz (s : Shared) : Nat := s.heap.objs.size
theorem Runs_hsz {M : Model} {Γ : Ctx} {p : Pos} {t : Sem Fin} {fs : List Frame} {s s' : Shared} {e : End} (h : Runs M Γ p t fs s e s') : hsz s ≤ hsz s' := by
  induction h <;> (unfold hsz at *) <;> (try simp only [Shared.setGen, Heap.size_push, Heap.size_update] at *) <;> first | omega | skip
theorem Returns_hsz {M : Model} {Γ : Ctx} {p : Pos} {s s' : Shared} {r : Result} (h : Returns M Γ p s r s') : hsz s ≤ hsz s' := Runs_hsz h
theorem Wakes_hsz {M : Model} {Γ : Ctx} {p : Pos} {g : Nat} {r : Resume} {s s' : Shared} {res : GenResult} (h : Wakes M Γ p g r s res s') : hsz s ≤ hsz s' := by
  unfold Wakes at h
  repeat' split at h
  all_goals first
    | exact False.elim h
    | (obtain ⟨_, s1, run, _, _, q⟩ := h; subst q; have k := Runs_hsz run; exact k)
    | (obtain ⟨_, q⟩ := h; subst q; exact Nat.le_refl _)
/-- no step of a run makes the heap shorter -/
theorem wp_hsz {α : Type} (M : Model) (Γ : Ctx) (n : Nat) (t : Sem α) : ∀ (Q : α → Pos → Shared → Prop) (E : Value → Pos → Shared → Prop) (p : Pos) (s : Shared), n ≤ hsz s → Sem.wp M Γ t Q E p s →
    Sem.wp M Γ t (fun a p' s' => n ≤ hsz s' ∧ Q a p' s') (fun e p' s' => n ≤ hsz s' ∧ E e p' s') p s := by
  induction t <;> intro Q E p s le w
  case call ih => obtain ⟨r, s1, run, rest⟩ := w; exact ⟨r, s1, run, ih r Q E p s1 (Nat.le_trans le (Returns_hsz run)) rest⟩
  case resume ih => obtain ⟨r, s1, run, rest⟩ := w; exact ⟨r, s1, run, ih r Q E p s1 (Nat.le_trans le (Wakes_hsz run)) rest⟩
  case update ih => exact ⟨w.1, ih () Q E p _ (Nat.le_trans le (Nat.le_of_eq (Heap.size_update ..).symm)) w.2⟩
  case alloc ih => exact ih _ Q E p _ (Nat.le_trans le (Nat.le_trans (Nat.le_succ _) (Nat.le_of_eq (Heap.size_push ..).symm))) w
  all_goals first
    | exact ⟨le, w⟩
    | exact w
    | (rename_i ih; exact ih _ Q E _ _ le w)
    | (rename_i ih; exact ⟨w.1, ih _ Q E _ _ le w.2⟩)
    | (rename_i ih; obtain ⟨x, there, rest⟩ := w; exact ⟨x, there, ih _ Q E _ _ le rest⟩)
theorem wpAny_toks {α : Type} {M : Model} {A : Around} {s : Shared} {t : Sem α} {Q : α → Shared → Prop} {E : Value → Shared → Prop}
    (h : wpAny M A t (fun a s' => s.toks ≤ s'.toks → Q a s') E s) : wpAny M A t Q E s :=
  fun Γ p hΓ => Sem.wp_mono M Γ t (fun _ _ _ x => x.2 x.1) (fun _ _ _ x => x.2) _ _ (Sem.wp_toks M Γ _ t _ _ p s (Nat.le_refl _) (h Γ p hΓ))

theorem wpAny_hsz {α : Type} {M : Model} {A : Around} {s : Shared} {t : Sem α} {Q : α → Shared → Prop} {E : Value → Shared → Prop}
    (h : wpAny M A t (fun a s' => s.heap.objs.size ≤ s'.heap.objs.size ∧ s.toks ≤ s'.toks → Q a s') E s) : wpAny M A t Q E s :=
  wpAny_toks fun Γ p hΓ => Sem.wp_mono M Γ t (fun _ _ _ x z => x.2 ⟨x.1, z⟩) (fun _ _ _ x => x.2) _ _ (wp_hsz M Γ _ t _ _ p s (Nat.le_refl _) (h Γ p hΓ))
end
section
open PySem PySem.W PyProof.Rows PySem.Calls
set_option maxRecDepth 100000

noncomputable abbrev prog : Program := PySem.Challenge.pw_in0054_01

/-- a part of the heap that stands as it is -/
noncomputable abbrev GH := Addr → Option Obj
noncomputable def GH.In (G : GH) (h : Heap) : Prop := ∀ b o, G b = some o → h.get? b = some o
noncomputable def GH.Le (G G' : GH) : Prop := ∀ b o, G b = some o → G' b = some o
theorem GH.Le.refl (G : GH) : G.Le G := fun _ _ e => e
theorem GH.Le.trans {a b c : GH} (x : a.Le b) (y : b.Le c) : a.Le c := fun p o e => y p o (x p o e)
noncomputable def GH.put (G : GH) (a : Addr) (o : Obj) : GH := fun b => if b = a then some o else G b

mutual
/-- what a value reads as (no dicts; lists and tuples without a dict of their own) -/
inductive Rd (G : GH) : Value → PyData → Prop
  | none : Rd G .none .none
  | bool (b) : Rd G (.bool b) (.bool b)
  | int (i t) : Rd G (.int i t) (.int i)
  | str (x t) : Rd G (.str x t) (.str x)
  | list {a o vs n xs} : G a = some o → o.cls = .type "list" → o.dict = .none → o.data = .seq vs n → RdA G vs.toList xs → Rd G (.ref a) (.list xs)
  | tuple {a o vs n xs} : G a = some o → o.cls = .type "tuple" → o.dict = .none → o.data = .seq vs n → RdA G vs.toList xs → Rd G (.ref a) (.tuple xs)
inductive RdA (G : GH) : List Value → List PyData → Prop
  | nil : RdA G [] []
  | cons {v vs d ds} : Rd G v d → RdA G vs ds → RdA G (v :: vs) (d :: ds)
end
mutual
theorem Rd.reads {G : GH} {h : Heap} (k : G.In h) : ∀ {v : Value} {d : PyData}, Rd G v d → ∃ as, Reads h v d as
  | _, _, .none => ⟨_, .none⟩
  | _, _, .bool b => ⟨_, .bool b⟩
  | _, _, .int i t => ⟨_, .int i t⟩
  | _, _, .str x t => ⟨_, .str x t⟩
  | _, _, .list e c _ d r => let ⟨_, q⟩ := RdA.reads k r; ⟨_, .list (k _ _ e) c d q⟩
  | _, _, .tuple e c _ d r => let ⟨_, q⟩ := RdA.reads k r; ⟨_, .tuple (k _ _ e) c d q⟩
theorem RdA.reads {G : GH} {h : Heap} (k : G.In h) : ∀ {vs : List Value} {ds : List PyData}, RdA G vs ds → ∃ as, ReadsAll h vs ds as
  | _, _, .nil => ⟨_, .nil⟩
  | _, _, .cons a b => let ⟨_, x⟩ := Rd.reads k a; let ⟨_, y⟩ := RdA.reads k b; ⟨_, .cons x y⟩
end

/-- the table of _translate's nested code: the one old object that a run may change -/
noncomputable abbrev TB : Addr := 108

noncomputable def stAt (i : Nat) : Option Stmt := prog.main.body[i]?
noncomputable def fnName (i : Nat) : Str := match stAt i with | some (.FunctionDef n _ _ _ _ _ _ _ _ _) => n | _ => Str.empty
noncomputable def fnArgs (i : Nat) : Arguments := match stAt i with | some (.FunctionDef _ a _ _ _ _ _ _ _ _) => a | _ => ⟨[], [], none, [], [], none, []⟩
noncomputable def fnBody (i : Nat) : List Stmt := match stAt i with | some (.FunctionDef _ _ b _ _ _ _ _ _ _) => b | _ => []
noncomputable def fnScope (i : Nat) : Scope := match stAt i with | some (.FunctionDef _ _ _ _ _ _ s _ _ _) => s | _ => { kind := .function, names := [], isGenerator := false, isCoroutine := false }

noncomputable def FnAt (g : Heap) (i : Nat) (a : Addr) : Prop := ∃ o pm cd doc, g.get? a = some o ∧ o.data = .func (docDef (fnName i) (fnArgs i) (fnBody i) (fnScope i) pm cd doc) ∧ g.CodeRec cd (fnName i)
/-- a def with defaults -/
noncomputable def FnD (g : Heap) (i : Nat) (a : Addr) (dv kv : Value) : Prop := ∃ o pm cd doc, g.get? a = some o ∧ o.data = .func { docDef (fnName i) (fnArgs i) (fnBody i) (fnScope i) pm cd doc with defaults := dv, kwdefaults := kv } ∧ g.CodeRec cd (fnName i)
theorem FnD.keeps {g h : Heap} {i : Nat} {a : Addr} {dv kv : Value} (x : FnD g i a dv kv) (k : ∀ b o, g.get? b = some o → h.get? b = some o) : FnD h i a dv kv :=
  let ⟨o, pm, cd, doc, e, d, c⟩ := x; ⟨o, pm, cd, doc, k _ _ e, d, c.keeps k⟩
theorem FnAt.keeps {g h : Heap} {i : Nat} {a : Addr} (x : FnAt g i a) (k : ∀ b o, g.get? b = some o → h.get? b = some o) : FnAt h i a :=
  let ⟨o, pm, cd, doc, e, d, c⟩ := x; ⟨o, pm, cd, doc, k _ _ e, d, c.keeps k⟩

noncomputable def fnT : List (Nat × Addr) := [(3, 45), (4, 52), (6, 59), (7, 66), (14, 94), (17, 106), (19, 113), (20, 120), (22, 125), (23, 130), (24, 137), (25, 142), (26, 147), (27, 152), (28, 157), (29, 162), (30, 167), (31, 172)]
/-- names that the text's top does not bind: they mean the built-ins -/
noncomputable def bltT : List (Str × Value) := [("type", .type "type"), ("bytes", .type "bytes"), ("bytearray", .type "bytearray"), ("len", .builtin "len"), ("chr", .builtin "chr"), ("sum", .builtin "sum"), ("range", .type "range"), ("min", .builtin "min"), ("max", .builtin "max"), ("ord", .builtin "ord"),
  ("sorted", .builtin "sorted"), ("list", .type "list"), ("isinstance", .builtin "isinstance"), ("str", .type "str"), ("object", .type "object"), ("IndexError", .type "IndexError"), ("ValueError", .type "ValueError"), ("bool", .type "bool"), ("int", .type "int"), ("float", .type "float"),
  ("complex", .type "complex"), ("tuple", .type "tuple"), ("dict", .type "dict"), ("set", .type "set"), ("frozenset", .type "frozenset")]
/-- the signs of base64, as the text has them -/
noncomputable def b64L : List UInt8 := match stAt 8 with | some (.Assign _ (.Constant (.bytes b) _ _) _) => b | _ => []
noncomputable def b64Arr : Array UInt8 := b64L.toArray
/-- what the names of the text's top hold -/
noncomputable def globT : List (Str × Value) := [("sorted_list_difference", .ref 45), ("unorderable_list_difference", .ref 52), ("_buffer", .ref 59), ("_truth", .ref 66), ("b2a_base64", .ref 74), ("b64encode", .ref 82), ("_twin_re_1", .ref 87), ("translate", .ref 94),
  ("_special_chars_map", .ref 96), ("escape", .ref 106), ("_translate", .ref 113), ("_join_translated_parts", .ref 120), ("_law_octets", .ref 125), ("_law_name", .ref 130), ("_law_folders", .ref 137), ("_law_pattern", .ref 142), ("_law_set", .ref 147), ("_law_taken", .ref 152),
  ("_law_bits", .ref 157), ("_law_lacking", .ref 162), ("_law_told", .ref 167), ("law", .ref 172), ("_B64", .bytes b64Arr 333), ("__builtins__", .ref 4)]

/-- the table of the special characters: its rows -/
noncomputable def spT : List (Int × Str) := [(40, "\\("), (41, "\\)"), (91, "\\["), (93, "\\]"), (123, "\\{"), (125, "\\}"), (63, "\\?"), (42, "\\*"), (43, "\\+"), (45, "\\-"), (124, "\\|"), (94, "\\^"), (36, "\\$"), (92, "\\\\"), (46, "\\."), (38, "\\&"), (126, "\\~"), (35, "\\#"), (32, "\\ "), (9, "\\\t"), (10, "\\\n"), (13, "\\\r"), (11, "\\\x0b"), (12, "\\\x0c")]
noncomputable def spOk : List DictEntry → List (Int × Str) → Prop
  | [], [] => True
  | e :: es, r :: rs => (e.hash = r.1 ∧ (∃ t, e.key = .int r.1 t) ∧ ∃ t, e.val = .str r.2 t) ∧ spOk es rs
  | _, _ => False
/-- the code of the one regular expression -/
noncomputable def reT : List Int := [14, 14, 4, 1, 1, 9, 0, 64, 0, 1342177280, 0, 0, 0, 0, 0, 17, 0, 13, 11, 9, 0, 64, 0, 1342177280, 0, 0, 0, 0, 0, 17, 1, 1]
structure Base (g : Heap) : Prop where
  names : ∃ mg mb, g.Ns mainGlobals mg ∧ g.Ns builtinsNs mb ∧ (∀ x v, globT.lookup x = some v → mg x = some v) ∧ (∀ x v, bltT.lookup x = some v → mg x = none ∧ mb x = some v)
  nolimit : g.NoLimit
  fns : ∀ p ∈ fnT, FnAt g p.1 p.2
  fn19 : ∃ o pm doc, g.get? 113 = some o ∧ o.data = .func (docDef (fnName 19) (fnArgs 19) (fnBody 19) (fnScope 19) pm (.ref 112) doc) ∧ g.CodeRec (.ref 112) (fnName 19)
  code19 : ∃ o vs file tf flags tg inF text tt, g.get? 112 = some o ∧ o.cls = .type "code" ∧ o.data = .fields vs ∧ vs[11]? = some (.ref TB) ∧ vs.getD 18 .none = .str file tf ∧ vs.getD 7 .none = .int flags tg ∧ vs.getD 9 .none = .bool inF ∧ vs.getD 10 .none = .int text tt
  bmod : ∃ ob, g.get? 4 = some ob ∧ ob.cls = .type "module" ∧ ob.dict = some builtinsNs ∧ ob.data = .plain
  fn9 : FnD g 9 74 .none (.ref 67)
  fn11 : FnD g 11 82 (.ref 75) .none
  o75 : ∃ o n, g.get? 75 = some o ∧ o.data = .seq #[.none] n
  o86 : ∃ o n, g.get? 86 = some o ∧ o.cls = .type "tuple" ∧ o.data = .seq (reT.map fun i => rawInt i).toArray n
  o87 : ∃ o x, g.get? 87 = some o ∧ o.cls = .type "re.Pattern" ∧ o.dict = none ∧ o.data = .fields #[x, .int 32 398, .int 1 0, .none, .none, .ref 86, rawInt 0]
  o96 : ∃ o es n, g.get? 96 = some o ∧ o.ExactDict ∧ o.data = .dict es n ∧ spOk es.toList spT

/-- the standing part -/
structure Wd (h : Heap) : Prop where
  size : 173 ≤ h.objs.size
  tab : ∃ vs, h.get? TB = some { cls := .none, data := .fields vs } ∧ TriplesOk vs.toList
  base : ∃ g, Base g ∧ ∀ b o, g.get? b = some o → b < 173 ∧ b ≠ TB ∧ h.get? b = some o

noncomputable def Keep (h h' : Heap) : Prop := ∀ b o, b ≠ TB → h.get? b = some o → h'.get? b = some o
theorem Keep.refl (h : Heap) : Keep h h := fun _ _ _ e => e
theorem Keep.trans {a b c : Heap} (x : Keep a b) (y : Keep b c) : Keep a c := fun p o n e => y p o n (x p o n e)
theorem Keep.of {h h' : Heap} (k : ∀ b o, h.get? b = some o → h'.get? b = some o) : Keep h h' := fun b o _ e => k b o e

theorem Wd.ne {h : Heap} (W : Wd h) {b : Addr} {o : Obj} (e : h.get? b = some o) (hc : ∀ vs, o.data ≠ .fields vs) : b ≠ TB := fun q => by
  subst q
  obtain ⟨vs, t, _⟩ := W.tab
  rw [e] at t
  cases t
  exact hc _ rfl

theorem seq_ne {o : Obj} {xs n} (h : o.data = .seq xs n) : ∀ vs, o.data ≠ .fields vs := fun vs e => by rw [h] at e; cases e
theorem dict_ne {o : Obj} {xs n} (h : o.data = .dict xs n) : ∀ vs, o.data ≠ .fields vs := fun vs e => by rw [h] at e; cases e
theorem cell_ne {o : Obj} {x} (h : o.data = .cell x) : ∀ vs, o.data ≠ .fields vs := fun vs e => by rw [h] at e; cases e

mutual
theorem Rd.ext {G G' : GH} : ∀ {v : Value} {d : PyData}, Rd G v d → G.Le G' → Rd G' v d
  | _, _, .none, _ => .none
  | _, _, .bool b, _ => .bool b
  | _, _, .int i t, _ => .int i t
  | _, _, .str x t, _ => .str x t
  | _, _, .list e c n d r, k => .list (k _ _ e) c n d (RdA.ext r k)
  | _, _, .tuple e c n d r, k => .tuple (k _ _ e) c n d (RdA.ext r k)
theorem RdA.ext {G G' : GH} : ∀ {vs : List Value} {ds : List PyData}, RdA G vs ds → G.Le G' → RdA G' vs ds
  | _, _, .nil, _ => .nil
  | _, _, .cons a b, k => .cons (Rd.ext a k) (RdA.ext b k)
end
theorem Keep.dat {h h' : Heap} (k : Keep h h') (W : Wd h) : ∀ b o, h.get? b = some o → (∀ vs, o.data ≠ .fields vs) → h'.get? b = some o := fun b o e n => k b o (W.ne e n) e
theorem RdA.uncons {G : GH} {v d vs ds} (x : RdA G (v :: vs) (d :: ds)) : Rd G v d ∧ RdA G vs ds := by
  cases x with | cons a b => exact ⟨a, b⟩
theorem RdA.length {G : GH} : ∀ {vs ds}, RdA G vs ds → vs.length = ds.length
  | _, _, .nil => rfl
  | _, _, .cons _ b => congrArg (· + 1) (RdA.length b)
theorem RdA.get {G : GH} : ∀ {vs ds}, RdA G vs ds → ∀ {i : Nat} {d : PyData}, ds[i]? = some d → ∃ v, vs[i]? = some v ∧ Rd G v d
  | _, _, .nil, i, d, e => by simp at e
  | _, _, .cons (v := v) a _, 0, d, e => by cases e; exact ⟨v, rfl, a⟩
  | _, _, .cons _ b, i + 1, d, e => by simpa using RdA.get b (i := i) (d := d) (by simpa using e)
theorem RdA.getV {G : GH} : ∀ {vs ds}, RdA G vs ds → ∀ {i : Nat} {v : Value}, vs[i]? = some v → ∃ d, ds[i]? = some d ∧ Rd G v d
  | _, _, .nil, i, d, e => by simp at e
  | _, _, .cons (d := d) a _, 0, v, e => by cases e; exact ⟨d, rfl, a⟩
  | _, _, .cons _ b, i + 1, v, e => by simpa using RdA.getV b (i := i) (v := v) (by simpa using e)
theorem RdA.append {G : GH} : ∀ {vs ds vs' ds'}, RdA G vs ds → RdA G vs' ds' → RdA G (vs ++ vs') (ds ++ ds')
  | _, _, _, _, .nil, y => y
  | _, _, _, _, .cons a b, y => .cons a (RdA.append b y)
theorem RdA.snoc {G : GH} {vs ds v d} (x : RdA G vs ds) (y : Rd G v d) : RdA G (vs ++ [v]) (ds ++ [d]) := x.append (.cons y .nil)

/-- what a name may hold: data; one certain value; bytes; not known; a text made behind a certain sign; a list's method bound to it; a list -/
inductive SV where
  | d (x : PyData)
  | v (x : Value)
  | b (x : Array UInt8)
  | u
  | s (x : Str) (t0 : Nat)
  | bm (id : String) (a : Addr)
  | l (rs : List SV)
mutual
noncomputable def Rv (G : GH) : SV → Value → Prop
  | .d x, v => Rd G v x
  | .v x, v => v = x
  | .b x, v => ∃ t, v = .bytes x t
  | .u, _ => True
  | .s x t0, v => ∃ t, v = .str x t ∧ t0 < t
  | .bm id a, v => ∃ m o, v = .ref m ∧ G m = some o ∧ o.cls = .type "builtin_function_or_method" ∧ o.data = .fields #[.builtin id, .ref a]
  | .l rs, v => ∃ a o vs n, v = .ref a ∧ G a = some o ∧ o.cls = .type "list" ∧ o.dict = none ∧ o.data = .seq vs n ∧ RvA G rs vs.toList
noncomputable def RvA (G : GH) : List SV → List Value → Prop
  | [], [] => True
  | r :: rs, v :: vs => Rv G r v ∧ RvA G rs vs
  | [], _ :: _ => False
  | _ :: _, [] => False
end
mutual
theorem Rv.ext {G G' : GH} : ∀ {v : Value} {r : SV}, Rv G r v → G.Le G' → Rv G' r v
  | _, .d _, x, k => Rd.ext x k
  | _, .v _, x, _ => x
  | _, .b _, x, _ => x
  | _, .u, x, _ => x
  | _, .s _ _, x, _ => x
  | _, .bm _ _, ⟨m, o, a, b, c⟩, k => ⟨m, o, a, k _ _ b, c⟩
  | _, .l _, ⟨a, o, vs, n, h1, h2, h3, h4, h5, h6⟩, k => ⟨a, o, vs, n, h1, k _ _ h2, h3, h4, h5, RvA.ext k h6⟩
theorem RvA.ext {G G' : GH} (k : G.Le G') : ∀ {rs : List SV} {vs : List Value}, RvA G rs vs → RvA G' rs vs
  | [], [], _ => trivial
  | _ :: _, _ :: _, ⟨a, b⟩ => ⟨Rv.ext a k, RvA.ext k b⟩
  | [], _ :: _, x => x.elim
  | _ :: _, [], x => x.elim
end

/-- no generator runs, and the first of the signs has been made -/
structure Bare (s : Shared) (G : GH) : Prop where
  gens : AllBare s.gens
  pos : 0 < s.toks
  tb : G TB = none
theorem Bare.up {s : Shared} {G : GH} (B : Bare s G) {h : Heap} {t : Nat} (ht : s.toks ≤ t) : Bare { s with heap := h, toks := t } G := ⟨B.gens, Nat.lt_of_lt_of_le B.pos ht, B.tb⟩
theorem Bare.put {s : Shared} {G : GH} {a : Addr} {o : Obj} (B : Bare s G) (ha : a ≠ TB) : Bare s (G.put a o) := ⟨B.gens, B.pos, by unfold GH.put; rw [if_neg (Ne.symm ha)]; exact B.tb⟩
structure Grow (s : Shared) (G : GH) (s' : Shared) (G' : GH) : Prop where
  os : s'.os = s.os
  bare : Bare s' G'
  keep : Keep s.heap s'.heap
  wd : Wd s'.heap
  sub : G'.In s'.heap
  le : G.Le G'
  new : ∀ b o, G' b = some o → G b = some o ∨ s.heap.objs.size ≤ b
  size : s.heap.objs.size ≤ s'.heap.objs.size
  toks : s.toks ≤ s'.toks
theorem Grow.trans {a b c : Shared} {Ga Gb Gc : GH} (x : Grow a Ga b Gb) (y : Grow b Gb c Gc) : Grow a Ga c Gc :=
  ⟨y.os.trans x.os, y.bare, x.keep.trans y.keep, y.wd, y.sub, x.le.trans y.le, fun p o e => (y.new p o e).elim (x.new p o) fun q => .inr (Nat.le_trans x.size q), Nat.le_trans x.size y.size, Nat.le_trans x.toks y.toks⟩
theorem Wd.keeps {h h' : Heap} (W : Wd h) (k : ∀ b o, h.get? b = some o → h'.get? b = some o) (hs : h.objs.size ≤ h'.objs.size) : Wd h' :=
  ⟨Nat.le_trans W.size hs, let ⟨vs, e, x⟩ := W.tab; ⟨vs, k _ _ e, x⟩, let ⟨g, a, b⟩ := W.base; ⟨g, a, fun p o e => ⟨(b p o e).1, (b p o e).2.1, k _ _ (b p o e).2.2⟩⟩⟩
theorem Wd.but {h h' : Heap} {a : Addr} (W : Wd h) (ha : 173 ≤ a) (hs : Heap.SameBut a h h') : Wd h' :=
  ⟨hs.1 ▸ W.size, let ⟨vs, e, x⟩ := W.tab; ⟨vs, (hs.2 _ (Nat.ne_of_lt (Nat.lt_of_lt_of_le (by decide) ha))).trans e, x⟩,
    let ⟨g, x, b⟩ := W.base; ⟨g, x, fun p o e => ⟨(b p o e).1, (b p o e).2.1, (hs.2 _ (Nat.ne_of_lt (Nat.lt_of_lt_of_le (b p o e).1 ha))).trans (b p o e).2.2⟩⟩⟩
theorem Grow.refl {s : Shared} {G : GH} (B : Bare s G) (W : Wd s.heap) (k : G.In s.heap) : Grow s G s G := ⟨rfl, B, .refl _, W, k, .refl _, fun _ _ e => .inl e, Nat.le_refl _, Nat.le_refl _⟩
theorem Grow.tok {s : Shared} {G : GH} (B : Bare s G) (W : Wd s.heap) (k : G.In s.heap) (t : Nat) (ht : s.toks ≤ t := by omega) : Grow s G { s with toks := t } G := ⟨rfl, B.up ht, Keep.refl _, W, k, .refl _, fun _ _ e => .inl e, Nat.le_refl _, ht⟩
theorem Grow.retok {s s' : Shared} {G G' : GH} (B : Bare s G) (g : Grow s G s' G') (t : Nat) (ht : s.toks ≤ t) : Grow s G { s' with toks := t } G' := ⟨g.os, ⟨g.bare.gens, Nat.lt_of_lt_of_le B.pos ht, g.bare.tb⟩, g.keep, g.wd, g.sub, g.le, g.new, g.size, ht⟩
theorem GH.put_le {G : GH} {a : Addr} {o : Obj} (h : G a = none) : G.Le (G.put a o) := fun b o' e => by
  unfold GH.put
  by_cases q : b = a
  · subst q; rw [h] at e; cases e
  · rw [if_neg q]; exact e
theorem GH.put_self {G : GH} {a : Addr} {o : Obj} : G.put a o a = some o := by simp [GH.put]
theorem GH.In.none {G : GH} {h : Heap} (k : G.In h) {a : Addr} (ha : h.objs.size ≤ a) : G a = none := by
  cases e : G a with
  | none => rfl
  | some o => exact absurd (Heap.lt_size (k _ _ e)) (Nat.not_lt.mpr ha)
theorem GH.In.push {G : GH} {h : Heap} (k : G.In h) {o : Obj} (hf : o.isFreed = false) : (G.put h.objs.size o).In (h.push o) := fun b o' e => by
  unfold GH.put at e
  by_cases q : b = h.objs.size
  · rw [if_pos q] at e; cases e; subst q; exact Heap.get?_push_size _ hf
  · rw [if_neg q] at e; exact Heap.get?_push_of_some _ (k _ _ e)
theorem Grow.push {s : Shared} {G : GH} (B : Bare s G) (W : Wd s.heap) (k : G.In s.heap) (o : Obj) (t : Nat) (hf : o.isFreed = false) (ht : s.toks ≤ t := by omega) : Grow s G { s with heap := s.heap.push o, toks := t } (G.put s.heap.objs.size o) :=
  ⟨rfl, (B.put (Nat.ne_of_gt (Nat.lt_of_lt_of_le (by decide) W.size))).up ht, .of fun _ _ e => Heap.get?_push_of_some _ e, W.keeps (fun _ _ e => Heap.get?_push_of_some _ e) (by rw [Heap.size_push]; omega), k.push hf, GH.put_le (k.none (Nat.le_refl _)),
    fun b o' e => by
      unfold GH.put at e
      by_cases q : b = s.heap.objs.size
      · exact .inr (Nat.le_of_eq q.symm)
      · rw [if_neg q] at e; exact .inl e, by show _ ≤ (s.heap.push o).objs.size; rw [Heap.size_push]; omega, ht⟩
/-- an object that nothing reads -/
theorem Grow.push0 {s : Shared} {G : GH} (B : Bare s G) (W : Wd s.heap) (k : G.In s.heap) (o : Obj) (t : Nat) (ht : s.toks ≤ t := by omega) : Grow s G { s with heap := s.heap.push o, toks := t } G :=
  ⟨rfl, B.up ht, .of fun _ _ e => Heap.get?_push_of_some _ e, W.keeps (fun _ _ e => Heap.get?_push_of_some _ e) (by rw [Heap.size_push]; omega), fun _ _ e => Heap.get?_push_of_some _ (k _ _ e), .refl _, fun _ _ e => .inl e, by show _ ≤ (s.heap.push o).objs.size; rw [Heap.size_push]; omega, ht⟩

/-- room to call: n frames deep -/
structure Room (n : Nat) (A : Around) : Prop where
  hd : n ≠ 0 → A.handled = none
  depth : A.depth + n < 1000
  units : A.units + 20 * n + 500 < 9900
theorem Room.le {n m : Nat} {A : Around} (R : Room n A) (h : m ≤ n) : Room m A := ⟨fun q => R.hd (by omega), by have := R.depth; omega, by have := R.units; omega⟩

/-- a frame's description: its scope, the names that we follow, their kinds -/
structure Fd where
  sc : Scope
  vars : List Str
  kinds : List NameKind
  /-- the sign that a call of the def is made behind -/
  fl : Nat
  /-- its code object, where it counts -/
  code : Option Addr

noncomputable def Fd.ok (F : Fd) : Bool := F.sc.kind == .function && F.vars.length == F.kinds.length && decide F.vars.Nodup &&
  (F.vars.zip F.kinds).all fun p => F.sc.names.lookup p.1 == some p.2 && (p.2 == .local || p.2 == .cell || p.2 == .free) && !(p.1 == ("__debug__" : Str)) && !(p.1 == ("__classdict__" : Str))

structure EnvIs (F : Fd) (env : Env) : Prop where
  ok : F.ok = true
  sc : env.scope = F.sc
  fn : env.scope.kind = .function
  gl : env.globals = mainGlobals
  bl : env.builtins = builtinsNs
  low : 173 ≤ env.locals
  apart : env.cells.Pairwise fun x y => x.2 ≠ y.2
  lowC : ∀ p ∈ env.cells, 173 ≤ p.2
  cd : ∀ a, F.code = some a → env.code = .ref a
theorem EnvIs.kind {F : Fd} {env : Env} (I : EnvIs F env) (x : Str) : env.kindOf x = F.sc.names.lookup x := by unfold Env.kindOf; rw [I.sc]

noncomputable def Slot (env : Env) (h : Heap) (G : GH) (m : Str → Option Value) (k : NameKind) (x : Str) (r : SV) : Prop :=
  if k = .local then r = .u ∨ ∃ v, m x = some v ∧ Rv G r v
  else ∃ c v₀, env.cells.lookup x = some c ∧ h.IsCell c v₀ ∧ (r = .u ∨ ∃ v, v₀ = some v ∧ Rv G r v)

noncomputable def Slots (env : Env) (h : Heap) (G : GH) (m : Str → Option Value) : List NameKind → List Str → List SV → Prop
  | [], [], [] => True
  | k :: ks, x :: xs, r :: rs => Slot env h G m k x r ∧ Slots env h G m ks xs rs
  | _, _, _ => False

structure Rel (F : Fd) (σ : List SV) (env : Env) (h : Heap) (G : GH) : Prop where
  wd : Wd h
  sub : G.In h
  slots : ∃ m, h.Ns env.locals m ∧ Slots env h G m F.kinds F.vars σ

theorem IsCell.keep {h h' : Heap} {c : Addr} {v : Option Value} (x : h.IsCell c v) (W : Wd h) (k : Keep h h') : h'.IsCell c v := let ⟨o, e, d⟩ := x; ⟨o, k.dat W _ _ e (cell_ne d), d⟩
theorem Ns.keep {h h' : Heap} {a : Addr} {m : Str → Option Value} (x : h.Ns a m) (W : Wd h) (k : Keep h h') : h'.Ns a m := let ⟨o, es, ep, e, d, r⟩ := x; ⟨o, es, ep, k.dat W _ _ e (dict_ne d), d, r⟩
theorem Slot.keep {env : Env} {h h' : Heap} {G G' : GH} {m : Str → Option Value} {k : NameKind} {x : Str} {r : SV} (s : Slot env h G m k x r) (W : Wd h) (kp : Keep h h') (le : G.Le G') : Slot env h' G' m k x r := by
  unfold Slot at s ⊢
  split at s
  · rename_i hk
    rw [if_pos hk]
    exact s.imp id fun ⟨v, a, b⟩ => ⟨v, a, b.ext le⟩
  · rename_i hk
    rw [if_neg hk]
    obtain ⟨c, v₀, a, b, d⟩ := s
    exact ⟨c, v₀, a, IsCell.keep b W kp, d.imp id fun ⟨v, e, f⟩ => ⟨v, e, f.ext le⟩⟩
theorem Slots.keep {env : Env} {h h' : Heap} {G G' : GH} {m : Str → Option Value} (W : Wd h) (kp : Keep h h') (le : G.Le G') : ∀ {ks xs rs}, Slots env h G m ks xs rs → Slots env h' G' m ks xs rs
  | [], [], [], _ => trivial
  | _ :: _, _ :: _, _ :: _, ⟨a, b⟩ => ⟨a.keep W kp le, Slots.keep W kp le b⟩
  | [], [], _ :: _, x => x.elim
  | [], _ :: _, _, x => by cases x
  | _ :: _, [], _, x => by cases x
  | _ :: _, _ :: _, [], x => x.elim
theorem Rel.grow {F : Fd} {σ : List SV} {env : Env} {s s' : Shared} {G G' : GH} (R : Rel F σ env s.heap G) (g : Grow s G s' G') : Rel F σ env s'.heap G' :=
  ⟨g.wd, g.sub, let ⟨m, a, b⟩ := R.slots; ⟨m, Ns.keep a R.wd g.keep, b.keep R.wd g.keep g.le⟩⟩
theorem Slots.at {env : Env} {h : Heap} {G : GH} {m : Str → Option Value} : ∀ {ks xs rs} {i : Nat} {k x r}, Slots env h G m ks xs rs → ks[i]? = some k → xs[i]? = some x → rs[i]? = some r → Slot env h G m k x r
  | k' :: _, x' :: _, r' :: _, 0, _, _, _, ⟨a, _⟩, e1, e2, e3 => by cases e1; cases e2; cases e3; exact a
  | _ :: _, _ :: _, _ :: _, i + 1, _, _, _, ⟨_, b⟩, e1, e2, e3 => Slots.at (i := i) b (by simpa using e1) (by simpa using e2) (by simpa using e3)
  | [], [], [], i, _, _, _, _, e1, _, _ => by simp at e1
  | [], [], _ :: _, _, _, _, _, x, _, _, _ => x.elim
  | [], _ :: _, _, _, _, _, _, x, _, _, _ => by cases x
  | _ :: _, [], _, _, _, _, _, x, _, _, _ => by cases x
  | _ :: _, _ :: _, [], _, _, _, _, x, _, _, _ => x.elim

section
variable {w : World} {n : Nat} {F : Fd} {σ : List SV}

/-- an expression's value -/
structure Ev (w : World) (n : Nat) (F : Fd) (σ : List SV) (e : Expr) (r : SV) : Prop where
  run :   ∀ (env : Env) (A : Around) (s : Shared) (G : GH) (Q E : Value → Shared → Prop), EnvIs F env → Room n A → Bare s G → Rel F σ env s.heap G →
    (∀ v s' G', Grow s G s' G' → Rv G' r v → Q v s') → wpAny (model prog w) A (eval e env) Q E s
/-- an expression's truth in a test -/
structure Tr (w : World) (n : Nat) (F : Fd) (σ : List SV) (e : Expr) (b : Bool) : Prop where
  run :   ∀ (env : Env) (A : Around) (s : Shared) (G : GH) (Q : Bool → Shared → Prop) (E : Value → Shared → Prop), EnvIs F env → Room n A → Bare s G → Rel F σ env s.heap G →
    (∀ s' G', Grow s G s' G' → Q b s') → wpAny (model prog w) A (isTrue e env (eval e env)) Q E s

theorem Ev.int {i : Int} {k pos} : Ev w n F σ (.Constant (.int i) k pos) (.d (.int i)) := .mk fun _ _ _ _ _ _ _ _ B R q => wpAny_Constant_int (q _ _ _ (Grow.tok B R.wd R.sub _) (.int _ _))
theorem Ev.str {x : Str} {k pos} : Ev w n F σ (.Constant (.str x) k pos) (.d (.str x)) := .mk fun _ _ _ _ _ _ _ _ B R q => Constant_str (q _ _ _ (Grow.tok B R.wd R.sub _) (.str _ _))
theorem Ev.bool {x : Bool} {k pos} : Ev w n F σ (.Constant (.bool x) k pos) (.d (.bool x)) := .mk fun _ _ s _ _ _ _ _ B R q => Constant_bool (q _ _ _ (Grow.tok B R.wd R.sub s.toks) (.bool _))
theorem Ev.none {k pos} : Ev w n F σ (.Constant .none k pos) (.d .none) := .mk fun _ _ s _ _ _ _ _ B R q => Constant_none (q _ _ _ (Grow.tok B R.wd R.sub s.toks) .none)
end
end
section
open PySem PySem.W PyProof.Rows PySem.Calls
set_option maxRecDepth 100000
set_option maxHeartbeats 1000000
/-- the objects behind the top that the walk needs -/
noncomputable def hobjs : List (Addr × Obj) := [
  (4, { cls := (.type "module"), dict := some 0, data := .plain, slots := #[] }),
  (44, { cls := (.type "code"), dict := none, data := (.fields #[(.str ⟨#[115, 111, 114, 116, 101, 100, 95, 108, 105, 115, 116, 95, 100, 105, 102, 102, 101, 114, 101, 110, 99, 101]⟩ 291), (.str ⟨#[115, 111, 114, 116, 101, 100, 95, 108, 105, 115, 116, 95, 100, 105, 102, 102, 101, 114, 101, 110, 99, 101]⟩ 292), (.str ⟨#[47, 99, 108, 97, 105, 109, 47, 99, 117, 116, 46, 112, 121]⟩ 293), (.int 6 0), (.int 2 0), (.int 0 0), (.int 0 0), (.int 3 0), (.ref 39), (.bool true), (.int 276 0), (.ref 40), .none, (.ref 41), (.ref 42), (.ref 43), (.int 302 0), (.int 6 0), (.str ⟨#[47, 99, 108, 97, 105, 109, 47, 99, 117, 116, 46, 112, 121]⟩ 303)]), slots := #[] }),
  (45, { cls := (.type "function"), dict := none, data := (.func (docDef (fnName 3) (fnArgs 3) (fnBody 3) (fnScope 3) (.str ⟨#[99, 112, 121, 51, 49, 51, 46, 117, 110, 105, 116, 116, 101, 115, 116, 46, 117, 116, 105, 108]⟩ 289) (.ref 44) .none)), slots := #[] }),
  (51, { cls := (.type "code"), dict := none, data := (.fields #[(.str ⟨#[117, 110, 111, 114, 100, 101, 114, 97, 98, 108, 101, 95, 108, 105, 115, 116, 95, 100, 105, 102, 102, 101, 114, 101, 110, 99, 101]⟩ 305), (.str ⟨#[117, 110, 111, 114, 100, 101, 114, 97, 98, 108, 101, 95, 108, 105, 115, 116, 95, 100, 105, 102, 102, 101, 114, 101, 110, 99, 101]⟩ 306), (.str ⟨#[47, 99, 108, 97, 105, 109, 47, 99, 117, 116, 46, 112, 121]⟩ 307), (.int 38 0), (.int 2 0), (.int 0 0), (.int 0 0), (.int 3 0), (.ref 46), (.bool true), (.int 276 0), (.ref 47), .none, (.ref 48), (.ref 49), (.ref 50), (.int 312 0), (.int 38 0), (.str ⟨#[47, 99, 108, 97, 105, 109, 47, 99, 117, 116, 46, 112, 121]⟩ 313)]), slots := #[] }),
  (52, { cls := (.type "function"), dict := none, data := (.func (docDef (fnName 4) (fnArgs 4) (fnBody 4) (fnScope 4) (.str ⟨#[99, 112, 121, 51, 49, 51, 46, 117, 110, 105, 116, 116, 101, 115, 116, 46, 117, 116, 105, 108]⟩ 289) (.ref 51) .none)), slots := #[] }),
  (58, { cls := (.type "code"), dict := none, data := (.fields #[(.str ⟨#[95, 98, 117, 102, 102, 101, 114]⟩ 317), (.str ⟨#[95, 98, 117, 102, 102, 101, 114]⟩ 318), (.str ⟨#[47, 99, 108, 97, 105, 109, 47, 99, 117, 116, 46, 112, 121]⟩ 319), (.int 48 0), (.int 1 0), (.int 0 0), (.int 0 0), (.int 3 0), (.ref 53), (.bool true), (.int 276 0), (.ref 54), .none, (.ref 55), (.ref 56), (.ref 57), (.int 322 0), (.int 48 0), (.str ⟨#[47, 99, 108, 97, 105, 109, 47, 99, 117, 116, 46, 112, 121]⟩ 323)]), slots := #[] }),
  (59, { cls := (.type "function"), dict := none, data := (.func (docDef (fnName 6) (fnArgs 6) (fnBody 6) (fnScope 6) (.str ⟨#[98, 105, 110, 97, 115, 99, 105, 105]⟩ 315) (.ref 58) .none)), slots := #[] }),
  (65, { cls := (.type "code"), dict := none, data := (.fields #[(.str ⟨#[95, 116, 114, 117, 116, 104]⟩ 325), (.str ⟨#[95, 116, 114, 117, 116, 104]⟩ 326), (.str ⟨#[47, 99, 108, 97, 105, 109, 47, 99, 117, 116, 46, 112, 121]⟩ 327), (.int 55 0), (.int 1 0), (.int 0 0), (.int 0 0), (.int 3 0), (.ref 60), (.bool true), (.int 276 0), (.ref 61), .none, (.ref 62), (.ref 63), (.ref 64), (.int 330 0), (.int 55 0), (.str ⟨#[47, 99, 108, 97, 105, 109, 47, 99, 117, 116, 46, 112, 121]⟩ 331)]), slots := #[] }),
  (66, { cls := (.type "function"), dict := none, data := (.func (docDef (fnName 7) (fnArgs 7) (fnBody 7) (fnScope 7) (.str ⟨#[98, 105, 110, 97, 115, 99, 105, 105]⟩ 315) (.ref 65) .none)), slots := #[] }),
  (73, { cls := (.type "code"), dict := none, data := (.fields #[(.str ⟨#[98, 50, 97, 95, 98, 97, 115, 101, 54, 52]⟩ 336), (.str ⟨#[98, 50, 97, 95, 98, 97, 115, 101, 54, 52]⟩ 337), (.str ⟨#[47, 99, 108, 97, 105, 109, 47, 99, 117, 116, 46, 112, 121]⟩ 338), (.int 61 0), (.int 1 0), (.int 1 0), (.int 1 0), (.int 3 0), (.ref 68), (.bool true), (.int 276 0), (.ref 69), .none, (.ref 70), (.ref 71), (.ref 72), (.int 346 0), (.int 61 0), (.str ⟨#[47, 99, 108, 97, 105, 109, 47, 99, 117, 116, 46, 112, 121]⟩ 347)]), slots := #[] }),
  (74, { cls := (.type "function"), dict := none, data := (.func { docDef (fnName 9) (fnArgs 9) (fnBody 9) (fnScope 9) (.str ⟨#[98, 105, 110, 97, 115, 99, 105, 105]⟩ 315) (.ref 73) .none with defaults := .none, kwdefaults := (.ref 67) }), slots := #[] }),
  (75, { cls := (.type "tuple"), dict := none, data := (.seq #[.none] 0), slots := #[] }),
  (81, { cls := (.type "code"), dict := none, data := (.fields #[(.str ⟨#[98, 54, 52, 101, 110, 99, 111, 100, 101]⟩ 351), (.str ⟨#[98, 54, 52, 101, 110, 99, 111, 100, 101]⟩ 352), (.str ⟨#[47, 99, 108, 97, 105, 109, 47, 99, 117, 116, 46, 112, 121]⟩ 353), (.int 84 0), (.int 2 0), (.int 0 0), (.int 0 0), (.int 3 0), (.ref 76), (.bool true), (.int 276 0), (.ref 77), .none, (.ref 78), (.ref 79), (.ref 80), (.int 357 0), (.int 84 0), (.str ⟨#[47, 99, 108, 97, 105, 109, 47, 99, 117, 116, 46, 112, 121]⟩ 358)]), slots := #[] }),
  (82, { cls := (.type "function"), dict := none, data := (.func { docDef (fnName 11) (fnArgs 11) (fnBody 11) (fnScope 11) (.str ⟨#[99, 112, 121, 51, 49, 51, 46, 98, 97, 115, 101, 54, 52]⟩ 349) (.ref 81) .none with defaults := (.ref 75), kwdefaults := .none }), slots := #[] }),
  (86, { cls := (.type "tuple"), dict := none, data := (.seq #[(.int 14 0), (.int 14 0), (.int 4 0), (.int 1 0), (.int 1 0), (.int 9 0), (.int 0 0), (.int 64 0), (.int 0 0), (.int 1342177280 0), (.int 0 0), (.int 0 0), (.int 0 0), (.int 0 0), (.int 0 0), (.int 17 0), (.int 0 0), (.int 13 0), (.int 11 0), (.int 9 0), (.int 0 0), (.int 64 0), (.int 0 0), (.int 1342177280 0), (.int 0 0), (.int 0 0), (.int 0 0), (.int 0 0), (.int 0 0), (.int 17 0), (.int 1 0), (.int 1 0)] 0), slots := #[] }),
  (87, { cls := (.type "re.Pattern"), dict := none, data := (.fields #[(.str ⟨#[40, 91, 38, 126, 124, 93, 41]⟩ 363), (.int 32 398), (.int 1 0), .none, .none, (.ref 86), (.int 0 0)]), slots := #[] }),
  (93, { cls := (.type "code"), dict := none, data := (.fields #[(.str ⟨#[116, 114, 97, 110, 115, 108, 97, 116, 101]⟩ 400), (.str ⟨#[116, 114, 97, 110, 115, 108, 97, 116, 101]⟩ 401), (.str ⟨#[47, 99, 108, 97, 105, 109, 47, 99, 117, 116, 46, 112, 121]⟩ 402), (.int 92 0), (.int 1 0), (.int 0 0), (.int 0 0), (.int 3 0), (.ref 88), (.bool true), (.int 276 0), (.ref 89), .none, (.ref 90), (.ref 91), (.ref 92), (.int 406 0), (.int 92 0), (.str ⟨#[47, 99, 108, 97, 105, 109, 47, 99, 117, 116, 46, 112, 121]⟩ 407)]), slots := #[] }),
  (94, { cls := (.type "function"), dict := none, data := (.func (docDef (fnName 14) (fnArgs 14) (fnBody 14) (fnScope 14) (.str ⟨#[99, 112, 121, 51, 49, 51, 46, 102, 110, 109, 97, 116, 99, 104]⟩ 360) (.ref 93) .none)), slots := #[] }),
  (96, { cls := (.type "dict"), dict := none, data := (.dict #[{ hash := 40, key := (.int 40 412), val := (.str ⟨#[92, 40]⟩ 416) }, { hash := 41, key := (.int 41 418), val := (.str ⟨#[92, 41]⟩ 422) }, { hash := 91, key := (.int 91 424), val := (.str ⟨#[92, 91]⟩ 428) }, { hash := 93, key := (.int 93 430), val := (.str ⟨#[92, 93]⟩ 434) }, { hash := 123, key := (.int 123 436), val := (.str ⟨#[92, 123]⟩ 440) }, { hash := 125, key := (.int 125 442), val := (.str ⟨#[92, 125]⟩ 446) }, { hash := 63, key := (.int 63 448), val := (.str ⟨#[92, 63]⟩ 452) }, { hash := 42, key := (.int 42 454), val := (.str ⟨#[92, 42]⟩ 458) }, { hash := 43, key := (.int 43 460), val := (.str ⟨#[92, 43]⟩ 464) }, { hash := 45, key := (.int 45 466), val := (.str ⟨#[92, 45]⟩ 470) }, { hash := 124, key := (.int 124 472), val := (.str ⟨#[92, 124]⟩ 476) }, { hash := 94, key := (.int 94 478), val := (.str ⟨#[92, 94]⟩ 482) }, { hash := 36, key := (.int 36 484), val := (.str ⟨#[92, 36]⟩ 488) }, { hash := 92, key := (.int 92 490), val := (.str ⟨#[92, 92]⟩ 494) }, { hash := 46, key := (.int 46 496), val := (.str ⟨#[92, 46]⟩ 500) }, { hash := 38, key := (.int 38 502), val := (.str ⟨#[92, 38]⟩ 506) }, { hash := 126, key := (.int 126 508), val := (.str ⟨#[92, 126]⟩ 512) }, { hash := 35, key := (.int 35 514), val := (.str ⟨#[92, 35]⟩ 518) }, { hash := 32, key := (.int 32 520), val := (.str ⟨#[92, 32]⟩ 524) }, { hash := 9, key := (.int 9 526), val := (.str ⟨#[92, 9]⟩ 530) }, { hash := 10, key := (.int 10 532), val := (.str ⟨#[92, 10]⟩ 536) }, { hash := 13, key := (.int 13 538), val := (.str ⟨#[92, 13]⟩ 542) }, { hash := 11, key := (.int 11 544), val := (.str ⟨#[92, 11]⟩ 548) }, { hash := 12, key := (.int 12 550), val := (.str ⟨#[92, 12]⟩ 554) }] 24), slots := #[] }),
  (105, { cls := (.type "code"), dict := none, data := (.fields #[(.str ⟨#[101, 115, 99, 97, 112, 101]⟩ 557), (.str ⟨#[101, 115, 99, 97, 112, 101]⟩ 558), (.str ⟨#[47, 99, 108, 97, 105, 109, 47, 99, 117, 116, 46, 112, 121]⟩ 559), (.int 98 0), (.int 1 0), (.int 0 0), (.int 0 0), (.int 3 0), (.ref 100), (.bool true), (.int 276 0), (.ref 101), .none, (.ref 102), (.ref 103), (.ref 104), (.int 561 0), (.int 98 0), (.str ⟨#[47, 99, 108, 97, 105, 109, 47, 99, 117, 116, 46, 112, 121]⟩ 562)]), slots := #[] }),
  (106, { cls := (.type "function"), dict := none, data := (.func (docDef (fnName 17) (fnArgs 17) (fnBody 17) (fnScope 17) (.str ⟨#[114, 101]⟩ 409) (.ref 105) .none)), slots := #[] }),
  (108, { cls := .none, dict := none, data := (.fields #[]), slots := #[] }),
  (112, { cls := (.type "code"), dict := none, data := (.fields #[(.str ⟨#[95, 116, 114, 97, 110, 115, 108, 97, 116, 101]⟩ 566), (.str ⟨#[95, 116, 114, 97, 110, 115, 108, 97, 116, 101]⟩ 567), (.str ⟨#[47, 99, 108, 97, 105, 109, 47, 99, 117, 116, 46, 112, 121]⟩ 568), (.int 105 0), (.int 3 0), (.int 0 0), (.int 0 0), (.int 3 0), (.ref 107), (.bool true), (.int 276 0), (.ref 108), .none, (.ref 109), (.ref 110), (.ref 111), (.int 582 0), (.int 105 0), (.str ⟨#[47, 99, 108, 97, 105, 109, 47, 99, 117, 116, 46, 112, 121]⟩ 583)]), slots := #[] }),
  (113, { cls := (.type "function"), dict := none, data := (.func (docDef (fnName 19) (fnArgs 19) (fnBody 19) (fnScope 19) (.str ⟨#[99, 112, 121, 51, 49, 51, 46, 102, 110, 109, 97, 116, 99, 104]⟩ 564) (.ref 112) .none)), slots := #[] }),
  (119, { cls := (.type "code"), dict := none, data := (.fields #[(.str ⟨#[95, 106, 111, 105, 110, 95, 116, 114, 97, 110, 115, 108, 97, 116, 101, 100, 95, 112, 97, 114, 116, 115]⟩ 585), (.str ⟨#[95, 106, 111, 105, 110, 95, 116, 114, 97, 110, 115, 108, 97, 116, 101, 100, 95, 112, 97, 114, 116, 115]⟩ 586), (.str ⟨#[47, 99, 108, 97, 105, 109, 47, 99, 117, 116, 46, 112, 121]⟩ 587), (.int 167 0), (.int 2 0), (.int 0 0), (.int 0 0), (.int 3 0), (.ref 114), (.bool true), (.int 276 0), (.ref 115), .none, (.ref 116), (.ref 117), (.ref 118), (.int 595 0), (.int 167 0), (.str ⟨#[47, 99, 108, 97, 105, 109, 47, 99, 117, 116, 46, 112, 121]⟩ 596)]), slots := #[] }),
  (120, { cls := (.type "function"), dict := none, data := (.func (docDef (fnName 20) (fnArgs 20) (fnBody 20) (fnScope 20) (.str ⟨#[99, 112, 121, 51, 49, 51, 46, 102, 110, 109, 97, 116, 99, 104]⟩ 564) (.ref 119) .none)), slots := #[] }),
  (124, { cls := (.type "code"), dict := none, data := (.fields #[(.str ⟨#[95, 108, 97, 119, 95, 111, 99, 116, 101, 116, 115]⟩ 600), (.str ⟨#[95, 108, 97, 119, 95, 111, 99, 116, 101, 116, 115]⟩ 601), (.str ⟨#[47, 99, 108, 97, 105, 109, 47, 99, 117, 116, 46, 112, 121]⟩ 602), (.int 195 0), (.int 2 0), (.int 0 0), (.int 0 0), (.int 3 0), (.ref 121), (.bool true), (.int 276 0), (.ref 122), .none, .none, .none, (.ref 123), (.int 603 0), (.int 195 0), (.str ⟨#[47, 99, 108, 97, 105, 109, 47, 99, 117, 116, 46, 112, 121]⟩ 604)]), slots := #[] }),
  (125, { cls := (.type "function"), dict := none, data := (.func (docDef (fnName 22) (fnArgs 22) (fnBody 22) (fnScope 22) (.str ⟨#[108, 97, 119, 95, 105, 110, 48, 48, 53, 52, 95, 48, 49]⟩ 598) (.ref 124) .none)), slots := #[] }),
  (129, { cls := (.type "code"), dict := none, data := (.fields #[(.str ⟨#[95, 108, 97, 119, 95, 110, 97, 109, 101]⟩ 606), (.str ⟨#[95, 108, 97, 119, 95, 110, 97, 109, 101]⟩ 607), (.str ⟨#[47, 99, 108, 97, 105, 109, 47, 99, 117, 116, 46, 112, 121]⟩ 608), (.int 197 0), (.int 1 0), (.int 0 0), (.int 0 0), (.int 3 0), (.ref 126), (.bool true), (.int 276 0), (.ref 127), .none, .none, .none, (.ref 128), (.int 609 0), (.int 197 0), (.str ⟨#[47, 99, 108, 97, 105, 109, 47, 99, 117, 116, 46, 112, 121]⟩ 610)]), slots := #[] }),
  (130, { cls := (.type "function"), dict := none, data := (.func (docDef (fnName 23) (fnArgs 23) (fnBody 23) (fnScope 23) (.str ⟨#[108, 97, 119, 95, 105, 110, 48, 48, 53, 52, 95, 48, 49]⟩ 598) (.ref 129) .none)), slots := #[] }),
  (136, { cls := (.type "code"), dict := none, data := (.fields #[(.str ⟨#[95, 108, 97, 119, 95, 102, 111, 108, 100, 101, 114, 115]⟩ 612), (.str ⟨#[95, 108, 97, 119, 95, 102, 111, 108, 100, 101, 114, 115]⟩ 613), (.str ⟨#[47, 99, 108, 97, 105, 109, 47, 99, 117, 116, 46, 112, 121]⟩ 614), (.int 199 0), (.int 1 0), (.int 0 0), (.int 0 0), (.int 3 0), (.ref 131), (.bool true), (.int 276 0), (.ref 132), .none, (.ref 133), (.ref 134), (.ref 135), (.int 619 0), (.int 199 0), (.str ⟨#[47, 99, 108, 97, 105, 109, 47, 99, 117, 116, 46, 112, 121]⟩ 620)]), slots := #[] }),
  (137, { cls := (.type "function"), dict := none, data := (.func (docDef (fnName 24) (fnArgs 24) (fnBody 24) (fnScope 24) (.str ⟨#[108, 97, 119, 95, 105, 110, 48, 48, 53, 52, 95, 48, 49]⟩ 598) (.ref 136) .none)), slots := #[] }),
  (141, { cls := (.type "code"), dict := none, data := (.fields #[(.str ⟨#[95, 108, 97, 119, 95, 112, 97, 116, 116, 101, 114, 110]⟩ 622), (.str ⟨#[95, 108, 97, 119, 95, 112, 97, 116, 116, 101, 114, 110]⟩ 623), (.str ⟨#[47, 99, 108, 97, 105, 109, 47, 99, 117, 116, 46, 112, 121]⟩ 624), (.int 208 0), (.int 1 0), (.int 0 0), (.int 0 0), (.int 3 0), (.ref 138), (.bool true), (.int 276 0), (.ref 139), .none, .none, .none, (.ref 140), (.int 625 0), (.int 208 0), (.str ⟨#[47, 99, 108, 97, 105, 109, 47, 99, 117, 116, 46, 112, 121]⟩ 626)]), slots := #[] }),
  (142, { cls := (.type "function"), dict := none, data := (.func (docDef (fnName 25) (fnArgs 25) (fnBody 25) (fnScope 25) (.str ⟨#[108, 97, 119, 95, 105, 110, 48, 48, 53, 52, 95, 48, 49]⟩ 598) (.ref 141) .none)), slots := #[] }),
  (146, { cls := (.type "code"), dict := none, data := (.fields #[(.str ⟨#[95, 108, 97, 119, 95, 115, 101, 116]⟩ 628), (.str ⟨#[95, 108, 97, 119, 95, 115, 101, 116]⟩ 629), (.str ⟨#[47, 99, 108, 97, 105, 109, 47, 99, 117, 116, 46, 112, 121]⟩ 630), (.int 222 0), (.int 1 0), (.int 0 0), (.int 0 0), (.int 3 0), (.ref 143), (.bool true), (.int 276 0), (.ref 144), .none, .none, .none, (.ref 145), (.int 631 0), (.int 222 0), (.str ⟨#[47, 99, 108, 97, 105, 109, 47, 99, 117, 116, 46, 112, 121]⟩ 632)]), slots := #[] }),
  (147, { cls := (.type "function"), dict := none, data := (.func (docDef (fnName 26) (fnArgs 26) (fnBody 26) (fnScope 26) (.str ⟨#[108, 97, 119, 95, 105, 110, 48, 48, 53, 52, 95, 48, 49]⟩ 598) (.ref 146) .none)), slots := #[] }),
  (151, { cls := (.type "code"), dict := none, data := (.fields #[(.str ⟨#[95, 108, 97, 119, 95, 116, 97, 107, 101, 110]⟩ 634), (.str ⟨#[95, 108, 97, 119, 95, 116, 97, 107, 101, 110]⟩ 635), (.str ⟨#[47, 99, 108, 97, 105, 109, 47, 99, 117, 116, 46, 112, 121]⟩ 636), (.int 231 0), (.int 2 0), (.int 0 0), (.int 0 0), (.int 3 0), (.ref 148), (.bool true), (.int 276 0), (.ref 149), .none, .none, .none, (.ref 150), (.int 637 0), (.int 231 0), (.str ⟨#[47, 99, 108, 97, 105, 109, 47, 99, 117, 116, 46, 112, 121]⟩ 638)]), slots := #[] }),
  (152, { cls := (.type "function"), dict := none, data := (.func (docDef (fnName 27) (fnArgs 27) (fnBody 27) (fnScope 27) (.str ⟨#[108, 97, 119, 95, 105, 110, 48, 48, 53, 52, 95, 48, 49]⟩ 598) (.ref 151) .none)), slots := #[] }),
  (156, { cls := (.type "code"), dict := none, data := (.fields #[(.str ⟨#[95, 108, 97, 119, 95, 98, 105, 116, 115]⟩ 640), (.str ⟨#[95, 108, 97, 119, 95, 98, 105, 116, 115]⟩ 641), (.str ⟨#[47, 99, 108, 97, 105, 109, 47, 99, 117, 116, 46, 112, 121]⟩ 642), (.int 239 0), (.int 1 0), (.int 0 0), (.int 0 0), (.int 3 0), (.ref 153), (.bool true), (.int 276 0), (.ref 154), .none, .none, .none, (.ref 155), (.int 643 0), (.int 239 0), (.str ⟨#[47, 99, 108, 97, 105, 109, 47, 99, 117, 116, 46, 112, 121]⟩ 644)]), slots := #[] }),
  (157, { cls := (.type "function"), dict := none, data := (.func (docDef (fnName 28) (fnArgs 28) (fnBody 28) (fnScope 28) (.str ⟨#[108, 97, 119, 95, 105, 110, 48, 48, 53, 52, 95, 48, 49]⟩ 598) (.ref 156) .none)), slots := #[] }),
  (161, { cls := (.type "code"), dict := none, data := (.fields #[(.str ⟨#[95, 108, 97, 119, 95, 108, 97, 99, 107, 105, 110, 103]⟩ 646), (.str ⟨#[95, 108, 97, 119, 95, 108, 97, 99, 107, 105, 110, 103]⟩ 647), (.str ⟨#[47, 99, 108, 97, 105, 109, 47, 99, 117, 116, 46, 112, 121]⟩ 648), (.int 248 0), (.int 2 0), (.int 0 0), (.int 0 0), (.int 3 0), (.ref 158), (.bool true), (.int 276 0), (.ref 159), .none, .none, .none, (.ref 160), (.int 649 0), (.int 248 0), (.str ⟨#[47, 99, 108, 97, 105, 109, 47, 99, 117, 116, 46, 112, 121]⟩ 650)]), slots := #[] }),
  (162, { cls := (.type "function"), dict := none, data := (.func (docDef (fnName 29) (fnArgs 29) (fnBody 29) (fnScope 29) (.str ⟨#[108, 97, 119, 95, 105, 110, 48, 48, 53, 52, 95, 48, 49]⟩ 598) (.ref 161) .none)), slots := #[] }),
  (166, { cls := (.type "code"), dict := none, data := (.fields #[(.str ⟨#[95, 108, 97, 119, 95, 116, 111, 108, 100]⟩ 652), (.str ⟨#[95, 108, 97, 119, 95, 116, 111, 108, 100]⟩ 653), (.str ⟨#[47, 99, 108, 97, 105, 109, 47, 99, 117, 116, 46, 112, 121]⟩ 654), (.int 255 0), (.int 2 0), (.int 0 0), (.int 0 0), (.int 3 0), (.ref 163), (.bool true), (.int 276 0), (.ref 164), .none, .none, .none, (.ref 165), (.int 655 0), (.int 255 0), (.str ⟨#[47, 99, 108, 97, 105, 109, 47, 99, 117, 116, 46, 112, 121]⟩ 656)]), slots := #[] }),
  (167, { cls := (.type "function"), dict := none, data := (.func (docDef (fnName 30) (fnArgs 30) (fnBody 30) (fnScope 30) (.str ⟨#[108, 97, 119, 95, 105, 110, 48, 48, 53, 52, 95, 48, 49]⟩ 598) (.ref 166) .none)), slots := #[] }),
  (171, { cls := (.type "code"), dict := none, data := (.fields #[(.str ⟨#[108, 97, 119]⟩ 658), (.str ⟨#[108, 97, 119]⟩ 659), (.str ⟨#[47, 99, 108, 97, 105, 109, 47, 99, 117, 116, 46, 112, 121]⟩ 660), (.int 259 0), (.int 1 0), (.int 0 0), (.int 0 0), (.int 3 0), (.ref 168), (.bool true), (.int 276 0), (.ref 169), .none, .none, .none, (.ref 170), (.int 661 0), (.int 259 0), (.str ⟨#[47, 99, 108, 97, 105, 109, 47, 99, 117, 116, 46, 112, 121]⟩ 662)]), slots := #[] }),
  (172, { cls := (.type "function"), dict := none, data := (.func (docDef (fnName 31) (fnArgs 31) (fnBody 31) (fnScope 31) (.str ⟨#[108, 97, 119, 95, 105, 110, 48, 48, 53, 52, 95, 48, 49]⟩ 598) (.ref 171) .none)), slots := #[] })]

end
section
open PySem PySem.W PyProof.Rows PySem.Calls
set_option maxRecDepth 100000
set_option maxHeartbeats 0
/-- the text's view: the law alone -/
noncomputable def vw : Program := view prog [31]
noncomputable def looseN : List Str := ["_sre", "_wall", "sorted_list_difference", "unorderable_list_difference", "_buffer", "_truth", "_B64", "b2a_base64", "b64encode", "_twin_re_1", "translate", "_special_chars_map", "escape", "_translate", "_join_translated_parts",
  "_law_octets", "_law_name", "_law_folders", "_law_pattern", "_law_set", "_law_taken", "_law_bits", "_law_lacking", "_law_told"]
noncomputable abbrev Seen := List (Option Obj) × Option Obj × List (Option Value) × List (Option Value) × Nat × Nat
noncomputable def hadr : List Addr := hobjs.map (·.1)
noncomputable def obsL (s : Shared) : Seen := (hadr.map s.heap.get?, s.heap.get? TB, globT.map (fun p => s.heap.nsMap mainGlobals p.1), bltT.map (fun p => s.heap.nsMap mainGlobals p.1), s.heap.objs.size, s.toks)
noncomputable def valL (_ : World) : Seen := (hobjs.map (fun p => some p.2), some { cls := .none, data := .fields #[] }, globT.map (fun p => some p.2), bltT.map (fun _ => none), 173, 664)
noncomputable abbrev leftAt (w : World) : Prop := (openEnds treeTable prog w 4198).map (fun s => (openSeen vw looseN (importedModules prog.main.body) (fun _ => true) true s, obsL s)) = some (openGood vw looseN, valL w)
theorem leftff (w : World) : leftAt ((w.withFollow "comprehension-iter-twice" false).withFollow "special-get-raises" false) := by kernel_rfl
theorem leftft (w : World) : leftAt ((w.withFollow "comprehension-iter-twice" false).withFollow "special-get-raises" true) := by kernel_rfl
theorem lefttf (w : World) : leftAt ((w.withFollow "comprehension-iter-twice" true).withFollow "special-get-raises" false) := by kernel_rfl
theorem lefttt (w : World) : leftAt ((w.withFollow "comprehension-iter-twice" true).withFollow "special-get-raises" true) := by kernel_rfl
theorem left_all : LeftO prog vw looseN (fun _ => true) obsL valL 4198 := fun w =>
  byRow2 "special-get-raises" (P := leftAt) (byRow2 "comprehension-iter-twice" (P := fun w => leftAt (w.withFollow "special-get-raises" false)) leftff lefttf) (byRow2 "comprehension-iter-twice" (P := fun w => leftAt (w.withFollow "special-get-raises" true)) leftft lefttt) w
end
section
open PySem PySem.W PyProof.Rows PySem.Calls
set_option maxRecDepth 100000

theorem Fd.ok_at {F : Fd} (h : F.ok = true) {i : Nat} {x : Str} {k : NameKind} (hx : F.vars[i]? = some x) (hk : F.kinds[i]? = some k) :
    F.sc.names.lookup x = some k ∧ (k = .local ∨ k = .cell ∨ k = .free) ∧ (x == ("__debug__" : Str)) = false ∧ (x == ("__classdict__" : Str)) = false := by
  unfold Fd.ok at h
  simp only [Bool.and_eq_true, List.all_eq_true] at h
  have hm : (x, k) ∈ F.vars.zip F.kinds := List.mem_of_getElem? (i := i) (by simp [List.getElem?_zip_eq_some, hx, hk])
  have := h.2 _ hm
  simpa [and_assoc, or_assoc] using this
theorem Fd.ok_nodup {F : Fd} (h : F.ok = true) : F.vars.Nodup := by
  unfold Fd.ok at h
  simp only [Bool.and_eq_true, decide_eq_true_eq] at h
  exact h.1.2
theorem Fd.ok_len {F : Fd} (h : F.ok = true) : F.vars.length = F.kinds.length := by
  unfold Fd.ok at h
  simp only [Bool.and_eq_true, beq_iff_eq] at h
  exact h.1.1.2

noncomputable def SV.known : SV → Bool
  | .u => false
  | _ => true
theorem SV.known_ne {r : SV} (h : r.known = true) : r ≠ .u := fun e => by subst e; cases h

section
variable {w : World} {n : Nat} {F : Fd} {σ : List SV}

theorem Rel.load {env : Env} {A : Around} {s : Shared} {G : GH} {Q E : Value → Shared → Prop} {i : Nat} {x : Str} {k : NameKind} {r : SV} (I : EnvIs F env) (R : Rel F σ env s.heap G)
    (hx : F.vars[i]? = some x) (hk : F.kinds[i]? = some k) (hr : σ[i]? = some r) (hu : r.known = true) (h : ∀ v, Rv G r v → Q v s) : wpAny (model prog w) A (loadName env x) Q E s := by
  obtain ⟨m, N, S⟩ := R.slots
  have S := S.at hk hx hr
  obtain ⟨h1, h2, h3, h4⟩ := Fd.ok_at I.ok hx hk
  have hl : env.kindOf x = some k := by rw [I.kind]; exact h1
  unfold Slot at S
  by_cases q : k = .local
  · rw [if_pos q] at S
    subst q
    rcases S with S | ⟨v, a, b⟩
    · exact absurd S (SV.known_ne hu)
    · exact wpAny_loadName_local I.fn hl N a (h v b)
  · rw [if_neg q] at S
    obtain ⟨c, v₀, a, b, S⟩ := S
    rcases S with S | ⟨v, e, f⟩
    · exact absurd S (SV.known_ne hu)
    · subst e
      rcases h2 with rfl | rfl | rfl
      · exact absurd rfl q
      · exact wpAny_loadName_cell I.fn hl a b (h v f)
      · exact wpAny_loadName_free I.fn hl a b (h v f) h4

theorem Ev.name (i : Nat) {x : Str} {k : NameKind} {r : SV} {pos : Pos} (hx : F.vars[i]? = some x) (hk : F.kinds[i]? = some k) (hr : σ[i]? = some r) (hu : r.known = true) : Ev w n F σ (.Name x pos) r :=
  .mk fun _ _ s G _ _ I _ B R q => wpAny_Name (R.load I hx hk hr hu fun v hv => q v s G (.refl B R.wd R.sub) hv) (Fd.ok_at I.ok hx hk).2.2.1

noncomputable def lookSV (x : Str) : List Str → List NameKind → List SV → Option SV
  | y :: ys, _ :: ks, r :: rs => if x == y then some r else lookSV x ys ks rs
  | _, _, _ => Option.none
theorem lookSV_some {x : Str} {r : SV} : ∀ {xs : List Str} {ks : List NameKind} {rs : List SV}, lookSV x xs ks rs = some r → ∃ (i : Nat) (k : NameKind), xs[i]? = some x ∧ ks[i]? = some k ∧ rs[i]? = some r
  | y :: ys, k :: ks, r' :: rs, e => by
    unfold lookSV at e
    by_cases q : x == y
    · rw [if_pos q] at e; cases e
      exact ⟨0, k, by rw [eq_of_beq q]; rfl, rfl, rfl⟩
    · rw [if_neg q] at e
      obtain ⟨i, k', a, b, c⟩ := lookSV_some e
      exact ⟨i + 1, k', by simpa using a, by simpa using b, by simpa using c⟩
  | [], _, _, e => by simp [lookSV] at e
  | _ :: _, [], _, e => by simp [lookSV] at e
  | _ :: _, _ :: _, [], e => by simp [lookSV] at e
theorem Ev.nm {x : Str} {r : SV} {pos : Pos} (h : lookSV x F.vars F.kinds σ = some r) (hu : r.known = true) : Ev w n F σ (.Name x pos) r :=
  let ⟨i, _, a, b, c⟩ := lookSV_some h; Ev.name i a b c hu

/-! stores -/
theorem Slots.sameL {env : Env} {h h' : Heap} {G : GH} {m : Str → Option Value} {x : Str} {v : Value} (N : h.Ns env.locals m) (hs : Heap.SameBut env.locals h h') : ∀ {ks : List NameKind} {xs : List Str} {rs : List SV}, x ∉ xs →
    Slots env h G m ks xs rs → Slots env h' G (fun y => if y = x then some v else m y) ks xs rs
  | [], [], [], _, _ => trivial
  | k :: ks, y :: xs, r :: rs, hx, ⟨a, b⟩ => by
    have hy : y ≠ x := fun e => hx (e ▸ List.mem_cons_self)
    obtain ⟨oL, es, ep, eL, dL, _⟩ := id N
    refine ⟨?_, Slots.sameL N hs (fun q => hx (List.mem_cons_of_mem _ q)) b⟩
    unfold Slot at a ⊢
    by_cases q : k = .local
    · rw [if_pos q] at a ⊢
      refine a.imp id fun ⟨v', e, f⟩ => ⟨v', by simpa [hy] using e, f⟩
    · rw [if_neg q] at a ⊢
      obtain ⟨c, v₀, e, ⟨oc, f1, f2⟩, g⟩ := a
      exact ⟨c, v₀, e, ⟨oc, (hs.2 c (fun q => by subst q; rw [eL] at f1; cases f1; rw [dL] at f2; cases f2)).trans f1, f2⟩, g⟩
  | [], [], _ :: _, _, z => z.elim
  | [], _ :: _, _, _, z => by cases z
  | _ :: _, [], _, _, z => by cases z
  | _ :: _, _ :: _, [], _, z => z.elim

theorem Slots.setL {env : Env} {h h' : Heap} {G : GH} {m : Str → Option Value} {x : Str} {v : Value} {r : SV} (N : h.Ns env.locals m) (hs : Heap.SameBut env.locals h h') (hv : Rv G r v) : ∀ {i : Nat} {ks : List NameKind} {xs : List Str} {rs : List SV}, xs.Nodup →
    xs[i]? = some x → ks[i]? = some .local → Slots env h G m ks xs rs → Slots env h' G (fun y => if y = x then some v else m y) ks xs (rs.set i r)
  | 0, k :: ks, y :: xs, r' :: rs, hn, e1, e2, ⟨_, b⟩ => by
    cases e1; cases e2
    exact ⟨by unfold Slot; rw [if_pos rfl]; exact .inr ⟨v, by simp, hv⟩, Slots.sameL N hs (List.nodup_cons.mp hn).1 b⟩
  | i + 1, k :: ks, y :: xs, r' :: rs, hn, e1, e2, ⟨a, b⟩ => by
    have hxm : x ∈ xs := List.mem_of_getElem? (i := i) (by simpa using e1)
    have hy : x ∉ [y] := fun q => (List.nodup_cons.mp hn).1 (by rw [List.mem_singleton.mp q] at hxm; exact hxm)
    have z := Slots.sameL (v := v) N hs (ks := [k]) (xs := [y]) (rs := [r']) hy ⟨a, trivial⟩
    exact ⟨z.1, Slots.setL N hs hv (List.nodup_cons.mp hn).2 (by simpa using e1) (by simpa using e2) b⟩
  | _, [], [], [], _, e1, _, _ => by simp at e1
  | _, [], [], _ :: _, _, _, _, z => z.elim
  | _, [], _ :: _, _, _, _, _, z => by cases z
  | _, _ :: _, [], _, _, _, _, z => by cases z
  | _, _ :: _, _ :: _, [], _, _, _, z => z.elim

theorem Slots.sameC {env : Env} {h h' : Heap} {G : GH} {m : Str → Option Value} {x : Str} {c : Addr} (ap : env.cells.Pairwise fun x y => x.2 ≠ y.2) (hc : env.cells.lookup x = some c) (hs : Heap.SameBut c h h') : ∀ {ks : List NameKind} {xs : List Str} {rs : List SV}, x ∉ xs →
    Slots env h G m ks xs rs → Slots env h' G m ks xs rs
  | [], [], [], _, _ => trivial
  | k :: ks, y :: xs, r :: rs, hx, ⟨a, b⟩ => by
    have hy : y ≠ x := fun e => hx (e ▸ List.mem_cons_self)
    refine ⟨?_, Slots.sameC ap hc hs (fun q => hx (List.mem_cons_of_mem _ q)) b⟩
    unfold Slot at a ⊢
    by_cases q : k = .local
    · rw [if_pos q] at a ⊢
      exact a
    · rw [if_neg q] at a ⊢
      obtain ⟨c', v₀', e, f, g⟩ := a
      have hcc : c' ≠ c := fun q => hy (name_of_addr ap (mem_of_lookup e) (q ▸ mem_of_lookup hc))
      exact ⟨c', v₀', e, f.sameBut hs hcc, g⟩
  | [], [], _ :: _, _, z => z.elim
  | [], _ :: _, _, _, z => by cases z
  | _ :: _, [], _, _, z => by cases z
  | _ :: _, _ :: _, [], _, z => z.elim

theorem Slots.setC {env : Env} {h h' : Heap} {G : GH} {m : Str → Option Value} {x : Str} {c : Addr} {v : Value} {r : SV} (ap : env.cells.Pairwise fun x y => x.2 ≠ y.2) (hc : env.cells.lookup x = some c) (hs : Heap.SameBut c h h')
    (C' : h'.IsCell c (some v)) (hv : Rv G r v) : ∀ {i : Nat} {ks : List NameKind} {xs : List Str} {rs : List SV}, xs.Nodup →
    xs[i]? = some x → ks[i]? = some .cell → Slots env h G m ks xs rs → Slots env h' G m ks xs (rs.set i r)
  | 0, k :: ks, y :: xs, r' :: rs, hn, e1, e2, ⟨_, b⟩ => by
    cases e1; cases e2
    exact ⟨by unfold Slot; rw [if_neg (by simp)]; exact ⟨c, _, hc, C', .inr ⟨v, rfl, hv⟩⟩, Slots.sameC ap hc hs (List.nodup_cons.mp hn).1 b⟩
  | i + 1, k :: ks, y :: xs, r' :: rs, hn, e1, e2, ⟨a, b⟩ => by
    have hxm : x ∈ xs := List.mem_of_getElem? (i := i) (by simpa using e1)
    have hy : x ∉ [y] := fun q => (List.nodup_cons.mp hn).1 (by rw [List.mem_singleton.mp q] at hxm; exact hxm)
    have z := Slots.sameC ap hc hs (ks := [k]) (xs := [y]) (rs := [r']) hy ⟨a, trivial⟩
    exact ⟨z.1, Slots.setC ap hc hs C' hv (List.nodup_cons.mp hn).2 (by simpa using e1) (by simpa using e2) b⟩
  | _, [], [], [], _, e1, _, _ => by simp at e1
  | _, [], [], _ :: _, _, _, _, z => z.elim
  | _, [], _ :: _, _, _, _, _, z => by cases z
  | _, _ :: _, [], _, _, _, _, z => by cases z
  | _, _ :: _, _ :: _, [], _, _, _, z => z.elim

theorem Slots.has {env : Env} {h : Heap} {G : GH} {m : Str → Option Value} : ∀ {ks : List NameKind} {xs : List Str} {rs : List SV} {i : Nat} {x : Str}, Slots env h G m ks xs rs → xs[i]? = some x → ∃ r', rs[i]? = some r'
  | _ :: _, _ :: _, r :: _, 0, _, _, _ => ⟨r, rfl⟩
  | _ :: _, _ :: _, _ :: _, i + 1, _, ⟨_, b⟩, e => by simpa using Slots.has (i := i) b (by simpa using e)
  | [], [], [], _, _, _, e => by simp at e
  | [], [], _ :: _, _, _, z, _ => z.elim
  | [], _ :: _, _, _, _, z, _ => by cases z
  | _ :: _, [], _, _, _, z, _ => by cases z
  | _ :: _, _ :: _, [], _, _, z, _ => z.elim

/-- what a frame's run holds between two statements: s₀, G₀ where the call began -/
structure St (s₀ : Shared) (G₀ : GH) (F : Fd) (σ : List SV) (env : Env) (s : Shared) (G : GH) : Prop where
  grow : Grow s₀ G₀ s G
  rel : Rel F σ env s.heap G
  fl : F.fl ≤ s₀.toks
  pL : G env.locals = none
  pC : ∀ p ∈ env.cells, G p.2 = none ∧ p.2 ≠ TB ∧ ∃ o, s.heap.get? p.2 = some o
structure Fresh (s₀ : Shared) (env : Env) : Prop where
  L : s₀.heap.objs.size ≤ env.locals
  C : ∀ p ∈ env.cells, s₀.heap.objs.size ≤ p.2

theorem Grow.stay {s s' : Shared} {G G' : GH} (g : Grow s G s' G') {a : Addr} (h : G a = none) (hl : a < s.heap.objs.size) : G' a = none := by
  cases e : G' a with
  | none => rfl
  | some o =>
    rcases g.new _ _ e with q | q
    · rw [h] at q; cases q
    · exact absurd hl (Nat.not_lt.mpr q)
theorem St.step {s₀ : Shared} {G₀ : GH} {env : Env} {s s' : Shared} {G G' : GH} (T : St s₀ G₀ F σ env s G) (g : Grow s G s' G') : St s₀ G₀ F σ env s' G' :=
  ⟨T.grow.trans g, T.rel.grow g, T.fl, g.stay T.pL (let ⟨_, N, _⟩ := T.rel.slots; N.lt), fun p hp => ⟨g.stay (T.pC p hp).1 (let ⟨_, _, _, e⟩ := T.pC p hp; Heap.lt_size e), (T.pC p hp).2.1, let ⟨_, a, o, e⟩ := T.pC p hp; ⟨o, g.keep _ o a e⟩⟩⟩
theorem St.ltC {s₀ : Shared} {G₀ : GH} {env : Env} {s : Shared} {G : GH} (T : St s₀ G₀ F σ env s G) {p : Str × Addr} (hp : p ∈ env.cells) : p.2 < s.heap.objs.size := let ⟨_, _, _, e⟩ := T.pC p hp; Heap.lt_size e

theorem Grow.but {s₀ s : Shared} {G₀ G : GH} (g : Grow s₀ G₀ s G) {a : Addr} (ha : s₀.heap.objs.size ≤ a) (hG : G a = none) (hl : 173 ≤ a) {h' : Heap} {t : Nat} (hs : Heap.SameBut a s.heap h') (ht : s.toks ≤ t := by omega) : Grow s₀ G₀ { s with heap := h', toks := t } G :=
  ⟨g.os, g.bare.up ht, fun b o nb e => (hs.2 b (Nat.ne_of_lt (Nat.lt_of_lt_of_le (Heap.lt_size e) ha))).trans (g.keep b o nb e), g.wd.but hl hs, fun b o e => (hs.2 b (fun q => by subst q; rw [hG] at e; cases e)).trans (g.sub b o e), g.le, g.new, by show _ ≤ h'.objs.size; rw [hs.1]; exact g.size, Nat.le_trans g.toks ht⟩

/-- what a run of a part leaves of the heap -/
structure Frm (env : Env) (μ : List Addr) (s : Shared) (G : GH) (μ' : List Addr) (s' : Shared) (G' : GH) : Prop where
  keep : ∀ b o, b ≠ TB → b ≠ env.locals → (∀ p ∈ env.cells, b ≠ p.2) → b ∉ μ → s.heap.get? b = some o → s'.heap.get? b = some o
  le : G.Le G'
  mu : ∀ a ∈ μ', a ∈ μ ∨ s.heap.get? a = none
  live : ∀ b, s'.heap.get? b = none → s.heap.get? b = none
  gn : ∀ b, G b = none → b ∉ μ → s.heap.get? b ≠ none → G' b = none
theorem Frm.refl {env : Env} {μ : List Addr} {s : Shared} {G : GH} : Frm env μ s G μ s G := ⟨fun _ _ _ _ _ _ e => e, .refl _, fun _ h => .inl h, fun _ h => h, fun _ h _ _ => h⟩
theorem Frm.trans {env : Env} {μ μ' μ'' : List Addr} {s s' s'' : Shared} {G G' G'' : GH} (x : Frm env μ s G μ' s' G') (y : Frm env μ' s' G' μ'' s'' G'') : Frm env μ s G μ'' s'' G'' :=
  ⟨fun b o h1 h2 h3 h4 e => y.keep b o h1 h2 h3 (fun q => (x.mu b q).elim h4 fun z => by rw [e] at z; cases z) (x.keep b o h1 h2 h3 h4 e), x.le.trans y.le,
    fun a h => (y.mu a h).elim (x.mu a) fun z => .inr (x.live a z), fun b h => x.live b (y.live b h),
    fun b h1 h2 h3 => y.gn b (x.gn b h1 h2 h3) (fun q => (x.mu b q).elim h2 h3) fun q => h3 (x.live b q)⟩
theorem Grow.live {s s' : Shared} {G G' : GH} (g : Grow s G s' G') (b : Addr) (h : s'.heap.get? b = none) : s.heap.get? b = none := by
  cases e : s.heap.get? b with
  | none => rfl
  | some o =>
    by_cases q : b = TB
    · subst q
      obtain ⟨vs, z, _⟩ := g.wd.tab
      rw [h] at z; cases z
    · have := g.keep b o q e
      rw [h] at this; cases this
theorem lt_of_get {h : Heap} {b : Addr} (h3 : h.get? b ≠ none) : b < h.objs.size := by
  cases e : h.get? b with
  | none => exact absurd e h3
  | some o => exact Heap.lt_size e
theorem Frm.grow {env : Env} {μ : List Addr} {s s' : Shared} {G G' : GH} (g : Grow s G s' G') : Frm env μ s G μ s' G' := ⟨fun b o h1 _ _ _ e => g.keep b o h1 e, g.le, fun _ h => .inl h, g.live, fun b h1 _ h3 => g.stay h1 (lt_of_get h3)⟩

theorem SameBut_has {a b : Addr} {h h' : Heap} (hs : Heap.SameBut a h h') (ha : ∃ o, h'.get? a = some o) (hb : ∃ o, h.get? b = some o) : ∃ o, h'.get? b = some o := by
  by_cases q : b = a
  · subst q; exact ha
  · obtain ⟨o, e⟩ := hb; exact ⟨o, (hs.2 b q).trans e⟩
theorem SameBut_live {a : Addr} {h h' : Heap} (hs : Heap.SameBut a h h') (ha : ∃ o, h'.get? a = some o) : ∀ b, h'.get? b = none → h.get? b = none := fun b e => by
  by_cases q : b = a
  · subst q; obtain ⟨o, z⟩ := ha; rw [e] at z; cases z
  · exact (hs.2 b q).symm.trans e
theorem get_none {h : Heap} {a : Addr} (z : h.objs.size ≤ a) : h.get? a = none := by
  cases e : h.get? a with
  | none => rfl
  | some o => exact absurd (Heap.lt_size e) (Nat.not_lt.mpr z)
theorem St.store {s₀ : Shared} {G₀ : GH} {env : Env} {A : Around} {s : Shared} {G : GH} {Q : Unit → Shared → Prop} {E : Value → Shared → Prop} {i : Nat} {x : Str} {k : NameKind} {r : SV} {v : Value} (I : EnvIs F env) (Fr : Fresh s₀ env) (T : St s₀ G₀ F σ env s G)
    (hx : F.vars[i]? = some x) (hk : F.kinds[i]? = some k) (hkk : k ≠ .free) (hv : Rv G r v) (h : ∀ s', St s₀ G₀ F (σ.set i r) env s' G → (∀ b ys, s.heap.PlainList b ys → s'.heap.PlainList b ys) → (∀ μ, Frm env μ s G μ s' G) → Q () s') : wpAny (model prog w) A (storeName env x v) Q E s := by
  obtain ⟨m, N, S⟩ := T.rel.slots
  obtain ⟨h1, h2, h3, h4⟩ := Fd.ok_at I.ok hx hk
  have hl : env.kindOf x = some k := by rw [I.kind]; exact h1
  rcases h2 with rfl | rfl | rfl
  · refine wpAny_storeName_local hl N (fun h' hn hs => ?_) ?_
    · have g := T.grow.but Fr.L T.pL I.low (t := s.toks + 1) hs
      exact h _ ⟨g, ⟨g.wd, g.sub, _, hn, Slots.setL N hs hv (Fd.ok_nodup I.ok) hx hk S⟩, T.fl, T.pL, fun p hp => ⟨(T.pC p hp).1, (T.pC p hp).2.1, SameBut_has hs (let ⟨_, _, _, e, _⟩ := hn; ⟨_, e⟩) (T.pC p hp).2.2⟩⟩ (fun b ys ⟨k, e⟩ => ⟨k, (hs.2 b fun q => by obtain ⟨oL, es, ep, eL, dL, _⟩ := N; rw [← q, e] at eL; cases eL; cases dL).trans e⟩) fun μ => ⟨fun b o _ nl _ _ e => (hs.2 b nl).trans e, .refl _, fun _ h => .inl h, SameBut_live hs (let ⟨_, _, _, e, _⟩ := hn; ⟨_, e⟩), fun _ h _ _ => h⟩
    · rw [I.fn]; rfl
  · obtain ⟨r', hr'⟩ := S.has hx
    have S1 := S.at hk hx hr'
    unfold Slot at S1
    rw [if_neg (by simp)] at S1
    obtain ⟨c, v₀, a, C, _⟩ := S1
    obtain ⟨oC, eC, dC⟩ := id C
    obtain ⟨oL, es, ep, eL, dL, _⟩ := id N
    have hLc : env.locals ≠ c := fun q => by rw [q, eC] at eL; cases eL; rw [dC] at dL; cases dL
    have hm := mem_of_lookup a
    refine wpAny_storeName_cell I.fn hl a C fun h' C' hs => ?_
    have g := T.grow.but (Fr.C _ hm) (T.pC _ hm).1 (I.lowC _ hm) (t := s.toks) hs
    exact h _ ⟨g, ⟨g.wd, g.sub, m, N.sameBut hs hLc, Slots.setC I.apart a hs C' hv (Fd.ok_nodup I.ok) hx hk S⟩, T.fl, T.pL, fun p hp => ⟨(T.pC p hp).1, (T.pC p hp).2.1, SameBut_has hs ⟨_, C'.choose_spec.1⟩ (T.pC p hp).2.2⟩⟩ (fun b ys ⟨k, e⟩ => ⟨k, (hs.2 b fun q => by rw [← q, e] at eC; cases eC; cases dC).trans e⟩) fun μ => ⟨fun b o _ _ nc _ e => (hs.2 b (nc _ hm)).trans e, .refl _, fun _ h => .inl h, SameBut_live hs ⟨_, C'.choose_spec.1⟩, fun _ h _ _ => h⟩
  · exact absurd rfl hkk
end
end
section
open PySem PySem.W PyProof.Rows PySem.Calls
set_option maxRecDepth 100000

section
variable {w : World} {n : Nat} {F : Fd} {σ : List SV}

/-- a call of a value -/
structure Cs (w : World) (n : Nat) (f : Value) (args : List SV) (r : SV) : Prop where
  run :   ∀ (A : Around) (s : Shared) (G : GH) (vs : List Value) (Q E : Value → Shared → Prop), Room n A → Bare s G → Wd s.heap → G.In s.heap → RvA G args vs →
    (∀ v s' G', Grow s G s' G' → Rv G' r v → Q v s') → wpAny (model prog w) A (call f vs) Q E s
/-- a call with keywords, behind a certain sign -/
structure Ckf (fl : Nat) (w : World) (n : Nat) (f : Value) (args : List SV) (kn : List Str) (ks : List SV) (r : SV) : Prop where
  run : ∀ (A : Around) (s : Shared) (G : GH) (vs kvs : List Value) (Q E : Value → Shared → Prop), fl ≤ s.toks → Room n A → Bare s G → Wd s.heap → G.In s.heap → RvA G args vs → RvA G ks kvs →
    (∀ v s' G', Grow s G s' G' → Rv G' r v → Q v s') → wpAny (model prog w) A (call f vs (kn.zip kvs)) Q E s
/-- a call with keywords -/
structure Ck (w : World) (n : Nat) (f : Value) (args : List SV) (kn : List Str) (ks : List SV) (r : SV) : Prop where
  run : ∀ (A : Around) (s : Shared) (G : GH) (vs kvs : List Value) (Q E : Value → Shared → Prop), Room n A → Bare s G → Wd s.heap → G.In s.heap → RvA G args vs → RvA G ks kvs →
    (∀ v s' G', Grow s G s' G' → Rv G' r v → Q v s') → wpAny (model prog w) A (call f vs (kn.zip kvs)) Q E s
/-- a binary operation -/
structure Bs (w : World) (n : Nat) (op : Operator) (a b r : SV) : Prop where
  run :   ∀ (A : Around) (s : Shared) (G : GH) (x y : Value) (Q E : Value → Shared → Prop), Room n A → Bare s G → Wd s.heap → G.In s.heap → Rv G a x → Rv G b y →
    (∀ v s' G', Grow s G s' G' → Rv G' r v → Q v s') → wpAny (model prog w) A (binaryOp op x y) Q E s
/-- a comparison -/
structure Ms (w : World) (n : Nat) (op : CmpOp) (a b : SV) (r : Bool) : Prop where
  run :   ∀ (A : Around) (s : Shared) (G : GH) (x y : Value) (Q E : Value → Shared → Prop), Room n A → Bare s G → Wd s.heap → G.In s.heap → Rv G a x → Rv G b y →
    (∀ s' G', Grow s G s' G' → Q (.bool r) s') → wpAny (model prog w) A (compareOp op x y) Q E s
/-- a truth -/
structure Ts (w : World) (n : Nat) (a : SV) (r : Bool) : Prop where
  run :   ∀ (A : Around) (s : Shared) (G : GH) (x : Value) (Q : Bool → Shared → Prop) (E : Value → Shared → Prop), Room n A → Bare s G → Wd s.heap → G.In s.heap → Rv G a x →
    (∀ s' G', Grow s G s' G' → Q r s') → wpAny (model prog w) A (truthy x) Q E s
/-- an item -/
structure Is (w : World) (n : Nat) (o i r : SV) : Prop where
  run :   ∀ (A : Around) (s : Shared) (G : GH) (x y : Value) (Q E : Value → Shared → Prop), Room n A → Bare s G → Wd s.heap → G.In s.heap → Rv G o x → Rv G i y →
    (∃ T id, s.TypeIs x T ∧ typeLookup (.type T) "__getitem__" = pure (some (.builtin id))) ∧
    ((∀ v s' G', Grow s G s' G' → Rv G' r v → Q v s') → wpAny (model prog w) A (getItem x y) Q E s)

theorem Ev.bin {e1 e2 : Expr} {op : Operator} {a b r : SV} {pos : Pos} (h1 : Ev w n F σ e1 a) (h2 : Ev w n F σ e2 b) (h : Bs w n op a b r) : Ev w n F σ (.BinOp e1 op e2 pos) r :=
  .mk fun env A s G Q E I Ro B R q => wpAny_BinOp (h1.run env A s G _ _ I Ro B R fun x s1 G1 g1 r1 => h2.run env A s1 G1 _ _ I Ro g1.bare (R.grow g1) fun y s2 G2 g2 r2 =>
    h.run A s2 G2 x y _ _ Ro g2.bare g2.wd g2.sub (r1.ext g2.le) r2 fun v s3 G3 g3 r3 => q v s3 G3 (g1.trans (g2.trans g3)) r3)

theorem Ev.cmp {e1 e2 : Expr} {op : CmpOp} {a b : SV} {r : Bool} {pos : Pos} (h1 : Ev w n F σ e1 a) (h2 : Ev w n F σ e2 b) (h : Ms w n op a b r) (hm : behindInMarks op e2 = false := by rfl) : Ev w n F σ (.Compare e1 [op] [e2] pos) (.d (.bool r)) :=
  .mk fun env A s G Q E I Ro B R q => wpAny_Compare1 (h1.run env A s G _ _ I Ro B R fun x s1 G1 g1 r1 => h2.run env A s1 G1 _ _ I Ro g1.bare (R.grow g1) fun y s2 G2 g2 r2 =>
    h.run A s2 G2 x y _ _ Ro g2.bare g2.wd g2.sub (r1.ext g2.le) r2 fun s3 G3 g3 => q _ s3 G3 (g1.trans (g2.trans g3)) (.bool _)) hm
theorem Tr.cmp {e1 e2 : Expr} {op : CmpOp} {a b : SV} {r : Bool} {pos : Pos} (h1 : Ev w n F σ e1 a) (h2 : Ev w n F σ e2 b) (h : Ms w n op a b r) (hm : behindInMarks op e2 = false := by rfl) : Tr w n F σ (.Compare e1 [op] [e2] pos) r :=
  .mk fun env A s G Q E I Ro B R q => wpAny_isTrue_Compare1 (h1.run env A s G _ _ I Ro B R fun x s1 G1 g1 r1 => h2.run env A s1 G1 _ _ I Ro g1.bare (R.grow g1) fun y s2 G2 g2 r2 =>
    h.run A s2 G2 x y _ _ Ro g2.bare g2.wd g2.sub (r1.ext g2.le) r2 fun s3 G3 g3 => wpAny_truthy_bool (q s3 G3 (g1.trans (g2.trans g3)))) hm
theorem Tr.plain {e : Expr} {a : SV} {r : Bool} (h1 : Ev w n F σ e a) (h : Ts w n a r) (he : ∀ env whole, isTrue e env whole = (do let v ← whole; standAt e.pos; holding [v] (truthy v)) := by intro _ _; rfl) : Tr w n F σ e r :=
  .mk fun env A s G Q E I Ro B R q => isTrue_plain (h1.run env A s G _ _ I Ro B R fun x s1 G1 g1 r1 => h.run A s1 G1 x _ _ Ro g1.bare g1.wd g1.sub r1 fun s2 G2 g2 => q s2 G2 (g1.trans g2)) (he _ _)
theorem Tr.not {e : Expr} {r : Bool} {pos : Pos} (h : Tr w n F σ e r) : Tr w n F σ (.UnaryOp .Not e pos) (!r) :=
  .mk fun env A s G Q E I Ro B R q => isTrue_not (h.run env A s G _ _ I Ro B R q)
theorem Tr.and_nil {pos : Pos} : Tr w n F σ (.BoolOp .And [] pos) true := .mk fun _ _ _ _ _ _ _ _ B R q => isTrue_and_nil (q _ _ (.refl B R.wd R.sub))
theorem Tr.or_nil {pos : Pos} : Tr w n F σ (.BoolOp .Or [] pos) false := .mk fun _ _ _ _ _ _ _ _ B R q => isTrue_or_nil (q _ _ (.refl B R.wd R.sub))
theorem Tr.and_f {e : Expr} {rest : List Expr} {pos : Pos} (h : Tr w n F σ e false) : Tr w n F σ (.BoolOp .And (e :: rest) pos) false :=
  .mk fun env A s G Q E I Ro B R q => isTrue_and (h.run env A s G _ _ I Ro B R fun s1 G1 g1 => by rw [if_neg (by simp)]; exact q s1 G1 g1)
theorem Tr.and {e : Expr} {rest : List Expr} {pos : Pos} {a b : Bool} (h : Tr w n F σ e a) (h2 : a = true → Tr w n F σ (.BoolOp .And rest pos) b) : Tr w n F σ (.BoolOp .And (e :: rest) pos) (a && b) :=
  .mk fun env A s G Q E I Ro B R q => isTrue_and (h.run env A s G _ _ I Ro B R fun s1 G1 g1 => by
    cases a with
    | false => rw [if_neg (by simp)]; exact q s1 G1 g1
    | true => rw [if_pos rfl]; exact (h2 rfl).run env A s1 G1 _ _ I Ro g1.bare (R.grow g1) fun s2 G2 g2 => q s2 G2 (g1.trans g2))
theorem Tr.or {e : Expr} {rest : List Expr} {pos : Pos} {a b : Bool} (h : Tr w n F σ e a) (h2 : a = false → Tr w n F σ (.BoolOp .Or rest pos) b) : Tr w n F σ (.BoolOp .Or (e :: rest) pos) (a || b) :=
  .mk fun env A s G Q E I Ro B R q => isTrue_or (h.run env A s G _ _ I Ro B R fun s1 G1 g1 => by
    cases a with
    | true => rw [if_pos rfl]; exact q s1 G1 g1
    | false => rw [if_neg (by simp)]; exact (h2 rfl).run env A s1 G1 _ _ I Ro g1.bare (R.grow g1) fun s2 G2 g2 => q s2 G2 (g1.trans g2))
theorem Tr.eq {e : Expr} {a b : Bool} (h : Tr w n F σ e a) (q : a = b) : Tr w n F σ e b := q ▸ h
theorem Ev.eq {e : Expr} {a b : SV} (h : Ev w n F σ e a) (q : a = b) : Ev w n F σ e b := q ▸ h
theorem Ev.ite {t e1 e2 : Expr} {pos : Pos} {c : Bool} {r : SV} (h : Tr w n F σ t c) (h1 : c = true → Ev w n F σ e1 r) (h2 : c = false → Ev w n F σ e2 r) : Ev w n F σ (.IfExp t e1 e2 pos) r :=
  .mk fun env A s G Q E I Ro B R q => IfExp_ (h.run env A s G _ _ I Ro B R fun s1 G1 g1 => by
    cases c with
    | true => rw [if_pos rfl]; exact (h1 rfl).run env A s1 G1 _ _ I Ro g1.bare (R.grow g1) fun v s2 G2 g2 rv => q v s2 G2 (g1.trans g2) rv
    | false => rw [if_neg (by simp)]; exact (h2 rfl).run env A s1 G1 _ _ I Ro g1.bare (R.grow g1) fun v s2 G2 g2 rv => q v s2 G2 (g1.trans g2) rv)

theorem Ev.item {e1 e2 : Expr} {o i r : SV} {pos : Pos} (h1 : Ev w n F σ e1 o) (h2 : Ev w n F σ e2 i) (h : Is w n o i r) (hs : ∀ x y, subscripted e2 false x y = operate [x, y] (getItem x y) := by intro _ _; rfl) : Ev w n F σ (.Subscript e1 e2 pos) r :=
  .mk fun env A s G Q E I Ro B R q => Subscript_ (h1.run env A s G _ _ I Ro B R fun x s1 G1 g1 r1 => h2.run env A s1 G1 _ _ I Ro g1.bare (R.grow g1) fun y s2 G2 g2 r2 => by
    obtain ⟨⟨T, id, hT, hl⟩, hg⟩ := h.run A s2 G2 x y Q E Ro g2.bare g2.wd g2.sub (r1.ext g2.le) r2
    exact tail_any hT hl (hg fun v s3 G3 g3 r3 => q v s3 G3 (g1.trans (g2.trans g3)) r3) (hs x y))

/-- lists of expressions -/
structure Es (w : World) (n : Nat) (F : Fd) (σ : List SV) (es : List Expr) (rs : List SV) : Prop where
  run :   ∀ (env : Env) (A : Around) (s : Shared) (G : GH) (pos : Pos) (Q : List Value → Shared → Prop) (E : Value → Shared → Prop), EnvIs F env → Room n A → Bare s G → Rel F σ env s.heap G →
    (∀ vs s' G', Grow s G s' G' → RvA G' rs vs → Q vs s') → wpAny (model prog w) A (spliced (backTo pos (starEach es env))) Q E s
noncomputable def notStar : Expr → Bool
  | .Starred .. => false
  | _ => true
theorem starEach_cons {e : Expr} {es : List Expr} {env : Env} (h : notStar e = true) : starEach (e :: es) env = (false, eval e env) :: starEach es env := by
  cases e <;> first | rfl | cases h
theorem Es.nil : Es w n F σ [] [] := .mk fun _ _ s _ _ _ _ _ _ B R q => spliced_nil (q [] s _ (.refl B R.wd R.sub) trivial)
theorem Es.cons {e : Expr} {es : List Expr} {r : SV} {rs : List SV} (h1 : Ev w n F σ e r) (h2 : Es w n F σ es rs) (hn : notStar e = true := by rfl) : Es w n F σ (e :: es) (r :: rs) :=
  .mk fun env A s G pos Q E I Ro B R q => by
    rw [starEach_cons hn]
    exact spliced_cons (h1.run env A s G _ _ I Ro B R fun v s1 G1 g1 r1 => h2.run env A s1 G1 pos _ _ I Ro g1.bare (R.grow g1) fun vs s2 G2 g2 r2 => q (v :: vs) s2 G2 (g1.trans g2) ⟨r1.ext g2.le, r2⟩)

noncomputable def dts : List PyData → List SV := List.map SV.d
theorem RvA.data {G : GH} : ∀ {ds vs}, RvA G (dts ds) vs → RdA G vs ds
  | [], [], _ => .nil
  | _ :: _, _ :: _, ⟨a, b⟩ => .cons a (RvA.data b)
  | [], _ :: _, x => x.elim
  | _ :: _, [], x => x.elim

theorem Rd.newList {G : GH} {a : Addr} {vs : List Value} {ds : List PyData} (hG : G a = Option.none) (x : RdA G vs ds) : Rd (G.put a { cls := .type "list", data := .seq vs.toArray }) (.ref a) (.list ds) :=
  .list GH.put_self rfl rfl rfl (RdA.ext x (GH.put_le hG))
theorem Rd.newTuple {G : GH} {a : Addr} {vs : List Value} {ds : List PyData} (hG : G a = Option.none) (x : RdA G vs ds) : Rd (G.put a { cls := .type "tuple", data := .seq vs.toArray }) (.ref a) (.tuple ds) :=
  .tuple GH.put_self rfl rfl rfl (RdA.ext x (GH.put_le hG))
theorem Ev.list {es : List Expr} {ds : List PyData} {pos : Pos} (h : Es w n F σ es (dts ds)) (hl : ds.length ≤ 1000000 := by decide) : Ev w n F σ (.List es pos) (.d (.list ds)) :=
  .mk fun env A s G Q E I Ro B R q => List_ (h.run env A s G _ _ _ I Ro B R fun vs s1 G1 g1 r1 => wpAny_newObj_type (q _ _ _ (g1.trans (.push g1.bare g1.wd g1.sub _ _ rfl)) (Rd.newList (g1.sub.none (Nat.le_refl _)) r1.data))
    (by show vs.toArray.size ≤ sizeLine; rw [List.size_toArray, r1.data.length, sizeLine_eq]; omega))
theorem Ev.tuple {es : List Expr} {ds : List PyData} {k : Nat} {pos : Pos} (h : Es w n F σ es (dts ds)) (hl : ds.length ≤ 1000000 := by decide) : Ev w n F σ (.Tuple es k pos) (.d (.tuple ds)) :=
  .mk fun env A s G Q E I Ro B R q => Tuple_ (h.run env A s G _ _ _ I Ro B R fun vs s1 G1 g1 r1 => wpAny_newObj_type (q _ _ _ (g1.trans (.push g1.bare g1.wd g1.sub _ _ rfl)) (Rd.newTuple (g1.sub.none (Nat.le_refl _)) r1.data))
    (by show vs.toArray.size ≤ sizeLine; rw [List.size_toArray, r1.data.length, sizeLine_eq]; omega))
end
end
section
open PySem PySem.W PyProof.Rows PySem.Calls
set_option maxRecDepth 100000

theorem Rd.int_inv {G : GH} {v : Value} {i : Int} (r : Rd G v (.int i)) : ∃ t, v = .int i t := by cases r; exact ⟨_, rfl⟩
theorem Rd.str_inv {G : GH} {v : Value} {i : Str} (r : Rd G v (.str i)) : ∃ t, v = .str i t := by cases r; exact ⟨_, rfl⟩
theorem Rd.bool_inv {G : GH} {v : Value} {i : Bool} (r : Rd G v (.bool i)) : v = .bool i := by cases r; rfl
theorem Rd.none_inv {G : GH} {v : Value} (r : Rd G v .none) : v = .none := by cases r; rfl
theorem Rd.list_inv {G : GH} {h : Heap} (k : G.In h) {v : Value} {ds : List PyData} (r : Rd G v (.list ds)) : ∃ a items, v = .ref a ∧ h.IsList a items ∧ h.NoDictAt (.ref a) ∧ RdA G items.toList ds := by
  cases r with | list e c n d q => exact ⟨_, _, rfl, ⟨_, k _ _ e, c, _, d⟩, ⟨_, k _ _ e, n⟩, q⟩
theorem Rd.tuple_inv {G : GH} {h : Heap} (k : G.In h) {v : Value} {ds : List PyData} (r : Rd G v (.tuple ds)) : ∃ a items, v = .ref a ∧ IsTup h a items ∧ RdA G items.toList ds := by
  cases r with | tuple e c n d q => exact ⟨_, _, rfl, ⟨_, k _ _ e, c, _, d⟩, q⟩

theorem Rd.held {G : GH} {a : Addr} {d : PyData} (r : Rd G (.ref a) d) : ∃ o, G a = some o := by
  cases r with
  | list e => exact ⟨_, e⟩
  | tuple e => exact ⟨_, e⟩

noncomputable abbrev SV.int (i : Int) : SV := .d (.int i)
noncomputable abbrev SV.str (i : Str) : SV := .d (.str i)
noncomputable abbrev SV.list (l : List PyData) : SV := .d (.list l)

section
variable {w : World} {n : Nat} {F : Fd} {σ : List SV}

theorem Bs.add {a b : Int} : Bs w n .Add (.int a) (.int b) (.int (a + b)) := .mk fun A s G x y Q E Ro B W k h1 h2 q => by
  obtain ⟨t, rfl⟩ := Rd.int_inv h1; obtain ⟨u, rfl⟩ := Rd.int_inv h2
  exact PyProof.Rows.add_int (q _ _ _ (.tok B W k _) (.int _ _))
theorem Bs.sub {a b : Int} : Bs w n .Sub (.int a) (.int b) (.int (a - b)) := .mk fun A s G x y Q E Ro B W k h1 h2 q => by
  obtain ⟨t, rfl⟩ := Rd.int_inv h1; obtain ⟨u, rfl⟩ := Rd.int_inv h2
  exact PyProof.Rows.sub_int (q _ _ _ (.tok B W k _) (.int _ _))
theorem Bs.mul {a b : Int} (hm : IntMulOk a b) : Bs w n .Mult (.int a) (.int b) (.int (a * b)) := .mk fun A s G x y Q E Ro B W k h1 h2 q => by
  obtain ⟨t, rfl⟩ := Rd.int_inv h1; obtain ⟨u, rfl⟩ := Rd.int_inv h2
  exact PyProof.Rows.mul_int (q _ _ _ (.tok B W k _) (.int _ _)) hm
theorem Bs.fdiv {a b : Int} (hb : 0 < b) (hs : b < 1073741824) : Bs w n .FloorDiv (.int a) (.int b) (.int (a / b)) := .mk fun A s G x y Q E Ro B W k h1 h2 q => by
  obtain ⟨t, rfl⟩ := Rd.int_inv h1; obtain ⟨u, rfl⟩ := Rd.int_inv h2
  refine PyProof.Rows.floordiv_int (by omega) (q _ _ _ (.tok B W k _) ?_) (.inl (PyProof.noPylong_small (by omega)))
  rw [Int.fdiv_eq_ediv_of_nonneg _ (by omega)]
  exact .int _ _
theorem Bs.mod {a b : Int} (hb : 0 < b) : Bs w n .Mod (.int a) (.int b) (.int (a % b)) := .mk fun A s G x y Q E Ro B W k h1 h2 q => by
  obtain ⟨t, rfl⟩ := Rd.int_inv h1; obtain ⟨u, rfl⟩ := Rd.int_inv h2
  refine PyProof.Rows.mod_int' (by omega) (q _ _ _ (.tok B W k _) ?_)
  rw [Int.fmod_eq_emod_of_nonneg _ (by omega)]
  exact .int _ _
theorem Bs.pow {a b : Int} (hb : 0 ≤ b) (hb2 : b ≤ 1000000) (ha : a.natAbs < 2 ^ 64) : Bs w n .Pow (.int a) (.int b) (.int (a ^ b.toNat)) := .mk fun A s G x y Q E Ro B W k h1 h2 q => by
  obtain ⟨t, rfl⟩ := Rd.int_inv h1; obtain ⟨u, rfl⟩ := Rd.int_inv h2
  exact PyProof.Rows.pow_int_small hb hb2 ha (q _ _ _ (.tok B W k _) (.int _ _))
theorem Bs.shl {a b : Int} (hb : 0 ≤ b) (hb2 : b ≤ 1000000) (ha : a.natAbs < 2 ^ 64) : Bs w n .LShift (.int a) (.int b) (.int (a * 2 ^ b.toNat)) := .mk fun A s G x y Q E Ro B W k h1 h2 q => by
  obtain ⟨t, rfl⟩ := Rd.int_inv h1; obtain ⟨u, rfl⟩ := Rd.int_inv h2
  exact PyProof.Rows.lshift_int_small hb hb2 ha (q _ _ _ (.tok B W k _) (.int _ _))
theorem Bs.shr {a b : Int} (hb : 0 ≤ b) : Bs w n .RShift (.int a) (.int b) (.int (a.fdiv (2 ^ b.toNat))) := .mk fun A s G x y Q E Ro B W k h1 h2 q => by
  obtain ⟨t, rfl⟩ := Rd.int_inv h1; obtain ⟨u, rfl⟩ := Rd.int_inv h2
  exact PyProof.Rows.rshift_int hb (q _ _ _ (.tok B W k _) (.int _ _))
theorem Bs.and {a b : Int} : Bs w n .BitAnd (.int a) (.int b) (.int (Builtin.bitAnd a b)) := .mk fun A s G x y Q E Ro B W k h1 h2 q => by
  obtain ⟨t, rfl⟩ := Rd.int_inv h1; obtain ⟨u, rfl⟩ := Rd.int_inv h2
  exact PyProof.Rows.and_int (q _ _ _ (.tok B W k _) (.int _ _))
theorem Bs.or {a b : Int} : Bs w n .BitOr (.int a) (.int b) (.int (Builtin.bitOr a b)) := .mk fun A s G x y Q E Ro B W k h1 h2 q => by
  obtain ⟨t, rfl⟩ := Rd.int_inv h1; obtain ⟨u, rfl⟩ := Rd.int_inv h2
  exact PyProof.Rows.or_int (q _ _ _ (.tok B W k _) (.int _ _))
theorem Bs.cat {a b : Str} (hs : a.length + b.length ≤ 1000000) : Bs w n .Add (.str a) (.str b) (.str (a ++ b)) := .mk fun A s G x y Q E Ro B W k h1 h2 q => by
  obtain ⟨t, rfl⟩ := Rd.str_inv h1; obtain ⟨u, rfl⟩ := Rd.str_inv h2
  exact wpAny_toks (PyProof.Rows.add_str (fun t' tk hle => q _ _ _ (.tok B W k _ hle) (.str _ _)) (by rw [sizeLine_eq]; omega))

theorem Ms.eqI {a b : Int} : Ms w n .Eq (.int a) (.int b) (a == b) := .mk fun A s G x y Q E Ro B W k h1 h2 q => by
  obtain ⟨t, rfl⟩ := Rd.int_inv h1; obtain ⟨u, rfl⟩ := Rd.int_inv h2
  exact PyProof.Rows.eq_int (q _ _ (.refl B W k))
theorem Ms.neI {a b : Int} : Ms w n .NotEq (.int a) (.int b) (a != b) := .mk fun A s G x y Q E Ro B W k h1 h2 q => by
  obtain ⟨t, rfl⟩ := Rd.int_inv h1; obtain ⟨u, rfl⟩ := Rd.int_inv h2
  exact PyProof.Rows.ne_int (q _ _ (.refl B W k))
theorem Ms.ltI {a b : Int} : Ms w n .Lt (.int a) (.int b) (decide (a < b)) := .mk fun A s G x y Q E Ro B W k h1 h2 q => by
  obtain ⟨t, rfl⟩ := Rd.int_inv h1; obtain ⟨u, rfl⟩ := Rd.int_inv h2
  exact PyProof.Rows.lt_int (q _ _ (.refl B W k))
theorem Ms.gtI {a b : Int} : Ms w n .Gt (.int a) (.int b) (decide (b < a)) := .mk fun A s G x y Q E Ro B W k h1 h2 q => by
  obtain ⟨t, rfl⟩ := Rd.int_inv h1; obtain ⟨u, rfl⟩ := Rd.int_inv h2
  exact PyProof.Rows.gt_int (q _ _ (.refl B W k))
theorem Ms.geI {a b : Int} : Ms w n .GtE (.int a) (.int b) (decide (b ≤ a)) := .mk fun A s G x y Q E Ro B W k h1 h2 q => by
  obtain ⟨t, rfl⟩ := Rd.int_inv h1; obtain ⟨u, rfl⟩ := Rd.int_inv h2
  first
  | exact PyProof.Rows.ge_int (q _ _ (.refl B W k))
  | exact PyProof.Rows.ge_int' (q _ _ (.refl B W k))
theorem Ms.eqS {a b : Str} : Ms w n .Eq (.str a) (.str b) (a == b) := .mk fun A s G x y Q E Ro B W k h1 h2 q => by
  obtain ⟨t, rfl⟩ := Rd.str_inv h1; obtain ⟨u, rfl⟩ := Rd.str_inv h2
  exact PyProof.Rows.eq_str (q _ _ (.refl B W k))
theorem Ms.neS {a b : Str} : Ms w n .NotEq (.str a) (.str b) (a != b) := .mk fun A s G x y Q E Ro B W k h1 h2 q => by
  obtain ⟨t, rfl⟩ := Rd.str_inv h1; obtain ⟨u, rfl⟩ := Rd.str_inv h2
  exact PyProof.Rows.ne_str (q _ _ (.refl B W k))
theorem Ms.gtS {a b : Str} : Ms w n .Gt (.str a) (.str b) (decide (b.cps.toList < a.cps.toList)) := .mk fun A s G x y Q E Ro B W k h1 h2 q => by
  obtain ⟨t, rfl⟩ := Rd.str_inv h1; obtain ⟨u, rfl⟩ := Rd.str_inv h2
  exact P.gt_str (q _ _ (.refl B W k))
theorem Ms.notinS {a b : Str} : Ms w n .NotIn (.str a) (.str b) (!(!(Builtin.Str.occurrences b a 0 b.length 1).isEmpty)) := .mk fun A s G x y Q E Ro B W k h1 h2 q => by
  obtain ⟨t, rfl⟩ := Rd.str_inv h1; obtain ⟨u, rfl⟩ := Rd.str_inv h2
  exact PyProof.Rows.notIn_str (q _ _ (.refl B W k))
theorem depth_room {n : Nat} {A : Around} (R : Room n A) {a b : Nat} (h : a ≤ 300) : A.units + 1 + min a b < cLine := by
  have := R.units
  have : min a b ≤ a := Nat.min_le_left _ _
  rw [show cLine = 9900 from rfl]
  omega
theorem Ms.eqD {a b : PyData} (ha : a.canLay0 = true) (hb : b.canLay0 = true) (hd : a.depth ≤ 300) : Ms w n .Eq (.d a) (.d b) (PyData.eqv a b) := .mk fun A s G x y Q E Ro B W k h1 h2 q => by
  obtain ⟨_, r1⟩ := Rd.reads k h1; obtain ⟨_, r2⟩ := Rd.reads k h2
  exact SeqAt.compareEq_reads r1 r2 ha hb (by have := depth_room Ro (b := b.depth) hd; omega) (q _ _ (.refl B W k))
theorem Ms.neD {a b : PyData} (ha : a.canLay0 = true) (hb : b.canLay0 = true) (hd : a.depth ≤ 300) : Ms w n .NotEq (.d a) (.d b) (!PyData.eqv a b) := .mk fun A s G x y Q E Ro B W k h1 h2 q => by
  obtain ⟨_, r1⟩ := Rd.reads k h1; obtain ⟨_, r2⟩ := Rd.reads k h2
  exact SeqAt.compareNe_reads r1 r2 ha hb (by have := depth_room Ro (b := b.depth) hd; omega) (q _ _ (.refl B W k))
theorem Ms.notinL {x : PyData} {l : List PyData} (ha : x.canLay0 = true) (hb : PyData.canLayAll0 l = true) (hd : PyData.depthAll l ≤ 300) : Ms w n .NotIn (.d x) (.list l) (!l.any fun y => PyData.eqv y x) := .mk fun A s G _ _ Q E Ro B W k h1 h2 q => by
  obtain ⟨_, r1⟩ := Rd.reads k h1; obtain ⟨_, r2⟩ := Rd.reads k h2
  exact SeqAt.notIn_list_reads r2 r1 hb ha (depth_room Ro hd) (q _ _ (.refl B W k))

theorem Is.list {l : List PyData} {k : Int} {d : PyData} (h0 : 0 ≤ k) (hx : l[k.toNat]? = some d) (hl : l.length ≤ 1000000) : Is w n (.list l) (.int k) (.d d) := .mk fun A s G x y Q E Ro B W k' h1 h2 => by
  obtain ⟨a, items, rfl, L, _, R⟩ := Rd.list_inv k' h1
  obtain ⟨t, rfl⟩ := Rd.int_inv h2
  refine ⟨⟨_, _, L.typeIs, slot_list_getitem.lookup⟩, fun q => ?_⟩
  obtain ⟨v, e, r⟩ := R.get hx
  have hk : k.toNat < l.length := by
    rcases Nat.lt_or_ge k.toNat l.length with h | h
    · exact h
    · rw [List.getElem?_eq_none h] at hx; cases hx
  exact wpAny_getItem_list L h0 (by omega) (by simpa using e) (q v s _ (.refl B W k') r)
theorem Is.str {x : Str} {k : Int} {c : Nat} (hc : (seqIndex? k x.length).bind (x.cps[·]?) = some c) (hb : -1000000 ≤ k) (hb2 : k ≤ 1000000) : Is w n (.str x) (.int k) (.str ⟨#[c]⟩) := .mk fun A s G _ y Q E Ro B W k' h1 h2 => by
  obtain ⟨t, rfl⟩ := Rd.str_inv h1; obtain ⟨u, rfl⟩ := Rd.int_inv h2
  refine ⟨⟨_, _, typeIs_str s x t, slot_str_getitem.lookup⟩, fun q => ?_⟩
  exact PyProof.Rows.getItem_str (by simp only [Bool.or_eq_false_iff, decide_eq_false_iff_not]; omega) hc (q _ _ _ (.tok B W k' _) (.str _ _))
end
end
section
open PySem PySem.W PyProof.Rows PySem.Calls
set_option maxRecDepth 100000

/-! names of the top -/
section
variable {w : World} {n : Nat} {F : Fd} {σ : List SV}
theorem Wd.names {h : Heap} (W : Wd h) : ∃ mg mb, h.Ns mainGlobals mg ∧ h.Ns builtinsNs mb ∧ (∀ x v, globT.lookup x = some v → mg x = some v) ∧ (∀ x v, bltT.lookup x = some v → mg x = none ∧ mb x = some v) :=
  let ⟨g, B, k⟩ := W.base
  let ⟨mg, mb, a, b, c⟩ := B.names
  ⟨mg, mb, a.keeps fun p o e => (k p o e).2.2, b.keeps fun p o e => (k p o e).2.2, c⟩
theorem Ev.glob {x : Str} {v : Value} {pos : Pos} (hk : F.sc.names.lookup x = some .globalImplicit) (hv : globT.lookup x = some v) (hd : (x == ("__debug__" : Str)) = false) : Ev w n F σ (.Name x pos) (.v v) :=
  .mk fun env A s G Q E I Ro B R q => by
    obtain ⟨mg, mb, g, b, hg, hb⟩ := R.wd.names
    refine Name_function_global I.fn (by rw [I.kind]; exact hk) (loadGlobal_global (mg := mg) (by rw [I.gl]; exact g) (hg x v hv) (q v s G (.refl B R.wd R.sub) rfl)) hd
theorem Ev.blt {x : Str} {v : Value} {pos : Pos} (hk : F.sc.names.lookup x = some .globalImplicit) (hv : bltT.lookup x = some v) (hd : (x == ("__debug__" : Str)) = false) : Ev w n F σ (.Name x pos) (.v v) :=
  .mk fun env A s G Q E I Ro B R q => by
    obtain ⟨mg, mb, g, b, hg, hb⟩ := R.wd.names
    refine Name_function_global I.fn (by rw [I.kind]; exact hk) (loadGlobal_builtin (mg := mg) (mb := mb) (by rw [I.gl]; exact g) (hb x v hv).1 (by rw [I.bl]; exact b) (hb x v hv).2 (q v s G (.refl B R.wd R.sub) rfl)) hd

/-! calls -/
theorem starEach_any {env : Env} {pos : Pos} : ∀ {es : List Expr}, (es.all notStar) = true → (backTo pos (starEach es env)).any (·.1) = false
  | [], _ => rfl
  | e :: es, h => by
    obtain ⟨a, b⟩ := Bool.and_eq_true_iff.mp h
    rw [starEach_cons a]
    show (false || (backTo pos (starEach es env)).any (·.1)) = false
    rw [starEach_any b]; rfl
theorem evalArgs_es {M : Model} {A : Around} {E : Value → Shared → Prop} {s : Shared} {f : Value} {env : Env} {pos : Pos} {e : Expr} {es : List Expr} {Q : Args → Shared → Prop} (h0 : ((e :: es).all notStar) = true)
    (h : wpAny M A (spliced (backTo pos (starEach (e :: es) env))) (fun vs s' => Q ⟨vs, []⟩ s') E s) : wpAny M A (evalArgs f true (backTo pos (starEach (e :: es) env)) []) Q E s := by
  rw [starEach_cons (Bool.and_eq_true_iff.mp h0).1] at h ⊢
  exact evalArgs_plain h

/-- a value that a plain call takes: a built-in, a type, a def of the top -/
noncomputable def Callee (f : Value) : Prop := (∃ id, f = .builtin id) ∨ (∃ T, f = .type T) ∨ ∃ a, f = .ref a ∧ ∀ h, Wd h → ∃ o fd, h.get? a = some o ∧ o.data = .func fd

theorem callWith_of_args {A : Around} {E : Value → Shared → Prop} {s : Shared} {f : Value} {pos : Pos} {first : List Value} {args : List (Bool × Sem Value)} {Q : Value → Shared → Prop} (hf : Callee f) (h0 : args.any (·.1) = false)
    (h : wpAny (model prog w) A (evalArgs f true args []) (fun a s₁ => Wd s₁.heap ∧ wpAny (model prog w) A (call f (first ++ a.pos) a.kw) Q E s₁) E s) : wpAny (model prog w) A (callWith pos f first args []) Q E s := by
  rcases hf with ⟨id, rfl⟩ | ⟨T, rfl⟩ | ⟨a, rfl, ha⟩
  · exact callWith_builtin h0 (wpAny_mono h (fun _ _ x => x.2) fun _ _ x => x)
  · exact PyProof.Rows.callWith_type h0 (wpAny_mono h (fun _ _ x => x.2) fun _ _ x => x)
  · unfold callWith
    refine wpAny_bind (wpAny_holding (wpAny_mono h (fun x s₁ h₁ => wpAny_bind (wpAny_standAt ?_)) fun _ _ x => x))
    obtain ⟨o, fd, e, d⟩ := ha _ h₁.1
    have tail : ∀ {t : Sem Value}, wpAny (model prog w) A t Q E s₁ → wpAny (model prog w) A (t >>= fun r => holding [r] point >>= fun _ => pure r) Q E s₁ :=
      fun ht => wpAny_bind (wpAny_mono ht (fun r s₂ hr => wpAny_bind (wpAny_holding (wpAny_point (wpAny_pure hr)))) fun _ _ x => x)
    simp only [h0, List.any_nil, Bool.or_false]
    refine wpAny_bind (m := keeperOf (.ref a)) ?_
    unfold keeperOf
    refine wpAny_bind (wpAny_load e ?_)
    rw [d]
    refine wpAny_pure ?_
    dsimp only
    split <;> first
      | exact tail h₁.2
      | exact tail (by unfold callMarked; exact Calls.wpAny_keep h₁.2)

theorem Ev.call {fe : Expr} {e : Expr} {es : List Expr} {rs : List SV} {r : SV} {f : Value} {pos : Pos} (h1 : Ev w n F σ fe (.v f)) (h2 : Es w n F σ (e :: es) rs) (h3 : Cs w n f rs r) (hf : Callee f)
    (h0 : ((e :: es).all notStar) = true := by rfl) (ha : ∀ env, eval (.Call fe (e :: es) [] pos) env = (do callWith pos (← eval fe env) [] (backTo pos (starEach (e :: es) env)) (backToKw pos (keywordEach [] env))) := by intro _; rfl) :
    Ev w n F σ (.Call fe (e :: es) [] pos) r := .mk fun env A s G Q E I Ro B R q => by
  rw [ha]
  refine wpAny_bind (h1.run env A s G _ _ I Ro B R fun v s1 G1 g1 e1 => ?_)
  cases e1
  refine callWith_of_args hf (starEach_any h0) (evalArgs_es h0 (h2.run env A s1 G1 pos _ _ I Ro g1.bare (R.grow g1) fun vs s2 G2 g2 r2 => ⟨g2.wd, ?_⟩))
  exact h3.run A s2 G2 vs Q E Ro g2.bare g2.wd g2.sub r2 fun v s3 G3 g3 r3 => q v s3 G3 (g1.trans (g2.trans g3)) r3

/-! own lists -/
noncomputable abbrev Mu := List (Addr × List SV)
noncomputable abbrev Mu.ad (μ : Mu) : List Addr := μ.map (·.1)
structure OwnAt (s₀ : Shared) (env : Env) (h : Heap) (G : GH) (p : Addr × List SV) : Prop where
  no : G p.1 = Option.none
  new : s₀.heap.objs.size ≤ p.1
  low : 173 ≤ p.1
  pl : ∃ ys, h.PlainList p.1 ys ∧ RvA G p.2 ys.toList
  neL : env.locals ≠ p.1
  neC : ∀ q ∈ env.cells, q.2 ≠ p.1
structure Own (s₀ : Shared) (env : Env) (h : Heap) (G : GH) (μ : Mu) : Prop where
  nd : μ.ad.Nodup
  at_ : ∀ p ∈ μ, OwnAt s₀ env h G p
theorem PlainList_lt {h : Heap} {a : Addr} {ys : Array Value} (p : h.PlainList a ys) : a < h.objs.size := let ⟨_, e⟩ := p; Heap.lt_size e
theorem Own.nil {s₀ : Shared} {env : Env} {h : Heap} {G : GH} : Own s₀ env h G [] := ⟨.nil, fun _ h => nomatch h⟩
theorem Own.grow {s₀ s s' : Shared} {env : Env} {G G' : GH} {μ : Mu} (O : Own s₀ env s.heap G μ) (g : Grow s G s' G') : Own s₀ env s'.heap G' μ := ⟨O.nd, fun p hp => by
  obtain ⟨a, b, c, ⟨ys, d, e⟩, f, f'⟩ := O.at_ p hp
  exact ⟨g.stay a (PlainList_lt d), b, c, ⟨ys, d.at fun o e => g.keep _ o (Nat.ne_of_gt (Nat.lt_of_lt_of_le (by decide) c)) e, e.ext g.le⟩, f, f'⟩⟩
theorem Own.pl {s₀ : Shared} {env : Env} {h h' : Heap} {G : GH} {μ : Mu} (O : Own s₀ env h G μ) (k : ∀ b ys, h.PlainList b ys → h'.PlainList b ys) : Own s₀ env h' G μ := ⟨O.nd, fun p hp => by
  obtain ⟨a, b, c, ⟨ys, d, e⟩, f, f'⟩ := O.at_ p hp
  exact ⟨a, b, c, ⟨ys, k _ _ d, e⟩, f, f'⟩⟩

theorem Slots.see {env : Env} {h : Heap} {G G' : GH} {m : Str → Option Value} {a : Addr} {d : SV} (W : Wd h) (le : G.Le G') (hr : Rv G' d (.ref a)) : ∀ {ks : List NameKind} {xs : List Str} {rs : List SV} {i : Nat}, Slots env h G m ks xs rs → rs[i]? = some (.v (.ref a)) → Slots env h G' m ks xs (rs.set i d)
  | k :: ks, x :: xs, r :: rs, 0, ⟨u, t⟩, e => by
    cases e
    refine ⟨?_, t.keep W (.refl _) le⟩
    unfold Slot at u ⊢
    split at u
    · rename_i q
      rw [if_pos q]
      rcases u with u | ⟨v, e1, e2⟩
      · cases u
      · cases e2; exact .inr ⟨_, e1, hr⟩
    · rename_i q
      rw [if_neg q]
      obtain ⟨c, v₀, e1, e2, u⟩ := u
      rcases u with u | ⟨v, e3, e4⟩
      · cases u
      · cases e4; exact ⟨c, v₀, e1, e2, .inr ⟨_, e3, hr⟩⟩
  | k :: ks, x :: xs, r :: rs, i + 1, ⟨u, t⟩, e => ⟨u.keep W (.refl _) le, Slots.see W le hr t (by simpa using e)⟩
  | [], [], [], _, _, e => by simp at e
  | [], [], _ :: _, _, z, _ => z.elim
  | [], _ :: _, _, _, z, _ => by cases z
  | _ :: _, [], _, _, z, _ => by cases z
  | _ :: _, _ :: _, [], _, z, _ => z.elim

theorem nodup_erase {μ : Mu} (nd : μ.ad.Nodup) : ∀ {j : Nat} {p q : Addr × List SV}, μ[j]? = some p → q ∈ μ.eraseIdx j → q.1 ≠ p.1 := by
  induction μ with
  | nil => intro j p q h; simp at h
  | cons x l ih =>
    intro j p q h1 h2
    have nd' := List.nodup_cons.mp nd
    cases j with
    | zero =>
      cases h1
      intro e
      have z := List.mem_map_of_mem (f := (·.1)) h2
      exact nd'.1 (by show x.1 ∈ _; rw [← e]; exact z)
    | succ j =>
      rw [List.eraseIdx_cons_succ] at h2
      rcases List.mem_cons.mp h2 with rfl | h2
      · intro e
        have z := List.mem_map_of_mem (f := (·.1)) (List.mem_of_getElem? (by simpa using h1) : p ∈ l)
        exact nd'.1 (by show q.1 ∈ _; rw [e]; exact z)
      · exact ih nd'.2 (by simpa using h1) h2

/-- an own list becomes part of what stands -/
theorem St.put {s₀ : Shared} {G₀ : GH} {env : Env} {s : Shared} {G : GH} {μ : Mu} {i j : Nat} {a : Addr} {ds : List PyData} (T : St s₀ G₀ F σ env s G) (O : Own s₀ env s.heap G μ) (hi : σ[i]? = some (.v (.ref a))) (hj : μ[j]? = some (a, dts ds)) :
    ∃ o, G a = Option.none ∧ s₀.heap.objs.size ≤ a ∧ a < s.heap.objs.size ∧ St s₀ G₀ F (σ.set i (.d (.list ds))) env s (G.put a o) ∧ Own s₀ env s.heap (G.put a o) (μ.eraseIdx j) ∧ Frm env μ.ad s G (Mu.ad (μ.eraseIdx j)) s (G.put a o) := by
  have hm : (a, dts ds) ∈ μ := List.mem_of_getElem? hj
  obtain ⟨h1, h2, h3, ⟨ys, ⟨nn, h4⟩, h5⟩, h6, h7⟩ := O.at_ _ hm
  dsimp only at h1 h2 h3 h4 h5 h6 h7
  have hle : G.Le (G.put a { cls := .type "list", data := .seq ys nn }) := GH.put_le h1
  have hin : (G.put a { cls := .type "list", data := .seq ys nn }).In s.heap := fun b o e => by
    unfold GH.put at e
    by_cases q : b = a
    · rw [if_pos q] at e; cases e; subst q; exact h4
    · rw [if_neg q] at e; exact T.grow.sub b o e
  have hother : ∀ b, b ≠ a → (G.put a { cls := .type "list", data := .seq ys nn }) b = G b := fun b q => by unfold GH.put; rw [if_neg q]
  obtain ⟨m, N, S⟩ := T.rel.slots
  have hrd : Rd (G.put a { cls := .type "list", data := .seq ys nn }) (.ref a) (.list ds) := .list GH.put_self rfl rfl rfl (RdA.ext h5.data hle)
  refine ⟨_, h1, h2, Heap.lt_size h4, ⟨⟨T.grow.os, T.grow.bare.put (Nat.ne_of_gt (Nat.lt_of_lt_of_le (by decide) h3)), T.grow.keep, T.grow.wd, hin, T.grow.le.trans hle, fun b o e => ?_, T.grow.size, T.grow.toks⟩, ⟨T.rel.wd, hin, m, N, Slots.see (d := .d (.list ds)) T.rel.wd hle hrd S hi⟩, T.fl, ?_, fun p hp => ?_⟩, ⟨?_, fun p hp => ?_⟩, ⟨fun _ _ _ _ _ _ e => e, hle, fun x hx => .inl ?_, fun _ e => e, fun b h _ _ => (hother b fun q => ?_).trans h⟩⟩
  · by_cases q : b = a
    · exact .inr (q ▸ h2)
    · rw [hother b q] at e; exact T.grow.new b o e
  · rw [hother _ h6]
    exact T.pL
  · rw [hother _ (h7 p hp)]
    exact T.pC p hp
  · exact O.nd.sublist ((List.eraseIdx_sublist ..).map _)
  · have hpm : p ∈ μ := List.mem_of_mem_eraseIdx hp
    obtain ⟨z1, z2, z3, ⟨ys', z4, z5⟩, z6, z7⟩ := O.at_ p hpm
    exact ⟨(hother _ (nodup_erase O.nd hj hp)).trans z1, z2, z3, ⟨ys', z4, z5.ext hle⟩, z6, z7⟩
  · exact (List.Sublist.map _ (List.eraseIdx_sublist μ j)).subset hx
  · rename_i hb _
    exact hb (q ▸ List.mem_map_of_mem (f := (·.1)) hm)

/-- and the other way -/
noncomputable def GH.del (G : GH) (a : Addr) : GH := fun b => if b = a then Option.none else G b
theorem Grow.del {s s' : Shared} {G G' : GH} {a : Addr} {o : Obj} (g : Grow s (G.put a o) s' G') (h : G a = Option.none) (hl : a < s.heap.objs.size) : Grow s G s' (G'.del a) :=
  have ne : ∀ b o', G b = some o' → b ≠ a := fun b o' e q => by rw [q, h] at e; cases e
  ⟨g.os, ⟨g.bare.gens, g.bare.pos, by unfold GH.del; split; rfl; exact g.bare.tb⟩, g.keep, g.wd, fun b o' e => by
    unfold GH.del at e
    by_cases q : b = a
    · rw [if_pos q] at e; cases e
    · rw [if_neg q] at e; exact g.sub b o' e, fun b o' e => by
    unfold GH.del
    rw [if_neg (ne b o' e)]
    exact g.le b o' (by unfold GH.put; rw [if_neg (ne b o' e)]; exact e), fun b o' e => by
    unfold GH.del at e
    by_cases q : b = a
    · rw [if_pos q] at e; cases e
    · rw [if_neg q] at e
      rcases g.new b o' e with z | z
      · unfold GH.put at z; rw [if_neg q] at z; exact .inl z
      · exact .inr z, g.size, g.toks⟩


/-- an expression's value, own lists at hand -/
structure Em (w : World) (n : Nat) (F : Fd) (σ : List SV) (μ : Mu) (e : Expr) (r : SV) : Prop where
  run :   ∀ (s₀ : Shared) (G₀ : GH) (env : Env) (A : Around) (s : Shared) (G : GH) (Q E : Value → Shared → Prop), EnvIs F env → Room n A → St s₀ G₀ F σ env s G → Own s₀ env s.heap G μ →
    (∀ v s' G', Grow s G s' G' → Rv G' r v → Q v s') → wpAny (model prog w) A (eval e env) Q E s
structure Tm (w : World) (n : Nat) (F : Fd) (σ : List SV) (μ : Mu) (e : Expr) (b : Bool) : Prop where
  run :   ∀ (s₀ : Shared) (G₀ : GH) (env : Env) (A : Around) (s : Shared) (G : GH) (Q : Bool → Shared → Prop) (E : Value → Shared → Prop), EnvIs F env → Room n A → St s₀ G₀ F σ env s G → Own s₀ env s.heap G μ →
    (∀ s' G', Grow s G s' G' → Q b s') → wpAny (model prog w) A (isTrue e env (eval e env)) Q E s
theorem Em.of {μ : Mu} {e : Expr} {r : SV} (h : Ev w n F σ e r) : Em w n F σ μ e r := .mk fun s₀ G₀ env A s G Q E I Ro T O q => h.run env A s G Q E I Ro T.grow.bare T.rel q
theorem Tm.of {μ : Mu} {e : Expr} {r : Bool} (h : Tr w n F σ e r) : Tm w n F σ μ e r := .mk fun s₀ G₀ env A s G Q E I Ro T O q => h.run env A s G Q E I Ro T.grow.bare T.rel q
theorem Tm.see {μ : Mu} {e : Expr} {r : Bool} (i j : Nat) {a : Addr} {ds : List PyData} (hi : σ[i]? = some (.v (.ref a))) (hj : μ[j]? = some (a, dts ds)) (h : Tm w n F (σ.set i (.d (.list ds))) (μ.eraseIdx j) e r) : Tm w n F σ μ e r :=
  .mk fun s₀ G₀ env A s G Q E I Ro T O q => by
    obtain ⟨o, h1, h2, h3, T', O', _⟩ := T.put O hi hj
    exact h.run s₀ G₀ env A s _ Q E I Ro T' O' fun s' G' g => q s' _ (g.del h1 h3)

/-! statements -/
inductive Out where
  | next (σ : List SV) (μ : Mu)
  | ret (r : SV)
  | brk (σ : List SV) (μ : Mu)
  | cont (σ : List SV) (μ : Mu)
noncomputable def OutIs (s₀ : Shared) (G₀ : GH) (F : Fd) (env : Env) (μ₁ : Mu) (s₁ : Shared) (G₁ : GH) : Out → Flow → Shared → Prop
  | .next σ μ, fl, s => fl = .next ∧ ∃ G, St s₀ G₀ F σ env s G ∧ Own s₀ env s.heap G μ ∧ Frm env μ₁.ad s₁ G₁ μ.ad s G
  | .ret r, fl, s => ∃ v G, fl = .ret v ∧ Rv G r v ∧ Grow s₀ G₀ s G
  | .brk σ μ, fl, s => fl = .brk ∧ ∃ G, St s₀ G₀ F σ env s G ∧ Own s₀ env s.heap G μ ∧ Frm env μ₁.ad s₁ G₁ μ.ad s G
  | .cont σ μ, fl, s => fl = .cont ∧ ∃ G, St s₀ G₀ F σ env s G ∧ Own s₀ env s.heap G μ ∧ Frm env μ₁.ad s₁ G₁ μ.ad s G
theorem OutIs.trans {s₀ : Shared} {G₀ : GH} {env : Env} {μ₁ μ₂ : Mu} {s₁ s₂ : Shared} {G₁ G₂ : GH} (x : Frm env μ₁.ad s₁ G₁ μ₂.ad s₂ G₂) : ∀ {o : Out} {fl s}, OutIs s₀ G₀ F env μ₂ s₂ G₂ o fl s → OutIs s₀ G₀ F env μ₁ s₁ G₁ o fl s
  | .next _ _, _, _, ⟨a, G, b, c, d⟩ => ⟨a, G, b, c, x.trans d⟩
  | .brk _ _, _, _, ⟨a, G, b, c, d⟩ => ⟨a, G, b, c, x.trans d⟩
  | .cont _ _, _, _, ⟨a, G, b, c, d⟩ => ⟨a, G, b, c, x.trans d⟩
  | .ret _, _, _, h => h
structure X1 (w : World) (n : Nat) (F : Fd) (σ : List SV) (μ : Mu) (st : Stmt) (Φ : Out → Prop) : Prop where
  run :   ∀ (s₀ : Shared) (G₀ : GH) (env : Env) (A : Around) (s : Shared) (G : GH) (Q : Flow → Shared → Prop) (E : Value → Shared → Prop), EnvIs F env → Fresh s₀ env → Room n A → St s₀ G₀ F σ env s G → Own s₀ env s.heap G μ →
    (∀ o fl s', Φ o → OutIs s₀ G₀ F env μ s G o fl s' → Q fl s') → wpAny (model prog w) A (exec st env) Q E s
structure Xs (w : World) (n : Nat) (F : Fd) (σ : List SV) (μ : Mu) (sts : List Stmt) (Φ : Out → Prop) : Prop where
  run :   ∀ (s₀ : Shared) (G₀ : GH) (env : Env) (A : Around) (s : Shared) (G : GH) (Q : Flow → Shared → Prop) (E : Value → Shared → Prop), EnvIs F env → Fresh s₀ env → Room n A → St s₀ G₀ F σ env s G → Own s₀ env s.heap G μ →
    (∀ o fl s', Φ o → OutIs s₀ G₀ F env μ s G o fl s' → Q fl s') → wpAny (model prog w) A (execs sts env) Q E s
/-- the rest behind a statement -/
noncomputable def Then (w : World) (n : Nat) (F : Fd) (rest : List Stmt) (Φ : Out → Prop) : Out → Prop
  | .next σ μ => Xs w n F σ μ rest Φ
  | o => Φ o
section
variable {μ : Mu} {Φ Ψ : Out → Prop}
theorem Xs.nil (h : Φ (.next σ μ)) : Xs w n F σ μ [] Φ := .mk fun s₀ G₀ env A s G Q E I Fr Ro T O q => wpAny_execs_nil (q _ _ _ h ⟨rfl, G, T, O, .refl⟩)
theorem Xs.cons {st : Stmt} {rest : List Stmt} (h : X1 w n F σ μ st (Then w n F rest Φ)) : Xs w n F σ μ (st :: rest) Φ := .mk fun s₀ G₀ env A s G Q E I Fr Ro T O q => wpAny_execs_cons (h.run s₀ G₀ env A s G _ E I Fr Ro T O fun o fl s' ho hs => by
  cases o with
  | next σ' μ' => obtain ⟨rfl, G', T', O', fr⟩ := hs; exact ho.run s₀ G₀ env A s' G' Q E I Fr Ro T' O' fun o fl s'' a b => q o fl s'' a (b.trans fr)
  | ret r => obtain ⟨v, G', rfl, z⟩ := hs; exact q (.ret r) _ s' ho ⟨v, G', rfl, z⟩
  | brk σ' μ' => obtain ⟨rfl, T'⟩ := hs; exact q (.brk σ' μ') _ s' ho ⟨rfl, T'⟩
  | cont σ' μ' => obtain ⟨rfl, T'⟩ := hs; exact q (.cont σ' μ') _ s' ho ⟨rfl, T'⟩)
theorem X1.mono {st : Stmt} (h : X1 w n F σ μ st Φ) (k : ∀ o, Φ o → Ψ o) : X1 w n F σ μ st Ψ := .mk fun s₀ G₀ env A s G Q E I Fr Ro T O q => h.run s₀ G₀ env A s G Q E I Fr Ro T O fun o fl s' ho => q o fl s' (k o ho)
theorem Xs.mono {sts : List Stmt} (h : Xs w n F σ μ sts Φ) (k : ∀ o, Φ o → Ψ o) : Xs w n F σ μ sts Ψ := .mk fun s₀ G₀ env A s G Q E I Fr Ro T O q => h.run s₀ G₀ env A s G Q E I Fr Ro T O fun o fl s' ho => q o fl s' (k o ho)
theorem Xs.freeze {sts : List Stmt} (i j : Nat) {a : Addr} {ds : List PyData} (hi : σ[i]? = some (.v (.ref a))) (hj : μ[j]? = some (a, dts ds)) (h : Xs w n F (σ.set i (.d (.list ds))) (μ.eraseIdx j) sts Φ) : Xs w n F σ μ sts Φ :=
  .mk fun s₀ G₀ env A s G Q E I Fr Ro T O q => by
    obtain ⟨o, h1, h2, h3, T', O', fr⟩ := T.put O hi hj
    exact h.run s₀ G₀ env A s _ Q E I Fr Ro T' O' fun o fl s' a b => q o fl s' a (b.trans fr)
theorem X1.ret {e : Expr} {r : SV} {pos : Pos} (h : Em w n F σ μ e r) (hΦ : Φ (.ret r)) : X1 w n F σ μ (.Return (some e) pos) Φ := .mk fun s₀ G₀ env A s G Q E I Fr Ro T O q =>
  wpAny_Return_some (h.run s₀ G₀ env A s G _ E I Ro T O fun v s1 G1 g1 r1 => q (.ret r) _ _ hΦ ⟨v, G1, rfl, r1, T.grow.trans g1⟩)

noncomputable def ixOf (x : Str) : List Str → Option Nat
  | [] => Option.none
  | y :: ys => if x == y then some 0 else (ixOf x ys).map (· + 1)
theorem ixOf_some {x : Str} : ∀ {xs : List Str} {i : Nat}, ixOf x xs = some i → xs[i]? = some x
  | y :: ys, i, e => by
    unfold ixOf at e
    by_cases q : x == y
    · rw [if_pos q] at e; cases e; rw [eq_of_beq q]; rfl
    · rw [if_neg q] at e
      cases e' : ixOf x ys with
      | none => rw [e'] at e; cases e
      | some k => rw [e'] at e; cases e; simpa using ixOf_some e'
noncomputable def storable (x : Str) : List Str → List NameKind → Bool
  | y :: ys, k :: ks => if x == y then k != .free else storable x ys ks
  | _, _ => false
theorem storable_at {x : Str} : ∀ {xs : List Str} {ks : List NameKind} {i : Nat}, storable x xs ks = true → ixOf x xs = some i → ∃ k, ks[i]? = some k ∧ k ≠ .free
  | y :: ys, k :: ks, i, h, e => by
    unfold storable at h
    unfold ixOf at e
    by_cases q : x == y
    · rw [if_pos q] at e h; cases e
      exact ⟨k, rfl, by simpa using h⟩
    · rw [if_neg q] at e h
      cases e' : ixOf x ys with
      | none => rw [e'] at e; cases e
      | some j => rw [e'] at e; cases e; simpa using storable_at h e'
  | [], _, _, h, _ => by simp [storable] at h
  | _ :: _, [], _, h, _ => by simp [storable] at h

theorem St.storeN {s₀ : Shared} {G₀ : GH} {env : Env} {A : Around} {s : Shared} {G : GH} {Q : Unit → Shared → Prop} {E : Value → Shared → Prop} {i : Nat} {x : Str} {r : SV} {v : Value} (I : EnvIs F env) (Fr : Fresh s₀ env) (T : St s₀ G₀ F σ env s G) (O : Own s₀ env s.heap G μ)
    (hx : ixOf x F.vars = some i) (hk : storable x F.vars F.kinds = true) (hv : Rv G r v) (h : ∀ s', St s₀ G₀ F (σ.set i r) env s' G → Own s₀ env s'.heap G μ → (∀ μ, Frm env μ s G μ s' G) → Q () s') : wpAny (model prog w) A (storeName env x v) Q E s := by
  obtain ⟨k, a, b⟩ := storable_at hk hx
  exact T.store I Fr (ixOf_some hx) a b hv fun s' T' pl fr => h s' T' (O.pl pl) fr

theorem X1.assign {i : Nat} {x : Str} {e : Expr} {r : SV} {p pos : Pos} (hx : ixOf x F.vars = some i) (hk : storable x F.vars F.kinds = true) (h : Em w n F σ μ e r) (hΦ : Φ (.next (σ.set i r) μ))
    (hs : ∀ env : Env, EnvIs F env → swapsWith e (some (.Name x p)) pos.line env = pure false := by intro _ _; rfl) : X1 w n F σ μ (.Assign [.Name x p] e pos) Φ := .mk fun s₀ G₀ env A s G Q E I Fr Ro T O q =>
  wpAny_Assign_Name (h.run s₀ G₀ env A s G _ E I Ro T O fun v s1 G1 g1 r1 => (T.step g1).storeN I Fr (O.grow g1) hx hk r1 fun s2 T2 O2 f2 => q (.next _ _) _ _ hΦ ⟨rfl, _, T2, O2, (Frm.grow g1).trans (f2 _)⟩) (hs env I)
theorem X1.ite {t : Expr} {body orelse : List Stmt} {pos : Pos} {c : Bool} (h : Tm w n F σ μ t c) (h1 : c = true → Xs w n F σ μ body Φ) (h2 : c = false → Xs w n F σ μ orelse Φ) : X1 w n F σ μ (.If t body orelse pos) Φ := .mk fun s₀ G₀ env A s G Q E I Fr Ro T O q =>
  wpAny_If (h.run s₀ G₀ env A s G _ E I Ro T O fun s1 G1 g1 => by
    cases c with
    | true => rw [if_pos rfl]; exact (h1 rfl).run s₀ G₀ env A s1 G1 Q E I Fr Ro (T.step g1) (O.grow g1) fun o fl s' a b => q o fl s' a (b.trans (.grow g1))
    | false => rw [if_neg (by simp)]; exact (h2 rfl).run s₀ G₀ env A s1 G1 Q E I Fr Ro (T.step g1) (O.grow g1) fun o fl s' a b => q o fl s' a (b.trans (.grow g1)))
theorem X1.brk {pos : Pos} (h : Φ (.brk σ μ)) : X1 w n F σ μ (.Break pos) Φ := .mk fun s₀ G₀ env A s G Q E I Fr Ro T O q => wpAny_Break (q _ _ _ h ⟨rfl, G, T, O, .refl⟩)
theorem X1.assert {t : Expr} {msg : Option Expr} {pos : Pos} (h : Tm w n F σ μ t true) (hΦ : Φ (.next σ μ)) : X1 w n F σ μ (.Assert t msg pos) Φ := .mk fun s₀ G₀ env A s G Q E I Fr Ro T O q =>
  wpAny_Assert_holds (h.run s₀ G₀ env A s G _ E I Ro T O fun s1 G1 g1 => ⟨rfl, q _ _ _ hΦ ⟨rfl, G1, T.step g1, O.grow g1, .grow g1⟩⟩)
/-- x = [] : a list of one's own -/
theorem X1.newList {i : Nat} {x : Str} {p p' pos : Pos} (hx : ixOf x F.vars = some i) (hk : storable x F.vars F.kinds = true) (hΦ : ∀ a, Φ (.next (σ.set i (.v (.ref a))) ((a, []) :: μ)))
    (hs : ∀ env : Env, EnvIs F env → swapsWith (.List [] p') (some (.Name x p)) pos.line env = pure false := by intro _ _; rfl) : X1 w n F σ μ (.Assign [.Name x p] (.List [] p') pos) Φ := .mk fun s₀ G₀ env A s G Q E I Fr Ro T O q =>
  wpAny_Assign_Name (List_ (Es.nil.run env A s G _ _ E I Ro T.grow.bare T.rel fun vs s1 G1 g1 r1 => by
    have e0 : vs = [] := by cases vs with | nil => rfl | cons _ _ => exact r1.elim
    subst e0
    refine wpAny_newObj_type ?_ (by show 0 ≤ sizeLine; exact Nat.zero_le _)
    have T1 := T.step g1
    have O1 := O.grow g1
    have g2 := Grow.push0 (s := s1) T1.grow.bare T1.rel.wd T1.rel.sub { cls := .type "list", data := .seq ([] : List Value).toArray } s1.toks
    have hno : G1 s1.heap.objs.size = Option.none := T1.rel.sub.none (Nat.le_refl _)
    obtain ⟨m1, N1, _⟩ := T1.rel.slots
    have O2 : Own s₀ env (s1.heap.push { cls := .type "list", data := .seq ([] : List Value).toArray }) G1 ((s1.heap.objs.size, []) :: μ) := by
      have O' := O1.grow g2
      refine ⟨List.nodup_cons.mpr ⟨fun q => ?_, O'.nd⟩, fun p hp => ?_⟩
      · obtain ⟨p, hp, e⟩ := List.mem_map.mp q
        obtain ⟨_, _, _, ⟨ys, d, _⟩, _⟩ := O1.at_ p hp
        exact Nat.lt_irrefl _ (e ▸ PlainList_lt d)
      · rcases List.mem_cons.mp hp with rfl | hp
        · exact ⟨hno, T1.grow.size, Nat.le_trans (T1.rel.wd.size) (Nat.le_refl _), ⟨#[], ⟨_, Heap.get?_push_size _ rfl⟩, trivial⟩, Nat.ne_of_lt N1.lt, fun q hq => Nat.ne_of_lt (T1.ltC hq)⟩
        · exact O'.at_ p hp
    refine (T1.step g2).storeN I Fr O2 hx hk (r := .v (.ref s1.heap.objs.size)) rfl fun s3 T3 O3 f3 => q (.next _ _) _ _ (hΦ _) ⟨rfl, _, T3, O3, Frm.trans ⟨fun b o h1 _ _ _ e => (g1.trans g2).keep b o h1 e, g1.le, fun a h => ?_, (g1.trans g2).live, fun b h1 _ h3 => (Frm.grow (env := env) (μ := []) g1).gn b h1 (fun z => nomatch z) h3⟩ (f3 _)⟩
    rcases List.mem_cons.mp h with rfl | h
    · exact .inr (get_none g1.size)
    · exact .inl h)) (hs env I)
end
end
end
section
open PySem PySem.W PyProof.Rows PySem.Calls
set_option maxRecDepth 100000

theorem Slots.of {env : Env} {h : Heap} {G : GH} {m : Str → Option Value} : ∀ {ks : List NameKind} {xs : List Str} {rs : List SV}, xs.length = ks.length → rs.length = ks.length →
    (∀ (i : Nat) k x r, ks[i]? = some k → xs[i]? = some x → rs[i]? = some r → Slot env h G m k x r) → Slots env h G m ks xs rs
  | [], [], [], _, _, _ => trivial
  | k :: ks, x :: xs, r :: rs, e1, e2, hh => ⟨hh 0 k x r rfl rfl rfl, Slots.of (by simpa using e1) (by simpa using e2) fun i k x r a b c => hh (i + 1) k x r (by simpa using a) (by simpa using b) (by simpa using c)⟩
  | [], [], _ :: _, _, e, _ => by simp at e
  | [], _ :: _, _, e, _, _ => by simp at e
  | _ :: _, [], _, e, _, _ => by simp at e
  | _ :: _, _ :: _, [], _, e, _ => by simp at e

theorem bindL_out {kd : Str → Option NameKind} {x : Str} : ∀ {b : List (Str × Value)} {m : Str → Option Value}, x ∉ b.map (·.1) → bindL kd b m x = m x
  | [], _, _ => rfl
  | (y, v) :: r, m, h => by
    rw [bindL, bindL_out (fun q => h (List.mem_cons_of_mem _ q))]
    have : x ≠ y := fun q => h (by rw [q]; exact List.mem_cons_self)
    split
    · simp [this]
    · rfl
theorem bindL_in {kd : Str → Option NameKind} {x : Str} {v : Value} (hk : kd x = some .local) : ∀ {b : List (Str × Value)} {m : Str → Option Value}, (b.map (·.1)).Nodup → (x, v) ∈ b → bindL kd b m x = some v
  | (y, u) :: r, m, hn, hm => by
    rw [bindL]
    have hn' := List.nodup_cons.mp hn
    rcases List.mem_cons.mp hm with e | hm
    · cases e
      rw [if_pos hk, bindL_out hn'.1]; simp
    · exact bindL_in hk hn'.2 hm
theorem bindC_out {kd : Str → Option NameKind} {x : Str} : ∀ {b : List (Str × Value)} {m : Str → Option Value}, x ∉ b.map (·.1) → bindC kd b m x = m x
  | [], _, _ => rfl
  | (y, v) :: r, m, h => by
    rw [bindC, bindC_out (fun q => h (List.mem_cons_of_mem _ q))]
    have : x ≠ y := fun q => h (by rw [q]; exact List.mem_cons_self)
    split
    · rfl
    · simp [this]
theorem bindC_in {kd : Str → Option NameKind} {x : Str} {v : Value} (hk : kd x ≠ some .local) : ∀ {b : List (Str × Value)} {m : Str → Option Value}, (b.map (·.1)).Nodup → (x, v) ∈ b → bindC kd b m x = some v
  | (y, u) :: r, m, hn, hm => by
    rw [bindC]
    have hn' := List.nodup_cons.mp hn
    rcases List.mem_cons.mp hm with e | hm
    · cases e
      rw [if_neg hk, bindC_out hn'.1]; simp
    · exact bindC_in hk hn'.2 hm

theorem RvA.length {G : GH} : ∀ {rs vs}, RvA G rs vs → rs.length = vs.length
  | [], [], _ => rfl
  | _ :: _, _ :: _, ⟨_, b⟩ => congrArg (· + 1) (RvA.length b)
  | [], _ :: _, x => x.elim
  | _ :: _, [], x => x.elim
theorem RvA.get {G : GH} : ∀ {rs vs}, RvA G rs vs → ∀ {i : Nat} {r : SV}, rs[i]? = some r → ∃ v, vs[i]? = some v ∧ Rv G r v
  | [], [], _, i, r, e => by simp at e
  | _ :: _, v :: _, ⟨a, b⟩, 0, r, e => by cases e; exact ⟨v, rfl, a⟩
  | _ :: _, _ :: _, ⟨_, b⟩, i + 1, r, e => by simpa using RvA.get b (i := i) (r := r) (by simpa using e)
  | [], _ :: _, x, _, _, _ => x.elim
  | _ :: _, [], x, _, _, _ => x.elim

/-- a def as it lies in the heap -/
structure DefAt (F : Fd) (a : Addr) (P : List Str) (body : List Stmt) (h : Heap) (k : Nat) (kn : List Str) (fill : List Value → List Value → List Value) : Prop where
  at_ : ∃ o fd, h.get? a = some o ∧ o.data = .func fd ∧ h.CodeRec fd.code fd.qualname ∧ fd.body = .stmts body ∧ fd.closure = [] ∧ fd.scope = F.sc ∧ fd.globals = mainGlobals ∧ fd.builtins = builtinsNs ∧ (∀ a, F.code = some a → fd.code = .ref a) ∧
    ∀ (s : Shared) (vs kvs : List Value), s.heap = h → vs.length = k → kvs.length = kn.length → BindsTo s fd ⟨vs, kn.zip kvs⟩ (P.zip (fill vs kvs))
/-- a def that can be called: its object, its code's record, its plain body -/
structure Callable (A : Around) (s : Shared) (a : Addr) (fd : FuncData) (body : List Stmt) : Prop where
  depth : A.depth < recursionLimit
  obj : ∃ o, s.heap.get? a = some o ∧ o.data = .func fd
  limit : s.heap.NoLimit
  code : s.heap.CodeRec fd.code fd.qualname
  body : fd.body = .stmts body
  open_ : fd.closure = []
  plain : (fd.scope.isCoroutine = false ∧ fd.scope.isGenerator = false) ∧ fd.scope.kind = .function
/-- a parameter is a local, or a cell that the frame lays -/
noncomputable abbrev Kept (fd : FuncData) (n : Nat) (x : Str) : Prop :=
  fd.scope.names.lookup x = some .local ∨ (fd.scope.names.lookup x = some .cell ∧ ((cellsFrom n fd.scope.names []).lookup x).isSome = true)
noncomputable abbrev FrameOf (s : Shared) (env : Env) (binds : List (Str × Value)) (s₁ : Shared) : Prop :=
  InCallC s env.locals (bindL env.kindOf binds fun _ => Option.none) env.cells (bindC env.kindOf binds fun _ => Option.none) s₁
/-- the body, walked in its frame: what comes back is the returned value, or None; an error leaves the frame -/
noncomputable abbrev BodyGives (w : World) (A : Around) (R : Result → Shared → Prop) (env : Env) (body : List Stmt) (s₁ : Shared) : Prop :=
  wpAny (model prog w) (A.deeper env) (execs body env) (fun f s' => R (.ok (.ret (match f with | .ret v => v | _ => .none))) s')
    (fun e s' => wpAny (model prog w) (A.deeper env) (leaving env e) (fun _ s'' => R (.error e) s'') (fun e' s'' => R (.error e') s'') s') s₁
theorem call_bound {w : World} {A : Around} {s : Shared} {R : Result → Shared → Prop} {a : Addr} {fd : FuncData} {body : List Stmt} {args : Args} {binds : List (Str × Value)}
    (c : Callable A s a fd body) (b : BindsTo s fd args binds) (k : ∀ x ∈ binds, Kept fd (s.heap.objs.size + 1) x.1)
    (go : ∀ s₁, FrameOf s (callEnvC fd s.heap.objs.size a) binds s₁ → s.toks ≤ s₁.toks → BodyGives w A R (callEnvC fd s.heap.objs.size a) body s₁) : codeAny (model prog w) A (.call (.ref a) args) R s := by
  obtain ⟨o, there, isDef⟩ := c.obj
  refine codeAny_call_function c.depth there isDef c.plain.1.1 c.plain.1.2 c.body c.code (b _ _ _ _ ?_)
  rw [c.open_]
  refine wpAny_toks (wpAny_newFunctionEnv_cells c.plain.2 k fun env same s₁ inside later => ?_)
  cases same
  exact ⟨c.limit.keeps inside.toInCall.keep, codeAny_func (go s₁ inside later)⟩
noncomputable def FnEnd (r : SV) : Out → Prop
  | .ret r' => r' = r
  | .next _ _ => r = .d .none
  | _ => False

noncomputable def Fd.plain (F : Fd) (k : Nat) : Bool := F.sc.isCoroutine == false && F.sc.isGenerator == false && F.kinds.all (· != .free) && F.vars.all (fun x => !(F.sc.names.lookup x == some .cell) || ((cellsFrom 0 F.sc.names []).lookup x).isSome) && decide (k ≤ F.vars.length) && decide ((cellsFrom 0 F.sc.names []).map (·.1)).Nodup

theorem cellsFrom_isSome {x : Str} : ∀ (names : List (Str × NameKind)) (n m : Nat) (acc acc' : List (Str × Addr)), (acc.lookup x).isSome = (acc'.lookup x).isSome → ((cellsFrom n names acc).lookup x).isSome = ((cellsFrom m names acc').lookup x).isSome
  | [], _, _, _, _, h => h
  | (y, k) :: r, n, m, acc, acc', h => by
    unfold cellsFrom
    split
    · refine cellsFrom_isSome r _ _ _ _ ?_
      rw [List.lookup_cons, List.lookup_cons]
      cases x == y <;> simp [h]
    · exact cellsFrom_isSome r _ _ _ _ h

section
variable {w : World} {n : Nat} {F : Fd}
theorem Ckf.def {a : Addr} {P : List Str} {body : List Stmt} {rs args ks : List SV} {kn : List Str} {fill : List Value → List Value → List Value} {r : SV} {k k' : Nat} (hd : ∀ h, Wd h → DefAt F a P body h k' kn fill) (hP : F.vars.take k = P) (hl : rs.length = k) (hPl : P.length = k) (hl' : args.length = k') (hl2 : ks.length = kn.length) (ok : F.ok = true) (pl : F.plain k = true)
    (hfill : ∀ G vs kvs, RvA G args vs → RvA G ks kvs → RvA G rs (fill vs kvs))
    (h : Xs w n F (rs ++ List.replicate (F.vars.length - k) .u) [] body (FnEnd r)) : Ckf F.fl w (n + 1) (.ref a) args kn ks r := .mk fun A s G vs0 kvs0 Q E hfl Ro B W kG hr0 hrk q => by
  have hr := hfill G _ _ hr0 hrk
  simp only [Fd.plain, Bool.and_eq_true, beq_iff_eq, List.all_eq_true, bne_iff_ne, ne_eq, decide_eq_true_eq, Bool.or_eq_true, Bool.not_eq_true', beq_eq_false_iff_ne] at pl
  obtain ⟨⟨⟨⟨⟨hco, hgen⟩, hfree⟩, hcells⟩, hkl⟩, hnd⟩ := pl
  obtain ⟨o, fd, ho, hdat, hcd, hbody, hclo, hsc, hgl, hbl, hco19, hbind⟩ := (hd _ W).at_
  have hbind0 := hbind s vs0 kvs0 rfl (by rw [← hr0.length, hl']) (by rw [← hrk.length, hl2])
  revert hr hbind0
  generalize fill vs0 kvs0 = vs
  intro hr hbind0
  have hvl : vs.length = k := by rw [← hr.length, hl]
  have hlen : F.vars.length = F.kinds.length := Fd.ok_len ok
  have hlim : s.heap.NoLimit := let ⟨g, Bs, kk⟩ := W.base; Bs.nolimit.keeps fun p o e => (kk p o e).2.2
  have hkf : F.sc.kind = .function := by
    unfold Fd.ok at ok
    simp only [Bool.and_eq_true, beq_iff_eq] at ok
    exact ok.1.1.1
  have hPn : P.Nodup := by rw [← hP]; exact (Fd.ok_nodup ok).sublist (List.take_sublist _ _)
  have hkeys : (P.zip vs).map (·.1) = P := by rw [List.map_fst_zip]; omega
  have hmemP : ∀ x ∈ P, ∃ kk, F.sc.names.lookup x = some kk ∧ (kk = .local ∨ kk = .cell) := fun x hx => by
    rw [← hP] at hx
    obtain ⟨i, hi, e⟩ := List.getElem_of_mem (List.mem_of_mem_take hx)
    have hxi : F.vars[i]? = some x := by rw [← e]; exact List.getElem?_eq_getElem hi
    have hki : F.kinds[i]? = some (F.kinds[i]'(by omega)) := List.getElem?_eq_getElem _
    obtain ⟨z1, z2, _⟩ := Fd.ok_at ok hxi hki
    refine ⟨_, z1, ?_⟩
    rcases z2 with z | z | z
    · exact .inl z
    · exact .inr z
    · exact absurd z (hfree _ (List.getElem_mem _))
  refine wpAny_call (call_bound (fd := fd) ⟨by have := Ro.depth; show A.depth < 1000; omega, ⟨_, ho, hdat⟩, hlim, hcd, hbody, hclo, by rw [hsc]; exact ⟨⟨hco, hgen⟩, hkf⟩⟩ hbind0 ?_ ?_)
  · intro x hx
    unfold Kept
    rw [hsc]
    have hxP : x.1 ∈ P := by rw [← hkeys]; exact List.mem_map_of_mem hx
    obtain ⟨kk, z1, z2⟩ := hmemP x.1 hxP
    rcases z2 with rfl | rfl
    · exact .inl z1
    · refine .inr ⟨z1, ?_⟩
      rw [cellsFrom_isSome _ _ 0 [] [] rfl]
      have hv : x.1 ∈ F.vars := by rw [← hP] at hxP; exact List.mem_of_mem_take hxP
      rcases hcells _ hv with z | z
      · exact absurd z1 z
      · exact z
  · intro s₁ X hle
    obtain ⟨h₁, tk, rfl⟩ := X.toInCall.same
    have hle : s.toks ≤ tk := hle
    let env := callEnvC fd s.heap.objs.size a
    have hns := X.toInCall.ns
    have hkp := X.toInCall.keep
    have hkind : ∀ x, env.kindOf x = F.sc.names.lookup x := fun x => by show fd.scope.names.lookup x = _; rw [hsc]
    have hL : env.locals = s.heap.objs.size := rfl
    have habove : ∀ p ∈ env.cells, s.heap.objs.size ≤ p.2 := fun p hp => Nat.le_of_lt (X.above p.1 p.2 hp)
    have I : EnvIs F env := ⟨ok, hsc, by show fd.scope.kind = _; rw [hsc]; exact hkf, hgl, hbl, W.size, X.apart, fun p hp => Nat.le_trans W.size (habove p hp), hco19⟩
    have hsz : s.heap.objs.size ≤ h₁.objs.size := Nat.le_of_lt (hns.lt)
    have W₁ : Wd h₁ := W.keeps hkp hsz
    have g₁ : Grow s G { s with heap := h₁, toks := tk } G := ⟨rfl, B.up hle, .of hkp, W₁, fun b o e => hkp _ _ (kG b o e), .refl _, fun _ _ e => .inl e, hsz, hle⟩
    have T : St s G F (rs ++ List.replicate (F.vars.length - k) .u) env { s with heap := h₁, toks := tk } G := by
      refine ⟨g₁, ⟨W₁, g₁.sub, _, hns, Slots.of hlen (by simp only [List.length_append, List.length_replicate]; omega) fun i kk x r' e1 e2 e3 => ?_⟩, hfl, kG.none (Nat.le_refl _), fun p hp => ⟨kG.none (habove p hp), Nat.ne_of_gt (Nat.lt_of_lt_of_le (by decide) (Nat.le_trans W.size (habove p hp))), ?_⟩⟩
      rotate_left
      · have hin : ∀ nm c, (nm, c) ∈ env.cells → ∃ o, h₁.get? c = some o := fun nm c hm => by
          have hl : (cellsFrom (s.heap.objs.size + 1) fd.scope.names []).lookup nm = some c := by
            have hm : (nm, c) ∈ cellsFrom (s.heap.objs.size + 1) fd.scope.names [] := hm
            rw [hsc] at hm ⊢
            exact lookup_of_mem_nodup (cellsFrom_names F.sc.names 0 (s.heap.objs.size + 1) [] [] rfl ▸ hnd) hm
          exact (X.cell nm c hl).imp fun _ z => z.1
        exact hin p.1 p.2 hp
      obtain ⟨z1, z2, _⟩ := Fd.ok_at ok e2 e1
      have hxv : x ∈ F.vars := List.mem_of_getElem? e2
      have hcell : kk ≠ .local → ∃ c, env.cells.lookup x = some c := fun q => by
        have zc : F.sc.names.lookup x = some .cell := by
          rcases z2 with z | z | z
          · exact absurd z q
          · rw [z1, z]
          · exact absurd z (hfree _ (List.mem_of_getElem? e1))
        have : (env.cells.lookup x).isSome = true := by
          show ((cellsFrom (s.heap.objs.size + 1) fd.scope.names []).lookup x).isSome = true
          rw [hsc, cellsFrom_isSome _ _ 0 [] [] rfl]
          rcases hcells _ hxv with z | z
          · exact absurd zc z
          · exact z
        exact Option.isSome_iff_exists.mp this
      by_cases hik : i < k
      · have hr' : rs[i]? = some r' := by rwa [List.getElem?_append_left (by omega)] at e3
        obtain ⟨v, hv, hrv⟩ := hr.get hr'
        have hPx : P[i]? = some x := by rw [← hP, List.getElem?_take_of_lt hik]; exact e2
        have hin : (x, v) ∈ P.zip vs := List.mem_of_getElem? (i := i) (by simp [List.getElem?_zip_eq_some, hPx, hv])
        unfold Slot
        by_cases q : kk = .local
        · rw [if_pos q]
          exact .inr ⟨v, bindL_in (by show env.kindOf x = _; rw [hkind, z1, q]) (by rw [hkeys]; exact hPn) hin, hrv⟩
        · rw [if_neg q]
          obtain ⟨c, hc⟩ := hcell q
          exact ⟨c, _, hc, X.cell x c hc, .inr ⟨v, bindC_in (by show env.kindOf x ≠ _; rw [hkind, z1]; simpa using q) (by rw [hkeys]; exact hPn) hin, hrv⟩⟩
      · have hu : r' = .u := by
          rw [List.getElem?_append_right (by omega)] at e3
          exact (List.eq_of_mem_replicate (List.mem_of_getElem? e3))
        subst hu
        unfold Slot
        by_cases q : kk = .local
        · rw [if_pos q]; exact .inl rfl
        · rw [if_neg q]
          obtain ⟨c, hc⟩ := hcell q
          exact ⟨c, _, hc, X.cell x c hc, .inl rfl⟩
    have Fr : Fresh s env := ⟨Nat.le_refl _, habove⟩
    have Ro' : Room n (A.deeper env) := ⟨fun _ => (Ro.hd (by omega)), by have := Ro.depth; show A.depth + 1 + n < 1000; omega, by have := Ro.units; show A.units + 3 + 20 * n + 500 < 9900; omega⟩
    refine h.run s G env (A.deeper env) _ G _ _ I Fr Ro' T .nil fun o fl s' ho hs => ?_
    cases o with
    | next σ' μ' =>
      obtain ⟨rfl, G', T', _⟩ := hs
      have hr0 : r = .d .none := ho
      subst hr0
      exact q .none s' G' T'.grow .none
    | ret r' =>
      obtain ⟨v, G', rfl, hv, g'⟩ := hs
      have hr0 : r' = r := ho
      subst hr0
      exact q v s' G' g' hv
    | brk σ' μ' => exact ho.elim
    | cont σ' μ' => exact ho.elim

theorem Ck.def {a : Addr} {P : List Str} {body : List Stmt} {rs args ks : List SV} {kn : List Str} {fill : List Value → List Value → List Value} {r : SV} {k k' : Nat} (hd : ∀ h, Wd h → DefAt F a P body h k' kn fill) (hP : F.vars.take k = P) (hl : rs.length = k) (hPl : P.length = k) (hl' : args.length = k') (hl2 : ks.length = kn.length) (ok : F.ok = true) (pl : F.plain k = true)
    (hfill : ∀ G vs kvs, RvA G args vs → RvA G ks kvs → RvA G rs (fill vs kvs))
    (h : Xs w n F (rs ++ List.replicate (F.vars.length - k) .u) [] body (FnEnd r)) (h0 : F.fl = 0 := by rfl) : Ck w (n + 1) (.ref a) args kn ks r :=
  .mk fun A s G vs kvs Q E Ro B W kG hr hk q => (Ckf.def hd hP hl hPl hl' hl2 ok pl hfill h).run A s G vs kvs Q E (by rw [h0]; exact Nat.zero_le _) Ro B W kG hr hk q
theorem Cs.def {a : Addr} {P : List Str} {body : List Stmt} {rs : List SV} {r : SV} {k : Nat} (hd : ∀ h, Wd h → DefAt F a P body h k [] fun vs _ => vs) (hP : F.vars.take k = P) (hl : rs.length = k) (hPl : P.length = k) (ok : F.ok = true) (pl : F.plain k = true)
    (h : Xs w n F (rs ++ List.replicate (F.vars.length - k) .u) [] body (FnEnd r)) (h0 : F.fl = 0 := by rfl) : Cs w (n + 1) (.ref a) rs r :=
  .mk fun A s G vs Q E Ro B W kG hr q => (Ck.def (kn := []) (ks := []) hd hP hl hPl hl rfl ok pl (fun _ _ _ x _ => x) h h0).run A s G vs [] Q E Ro B W kG hr trivial q
theorem FnAt.def {i : Nat} {a : Addr} {P : List Str} {k : Nat} (hm : (i, a) ∈ fnT) (hsc : F.sc = fnScope i)
    (hb : ∀ pm cd doc, ∀ vs : List Value, vs.length = k → bindArgs (docDef (fnName i) (fnArgs i) (fnBody i) (fnScope i) pm cd doc) ⟨vs, []⟩ = pure (P.zip vs)) (hcn : F.code = Option.none := by rfl) : ∀ h, Wd h → DefAt F a P (fnBody i) h k [] fun vs _ => vs := fun h W => by
  obtain ⟨g, Bs, kk⟩ := W.base
  obtain ⟨o, pm, cd, doc, e, d, c⟩ := (Bs.fns _ hm).keeps fun p o e => (kk p o e).2.2
  exact ⟨o, _, e, d, c, rfl, rfl, hsc.symm, rfl, rfl, (fun a e => by rw [hcn] at e; cases e), fun s vs kvs _ hv _ => .of_eq (hb pm cd doc vs hv)⟩
theorem Callee.fn {i : Nat} {a : Addr} (hm : (i, a) ∈ fnT) : Callee (.ref a) := .inr (.inr ⟨a, rfl, fun h W => by
  obtain ⟨g, Bs, kk⟩ := W.base
  obtain ⟨o, pm, cd, doc, e, d, c⟩ := (Bs.fns _ hm).keeps fun p o e => (kk p o e).2.2
  exact ⟨o, _, e, d⟩⟩)
theorem Callee.builtin (id : String) : Callee (.builtin id) := .inl ⟨_, rfl⟩
theorem Callee.type (id : String) : Callee (.type id) := .inr (.inl ⟨_, rfl⟩)
end
end
section
open PySem PySem.W PyProof.Rows PySem.Calls
set_option maxRecDepth 100000

noncomputable def relS (scope sc : Scope) : Scope :=
  { scope with names := scope.names.map fun (n, k) => if (k == .free && sc.kind == .function && sc.names.lookup n == some .cell) then (n, .cell) else (n, k) }
theorem relabel_eq {scope : Scope} {env : Env} {F : Fd} (I : EnvIs F env) : relabel scope env = relS scope F.sc := by
  unfold relabel relS Env.kindOf
  rw [I.sc]

noncomputable def clos (cells : List (Str × Addr)) : List (Str × NameKind) → List (Str × Addr) → List (Str × Addr)
  | [], acc => acc
  | (n, k) :: r, acc => if k == .free then clos cells r ((n, (cells.lookup n).getD 0) :: acc) else clos cells r acc

theorem clos_loop {env : Env} (f : Str × NameKind → List (Str × Addr) → Sem (ForInStep (List (Str × Addr))))
    (hf : ∀ name kind cs, f (name, kind) cs = if (kind == NameKind.free) = true then (do let c ← cellOf env name; pure (.yield ((name, c) :: cs))) else pure (.yield cs)) : ∀ (l : List (Str × NameKind)) (acc : List (Str × Addr)),
      (∀ p ∈ l, p.2 = .free → (env.cells.lookup p.1).isSome = true) → forIn l acc f = pure (clos env.cells l acc)
  | [], acc, _ => rfl
  | (nm, k) :: r, acc, hl => by
    rw [List.forIn_cons, hf]
    have hr := fun q hq => hl q (List.mem_cons_of_mem _ hq)
    by_cases hk : (k == NameKind.free) = true
    · obtain ⟨c, hc⟩ := Option.isSome_iff_exists.mp (hl (nm, k) List.mem_cons_self (by simpa using hk))
      rw [if_pos hk, clos, if_pos hk]
      have : cellOf env nm = pure c := by unfold cellOf; rw [hc]
      rw [this, hc]
      exact clos_loop f hf r _ hr
    · rw [if_neg hk, clos, if_neg hk]
      exact clos_loop f hf r _ hr
theorem closureFor_eq {scope : Scope} {env : Env} (h : ∀ p ∈ scope.names, p.2 = .free → (env.cells.lookup p.1).isSome = true) : closureFor scope env = pure (clos env.cells scope.names []) := by
  unfold closureFor
  show (forIn scope.names [] _ >>= fun s => pure s) = _
  rw [clos_loop _ (fun name kind cs => by cases kind <;> rfl) _ _ h]
  rfl
theorem clos_lookup {cells : List (Str × Addr)} {nm : Str} (hs : (cells.lookup nm).isSome = true) : ∀ {l : List (Str × NameKind)} {acc : List (Str × Addr)}, ((nm, NameKind.free) ∈ l ∨ acc.lookup nm = cells.lookup nm) → (clos cells l acc).lookup nm = cells.lookup nm
  | [], acc, h => h.elim (fun q => nomatch q) id
  | (y, k) :: r, acc, h => by
    unfold clos
    by_cases hk : (k == NameKind.free) = true
    · rw [if_pos hk]
      refine clos_lookup hs ?_
      by_cases hy : (nm == y) = true
      · right
        rw [List.lookup_cons, hy]
        rw [beq_iff_eq.mp hy] at hs ⊢
        obtain ⟨c, hc⟩ := Option.isSome_iff_exists.mp hs
        rw [hc]; rfl
      · rcases h with h | h
        · rcases List.mem_cons.mp h with e | h
          · cases e; simp at hy
          · exact .inl h
        · right; rw [List.lookup_cons]; simpa [hy] using h
    · rw [if_neg hk]
      refine clos_lookup hs (h.imp (fun h => ?_) id)
      rcases List.mem_cons.mp h with e | h
      · cases e; exact absurd rfl hk
      · exact h
theorem clos_mem {cells : List (Str × Addr)} {p : Str × Addr} : ∀ {l : List (Str × NameKind)} {acc : List (Str × Addr)}, (∀ q ∈ l, q.2 = .free → (cells.lookup q.1).isSome = true) → p ∈ clos cells l acc → p ∈ acc ∨ (cells.lookup p.1 = some p.2 ∧ (p.1, NameKind.free) ∈ l)
  | [], acc, _, h => .inl h
  | (y, k) :: r, acc, hl, h => by
    unfold clos at h
    have hr := fun q hq => hl q (List.mem_cons_of_mem _ hq)
    by_cases hk : (k == NameKind.free) = true
    · rw [if_pos hk] at h
      have hk' : k = .free := by simpa using hk
      subst hk'
      rcases clos_mem hr h with h | ⟨h1, h2⟩
      · rcases List.mem_cons.mp h with rfl | h
        · right
          obtain ⟨c, hc⟩ := Option.isSome_iff_exists.mp (hl (y, .free) List.mem_cons_self rfl)
          refine ⟨?_, List.mem_cons_self⟩
          show cells.lookup y = _
          rw [hc]; rfl
        · exact .inl h
      · exact .inr ⟨h1, List.mem_cons_of_mem _ h2⟩
    · rw [if_neg hk] at h
      rcases clos_mem hr h with h | ⟨h1, h2⟩
      · exact .inl h
      · exact .inr ⟨h1, List.mem_cons_of_mem _ h2⟩
theorem clos_apart {cells : List (Str × Addr)} (ap : cells.Pairwise fun x y => x.2 ≠ y.2) : ∀ {l : List (Str × NameKind)} {acc : List (Str × Addr)}, (l.map (·.1)).Nodup → (∀ q ∈ l, q.2 = .free → (cells.lookup q.1).isSome = true) →
    (∀ p ∈ acc, cells.lookup p.1 = some p.2 ∧ p.1 ∉ l.map (·.1)) → acc.Pairwise (fun x y => x.2 ≠ y.2) → (clos cells l acc).Pairwise fun x y => x.2 ≠ y.2
  | [], acc, _, _, _, h => h
  | (y, k) :: r, acc, hn, hl, ha, h => by
    have hr := fun q hq => hl q (List.mem_cons_of_mem _ hq)
    have hn' := List.nodup_cons.mp hn
    unfold clos
    by_cases hk : (k == NameKind.free) = true
    · rw [if_pos hk]
      have hk' : k = .free := by simpa using hk
      subst hk'
      obtain ⟨c, hc⟩ := Option.isSome_iff_exists.mp (hl (y, .free) List.mem_cons_self rfl)
      have hc : cells.lookup y = some c := hc
      refine clos_apart ap hn'.2 hr (fun p hp => ?_) ?_
      · rcases List.mem_cons.mp hp with rfl | hp
        · exact ⟨by rw [hc]; rfl, hn'.1⟩
        · exact ⟨(ha p hp).1, fun q => (ha p hp).2 (List.mem_cons_of_mem _ q)⟩
      · refine List.pairwise_cons.mpr ⟨fun p hp e => ?_, h⟩
        have e : (cells.lookup y).getD 0 = p.2 := e
        rw [hc] at e
        have e : c = p.2 := e
        have := name_of_addr ap (mem_of_lookup hc) (e ▸ mem_of_lookup (ha p hp).1)
        exact (ha p hp).2 (by rw [← this]; exact List.mem_cons_self)
    · rw [if_neg hk]
      exact clos_apart ap hn'.2 hr (fun p hp => ⟨(ha p hp).1, fun q => (ha p hp).2 (List.mem_cons_of_mem _ q)⟩) h

theorem cellsFrom_other {nm : Str} : ∀ {l : List (Str × NameKind)} {m : Nat} {acc : List (Str × Addr)}, (nm, NameKind.cell) ∉ l → (cellsFrom m l acc).lookup nm = acc.lookup nm
  | [], _, _, _ => rfl
  | (y, k) :: r, m, acc, h => by
    unfold cellsFrom
    by_cases hk : (k == NameKind.cell) = true
    · rw [if_pos hk, cellsFrom_other (fun q => h (List.mem_cons_of_mem _ q)), List.lookup_cons]
      have hk' : k = .cell := by simpa using hk
      have : (nm == y) = false := by
        cases q : nm == y with
        | false => rfl
        | true => exact absurd (by rw [beq_iff_eq.mp q, hk']; exact List.mem_cons_self) h
      rw [this]
    · rw [if_neg hk]
      exact cellsFrom_other (fun q => h (List.mem_cons_of_mem _ q))
theorem cellsFrom_own {nm : Str} {l : List (Str × NameKind)} {h : Heap} {acc : List (Str × Addr)} (hn : (l.map (·.1)).Nodup) (hm : (nm, NameKind.cell) ∈ l) : ∃ c, (cellsFrom h.objs.size l acc).lookup nm = some c ∧ h.objs.size ≤ c ∧ (pushCells h l).IsCell c none := by
  induction l generalizing h acc with
  | nil => exact absurd hm List.not_mem_nil
  | cons p r ih =>
    obtain ⟨y, k⟩ := p
    have hn' := List.nodup_cons.mp hn
    unfold cellsFrom pushCells
    by_cases hk : (k == NameKind.cell) = true
    · rw [if_pos hk, if_pos hk]
      have hsz : (h.push { cls := .type "cell", data := .cell none }).objs.size = h.objs.size + 1 := Heap.size_push ..
      rcases List.mem_cons.mp hm with e | hm
      · cases e
        refine ⟨h.objs.size, ?_, Nat.le_refl _, ⟨_, pushCells_keeps _ _ _ _ (Heap.get?_push_size _ rfl), rfl⟩⟩
        rw [cellsFrom_other (fun q => hn'.1 (List.mem_map_of_mem q)), List.lookup_cons]
        simp
      · obtain ⟨c, a, b, d⟩ := ih (h := h.push { cls := .type "cell", data := .cell none }) (acc := (y, h.objs.size) :: acc) hn'.2 hm
        rw [hsz] at a b
        exact ⟨c, a, Nat.le_of_succ_le b, d⟩
    · rw [if_neg hk, if_neg hk]
      rcases List.mem_cons.mp hm with e | hm
      · cases e; exact absurd rfl hk
      · exact ih hn'.2 hm
theorem cellsFrom_mem {p : Str × Addr} : ∀ {l : List (Str × NameKind)} {h : Heap} {acc : List (Str × Addr)}, p ∈ cellsFrom h.objs.size l acc → p ∈ acc ∨ (h.objs.size ≤ p.2 ∧ p.2 < (pushCells h l).objs.size)
  | [], _, _, h => .inl h
  | (y, k) :: r, h, acc, hm => by
    unfold cellsFrom at hm
    unfold pushCells
    by_cases hk : (k == NameKind.cell) = true
    · rw [if_pos hk] at hm
      rw [if_pos hk]
      have hsz : (h.push { cls := .type "cell", data := .cell none }).objs.size = h.objs.size + 1 := Heap.size_push ..
      rw [← hsz] at hm
      rcases cellsFrom_mem hm with q | q
      · rcases List.mem_cons.mp q with rfl | q
        · exact .inr ⟨Nat.le_refl _, Heap.lt_size (pushCells_keeps _ _ _ _ (Heap.get?_push_size _ rfl))⟩
        · exact .inl q
      · rw [hsz] at q
        exact .inr ⟨Nat.le_of_succ_le q.1, q.2⟩
    · rw [if_neg hk] at hm
      rw [if_neg hk]
      exact cellsFrom_mem hm
theorem cellsFrom_apart : ∀ {l : List (Str × NameKind)} {h : Heap} {acc : List (Str × Addr)}, acc.Pairwise (fun x y => x.2 ≠ y.2) → (∀ p ∈ acc, p.2 < h.objs.size) → (cellsFrom h.objs.size l acc).Pairwise fun x y => x.2 ≠ y.2
  | [], _, _, h, _ => h
  | (y, k) :: r, h, acc, hp, hl => by
    unfold cellsFrom
    by_cases hk : (k == NameKind.cell) = true
    · rw [if_pos hk]
      have hsz : (h.push { cls := .type "cell", data := .cell none }).objs.size = h.objs.size + 1 := Heap.size_push ..
      rw [← hsz]
      refine cellsFrom_apart (List.pairwise_cons.mpr ⟨fun p hq e => ?_, hp⟩) fun p hq => ?_
      · have e : h.objs.size = p.2 := e
        exact Nat.lt_irrefl _ (e ▸ hl p hq)
      · rw [hsz]
        rcases List.mem_cons.mp hq with rfl | hq
        · exact Nat.lt_succ_self _
        · exact Nat.lt_succ_of_lt (hl p hq)
    · rw [if_neg hk]
      exact cellsFrom_apart hp hl
end
section
open PySem PySem.W PyProof.Rows PySem.Calls
set_option maxRecDepth 100000

section
variable {w : World} {n : Nat} {F : Fd} {σ : List SV}

/-- an iterator that no tuple of its own hands out -/
noncomputable def LetOk (h : Heap) (I : Addr) : Prop := ∃ o vs T, h.get? I = some o ∧ o.cls = .type T ∧ o.data = .fields vs ∧ ["enumerate", "zip", "dict_itemiterator", "dict_reverseitemiterator", "odict_iterator", "itertools.zip_longest", "itertools.pairwise"].contains T = false
/-- an expression that a for or a comprehension runs over -/
structure Ei (w : World) (n : Nat) (F : Fd) (σ : List SV) (e : Expr) (xs : List PyData) : Prop where
  run :   ∀ (env : Env) (A : Around) (s : Shared) (G : GH) (Q E : Value → Shared → Prop), EnvIs F env → Room n A → Bare s G → Rel F σ env s.heap G →
    (∀ I fp wr P St s' G', Grow s G s' G' → Walks prog w A I fp wr xs.length P St → St 0 s'.heap → (∀ b ∈ fp, b < s'.heap.objs.size ∧ b ≠ TB ∧ (s.heap.objs.size ≤ b ∨ G' b ≠ Option.none)) → (∀ b ∈ wr, G' b = none ∧ s.heap.objs.size ≤ b) →
      (∀ i v, P i v → ∃ d, xs[i]? = some d ∧ Rd G' v d) → (I ∈ fp ∧ s.heap.objs.size ≤ I ∧ (∀ i h, St i h → ∀ b ∈ fp, ∃ o, h.get? b = some o) ∧ ∀ i h, St i h → LetOk h I) → Q (.ref I) s') →
    wpAny (model prog w) A (eval e env) (fun x s₁ => wpAny (model prog w) A (pyIter x) Q E s₁) E s

theorem Ei.list {e : Expr} {xs : List PyData} (h : Ev w (n + 1) F σ e (.list xs)) : Ei w (n + 1) F σ e xs := .mk fun env A s G Q E I Ro B R q =>
  h.run env A s G _ E I Ro B R fun v s1 G1 g1 r1 => by
    obtain ⟨a, items, rfl, L, _, ra⟩ := Rd.list_inv g1.sub r1
    have hlt : a < s1.heap.objs.size := let ⟨_, e, _⟩ := L; Heap.lt_size e
    refine wpAny_pyIter_list L ?_
    have g2 := Grow.push0 (s := s1) g1.bare g1.wd g1.sub { cls := .type "list_iterator", data := .fields #[.ref a, .int 0 0] } s1.toks
    have hz : items.size = xs.length := by rw [← ra.length]; simp
    refine q s1.heap.objs.size _ _ _ _ _ G1 (g1.trans g2) (hz ▸ Walks.list (Ro.hd (by omega)) s1.heap.objs.size a (Nat.ne_of_lt hlt) items) ⟨⟨_, Heap.get?_push_size _ rfl, rfl, rfl⟩, L.push _⟩ (fun b hb => ?_) (fun b hb => ?_) (fun i v hv => ?_) ⟨List.mem_cons_self, g1.size, fun i h st b hb => ?_, fun i h st => let ⟨⟨o, e, c, d⟩, _⟩ := st; ⟨o, _, _, e, c, d, by decide⟩⟩
    · show b < (s1.heap.push _).objs.size ∧ _
      rw [Heap.size_push]
      rcases List.mem_cons.mp hb with rfl | hb
      · exact ⟨Nat.lt_succ_self _, Nat.ne_of_gt (Nat.lt_of_lt_of_le (by decide) g1.wd.size), .inl g1.size⟩
      · rw [List.mem_singleton.mp hb]
        exact ⟨Nat.lt_succ_of_lt hlt, let ⟨_, e, _, _, d⟩ := L; g1.wd.ne e (seq_ne d), .inr (by obtain ⟨o, e⟩ := r1.held; rw [e]; nofun)⟩
    · rw [List.mem_singleton.mp hb]
      exact ⟨g1.sub.none (Nat.le_refl _), g1.size⟩
    · obtain ⟨d, hd, rd⟩ := ra.getV (i := i) (v := v) (by simpa using hv)
      exact ⟨d, hd, rd⟩
    · rcases List.mem_cons.mp hb with rfl | hb
      · obtain ⟨_, e, _⟩ := st.1; exact ⟨_, e⟩
      · rw [List.mem_singleton.mp hb]; obtain ⟨_, e, _⟩ := st.2; exact ⟨_, e⟩

/-- the tests of a comprehension -/
inductive Ifs (w : World) (n : Nat) (F : Fd) (σ : List SV) : List Expr → Bool → Prop
  | nil : Ifs w n F σ [] true
  | one {e b} : Tr w n F σ e b → Ifs w n F σ [e] b

theorem Ifs.run {env : Env} {A : Around} {s : Shared} {G : GH} {ifs : List Expr} {b : Bool} {Q : Bool → Shared → Prop} {E : Value → Shared → Prop} (h : Ifs w n F σ ifs b) (I : EnvIs F env) (Ro : Room n A) (B : Bare s G) (R : Rel F σ env s.heap G)
    (q : ∀ s' G', Grow s G s' G' → Q b s') : wpAny (model prog w) A (forIn ifs true fun c r => if r = true then do let ok ← isTrue c env (eval c env); pure (ForInStep.yield ok) else pure (ForInStep.yield r)) Q E s := by
  cases h with
  | nil => exact wpAny_pure (q s G (.refl B R.wd R.sub))
  | one h =>
    rw [List.forIn_cons]
    refine wpAny_bind ?_
    rw [if_pos rfl]
    refine wpAny_bind (h.run env A s G _ E I Ro B R fun s1 G1 g1 => wpAny_pure (wpAny_pure (q s1 G1 g1)))

/-- what a comprehension catches of its frame -/
inductive Caps (F : Fd) (σ : List SV) : List Str → List SV → Prop
  | nil : Caps F σ [] []
  | cons (c : Nat) {nm k r names rs} : F.vars[c]? = some nm → F.kinds[c]? = some k → k ≠ .local → σ[c]? = some r → Caps F σ names rs → Caps F σ (nm :: names) (r :: rs)

noncomputable def compOk (scope : Scope) (x : Str) (kx : NameKind) (names : List Str) : Bool :=
  scope.kind == .function && decide (scope.names.map (·.1)).Nodup && scope.names.lookup x == some kx && (kx == .local || kx == .cell) && decide ((x, kx) ∈ scope.names) && names.all (fun nm => decide ((nm, NameKind.free) ∈ scope.names)) &&
  scope.names.all (fun p => (!(p.2 == .free) || names.contains p.1) && (!(p.2 == .cell) || p.1 == x) && (!(p.2 == .local) || scope.names.lookup p.1 == some .local))

theorem Caps.has {names : List Str} {rs : List SV} (c : Caps F σ names rs) {env : Env} {h : Heap} {G : GH} {m : Str → Option Value} (S : Slots env h G m F.kinds F.vars σ) : ∀ nm ∈ names, ∃ c, env.cells.lookup nm = some c := by
  induction c with
  | nil => intro _ h; cases h
  | cons c h1 h2 h3 h4 _ ih =>
    intro nm hm
    rcases List.mem_cons.mp hm with rfl | hm
    · have := S.at h2 h1 h4
      unfold Slot at this
      rw [if_neg h3] at this
      obtain ⟨c, _, hc, _⟩ := this
      exact ⟨c, hc⟩
    · exact ih nm hm
theorem Caps.slots {names : List Str} {rs : List SV} (c : Caps F σ names rs) {env env' : Env} {h h' : Heap} {G G' : GH} {m m' : Str → Option Value} (S : Slots env h G m F.kinds F.vars σ) (W : Wd h) (kp : Keep h h') (le : G.Le G')
    (hl : ∀ nm ∈ names, env'.cells.lookup nm = env.cells.lookup nm) : ∀ {ks : List NameKind}, ks.length = names.length → ks.all (· != .local) = true → Slots env' h' G' m' ks names rs := by
  induction c with
  | nil => intro ks hk _; cases ks with | nil => trivial | cons _ _ => simp at hk
  | cons c h1 h2 h3 h4 _ ih =>
    intro ks hk ha
    cases ks with
    | nil => simp at hk
    | cons k ks =>
      rw [List.all_cons, Bool.and_eq_true] at ha
      refine ⟨?_, ih (fun nm hm => hl nm (List.mem_cons_of_mem _ hm)) (by simpa using hk) ha.2⟩
      have := S.at h2 h1 h4
      unfold Slot at this ⊢
      rw [if_neg h3] at this
      rw [if_neg (by simpa using ha.1)]
      obtain ⟨c, v₀, a, b, d⟩ := this
      exact ⟨c, v₀, (hl _ List.mem_cons_self).trans a, IsCell.keep b W kp, d.imp id fun ⟨v, e, f⟩ => ⟨v, e, f.ext le⟩⟩

theorem newEnv_comp {M : Model} {A : Around} {E : Value → Shared → Prop} {s : Shared} {scope : Scope} {globals : Addr} {cl : List (Str × Addr)} {qual : Str} {env : Env} {Q : Env → Shared → Prop}
    (h : Q { scope, locals := s.heap.objs.size, globals, cells := cellsFrom (s.heap.objs.size + 1) scope.names cl, qual, func := none, code := env.code, frame := env.frame, builtins := env.builtins }
      { s with heap := pushCells (s.heap.push { cls := .type "dict", data := .dict #[] }) scope.names }) : wpAny M A (newFunctionEnv scope globals cl [] qual none .none (some env)) Q E s := by
  simp only [newFunctionEnv, Option.isSome_some, if_true]
  refine wpAny_bind (wpAny_alloc ?_)
  refine wpAny_bind (wpAny_layCells _ (fun name kind cells => by cases hkc : kind == NameKind.cell <;> simp [hkc]) _ _ _ _ ?_)
  rw [show ({ s with heap := s.heap.push { cls := .type "dict", data := .dict #[] } } : Shared).heap.objs.size = s.heap.objs.size + 1 from Heap.size_push ..]
  rw [List.forIn_nil]
  exact wpAny_bind (wpAny_pure (wpAny_pure h))
end
end
section
open PySem PySem.W PyProof.Rows PySem.Calls
set_option maxRecDepth 100000

theorem Grow.upd {s s' : Shared} {G G' : GH} (g : Grow s G s' G') {X : List Addr} (hX : ∀ b ∈ X, G' b = none ∧ s.heap.objs.size ≤ b ∧ 173 ≤ b) {h' : Heap} {t : Nat}
    (hk : ∀ b o, b ∉ X → s'.heap.get? b = some o → h'.get? b = some o) (hs : s.heap.objs.size ≤ h'.objs.size) (hs' : 173 ≤ h'.objs.size) (ht : s'.toks ≤ t := by omega) : Grow s G { s' with heap := h', toks := t } G' where
  os := g.os
  bare := g.bare.up ht
  keep := fun b o nb e => hk b o (fun q => Nat.lt_irrefl _ (Nat.lt_of_lt_of_le (Heap.lt_size e) (hX b q).2.1)) (g.keep b o nb e)
  wd := by
    have low : ∀ b, b < 173 → b ∉ X := fun b hb q => Nat.lt_irrefl _ (Nat.lt_of_lt_of_le hb (hX b q).2.2)
    exact ⟨hs', let ⟨vs, e, x⟩ := g.wd.tab; ⟨vs, hk _ _ (low _ (by decide)) e, x⟩, let ⟨g0, a, b⟩ := g.wd.base; ⟨g0, a, fun p o e => ⟨(b p o e).1, (b p o e).2.1, hk _ _ (low _ (b p o e).1) (b p o e).2.2⟩⟩⟩
  sub := fun b o e => hk b o (fun q => by rw [(hX b q).1] at e; cases e) (g.sub b o e)
  le := g.le
  new := g.new
  size := hs
  toks := Nat.le_trans g.toks ht

theorem pairs_eq {α β : Type} [BEq α] {l : List (α × β)} (nd : (l.map (·.1)).Nodup) {a : α} {b c : β} (h1 : (a, b) ∈ l) (h2 : (a, c) ∈ l) : b = c := by
  induction l with
  | nil => cases h1
  | cons q l ih =>
    simp only [List.map_cons, List.nodup_cons] at nd
    rcases List.mem_cons.mp h1 with e1 | e1 <;> rcases List.mem_cons.mp h2 with e2 | e2
    · rw [← e1] at e2; exact (Prod.mk.inj e2).2.symm
    · exact absurd (List.mem_map_of_mem (f := (·.1)) e2) (by rw [← e1] at nd; exact nd.1)
    · exact absurd (List.mem_map_of_mem (f := (·.1)) e1) (by rw [← e2] at nd; exact nd.1)
    · exact ih nd.2 e1 e2

section
variable {w : World} {n : Nat} {F : Fd} {σ : List SV}

theorem comp_core {F' : Fd} {elt iter : Expr} {x : Str} {px : Pos} {ifs : List Expr} {scope : Scope} {pos : Pos} {names : List Str} {rs : List SV} {kx : NameKind} {ks' : List NameKind} {xs : List PyData} {p : PyData → Bool} {f : PyData → PyData}
    {env : Env} {A : Around} {s : Shared} {G : GH} {E : Value → Shared → Prop} {RR : Value → Addr → Result → Shared → Prop}
    (I : EnvIs F env) (Ro : Room n A) (B : Bare s G) (R : Rel F σ env s.heap G) (hi : Ei w n F σ iter xs) (hsz : xs.length ≤ 1000000)
    (ck : compOk scope x kx names = true) (hF' : F' = ⟨relS scope F.sc, x :: names, kx :: ks', 0, none⟩) (ok' : F'.ok = true) (hk1 : ks'.length = names.length) (hk2 : ks'.all (· != .local) = true) (caps : Caps F σ names rs)
    (ht : ∀ d ∈ xs, Ifs w n F' (.d d :: rs) ifs (p d)) (he : ∀ d ∈ xs, p d = true → Ev w n F' (.d d :: rs) elt (.d (f d)))
    (hRR : ∀ D C s' G' m', Grow s G s' G' → Rd G' (.ref D) (.list ((xs.filter p).map f)) → s'.heap.Ns C m' → G' C = none → s.heap.objs.size ≤ C → RR (.ref D) C (.ok .next) s') :
    wpAny (model prog w) A (eval iter env) (fun xv s₁ => wpAny (model prog w) A (pyIter xv) (fun it s₂ => wpAny (model prog w) A (newList []) (fun acc s₃ =>
      wpAny (model prog w) A (newFunctionEnv scope env.globals (clos env.cells scope.names []) [] env.qual none .none (some env)) (fun cenv s₄ =>
        codeAny (model prog w) A (.compStart (.ListComp elt [⟨.Name x px, iter, ifs, 0⟩] scope pos) 0 it acc { cenv with scope := relabel scope env }) (RR acc cenv.locals) s₄) E s₃) E s₂) E s₁) E s := by
  simp only [compOk, Bool.and_eq_true, beq_iff_eq, decide_eq_true_eq, List.all_eq_true, Bool.or_eq_true, Bool.not_eq_true', beq_eq_false_iff_ne, List.contains_iff_mem] at ck
  obtain ⟨⟨⟨⟨⟨⟨ckf, cnd⟩, clx⟩, ckx⟩, cmx⟩, cfree⟩, cAll⟩ := ck
  obtain ⟨m₀, N₀, S₀⟩ := R.slots
  have hcap := caps.has S₀
  have hfreeIn : ∀ q ∈ scope.names, q.2 = .free → q.1 ∈ names := fun q hq hf => by
    rcases (cAll q hq).1.1 with z | z
    · exact absurd hf z
    · exact z
  have hcl : ∀ q ∈ scope.names, q.2 = .free → (env.cells.lookup q.1).isSome = true := fun q hq hf => by
    obtain ⟨c, hc⟩ := hcap _ (hfreeIn q hq hf)
    rw [hc]; rfl
  have hcellIn : ∀ nm ∈ names, ∀ c, env.cells.lookup nm = some c → c < s.heap.objs.size := by
    have : ∀ {names : List Str} {rs : List SV}, Caps F σ names rs → ∀ nm ∈ names, ∀ c, env.cells.lookup nm = some c → c < s.heap.objs.size := by
      intro names rs c
      induction c with
      | nil => intro _ h; cases h
      | cons c h1 h2 h3 h4 _ ih =>
        intro nm hm c' hc'
        rcases List.mem_cons.mp hm with rfl | hm
        · have := S₀.at h2 h1 h4
          unfold Slot at this
          rw [if_neg h3] at this
          obtain ⟨c, _, hc, hic, _⟩ := this
          rw [hc] at hc'; cases hc'
          exact hic.lt
        · exact ih nm hm c' hc'
    exact this caps
  have hclos : ∀ q ∈ clos env.cells scope.names [], q ∈ env.cells ∧ q.2 < s.heap.objs.size := fun q hq => by
    rcases clos_mem hcl hq with z | ⟨z1, z2⟩
    · cases z
    · exact ⟨mem_of_lookup z1, hcellIn _ (hfreeIn _ z2 rfl) _ z1⟩
  refine hi.run env A s G _ E I Ro B R fun It fp wr P St s2 G2 g2 W st hfp hwr hP _ => ?_
  refine wpAny_newObj_type (newEnv_comp ?_)
  dsimp only
  generalize hD : s2.heap.objs.size = D
  generalize hH3 : (s2.heap.push { cls := .type "list", dict := none, data := .seq ([] : List Value).toArray }) = H3
  have h3z : H3.objs.size = D + 1 := by rw [← hH3, Heap.size_push, hD]
  rw [h3z]
  generalize hH4 : H3.push { cls := .type "dict", dict := none, data := .dict #[] } = H4
  have h4z : H4.objs.size = D + 1 + 1 := by rw [← hH4, Heap.size_push, h3z]
  rw [show D + 1 + 1 = H4.objs.size from h4z.symm]
  generalize hH5 : pushCells H4 scope.names = H5
  have up : ∀ b o, s2.heap.get? b = some o → H5.get? b = some o := fun b o e => hH5 ▸ pushCells_keeps _ _ _ _ (hH4 ▸ Heap.get?_push_of_some _ (hH3 ▸ Heap.get?_push_of_some _ e))
  have hDat : H5.get? D = some { cls := .type "list", dict := none, data := .seq #[] } := hH5 ▸ pushCells_keeps _ _ _ _ (hH4 ▸ Heap.get?_push_of_some _ (by rw [← hH3, ← hD]; exact Heap.get?_push_size _ rfl))
  have hNs5 : H5.Ns (D + 1) fun _ => none := (hH4 ▸ h3z ▸ Heap.Ns.new H3 (.type "dict")).keeps (hH5 ▸ pushCells_keeps _ _)
  have h5z : D + 1 < H5.objs.size := hNs5.lt
  have hsD : s.heap.objs.size ≤ D := hD ▸ g2.size
  have hD5 : s2.heap.objs.size ≤ H5.objs.size := by rw [hD]; exact Nat.le_of_lt (Nat.lt_of_succ_lt h5z)
  have low : 173 ≤ s.heap.objs.size := R.wd.size
  have lowD : 173 ≤ D := Nat.le_trans low hsD
  have g5 : Grow s G { s2 with heap := H5 } G2 := g2.trans ⟨rfl, g2.bare.up (Nat.le_refl _), .of up, g2.wd.keeps up hD5, fun b o e => up b o (g2.sub b o e), .refl _, fun _ _ e => .inl e, hD5, Nat.le_refl _⟩
  generalize henv : ({ scope := relabel scope env, locals := D + 1, globals := env.globals, cells := cellsFrom H4.objs.size scope.names (clos env.cells scope.names []), qual := env.qual, func := none, code := env.code, frame := env.frame, builtins := env.builtins } : Env) = env'
  have eL : env'.locals = D + 1 := by rw [← henv]
  have eC : env'.cells = cellsFrom H4.objs.size scope.names (clos env.cells scope.names []) := by rw [← henv]
  have hs4 : s.heap.objs.size ≤ H4.objs.size := by omega
  have I' : EnvIs F' env' := by
    subst hF'
    refine ⟨ok', by rw [← henv]; exact relabel_eq I, by rw [← henv]; exact ckf, by rw [← henv]; exact I.gl, by rw [← henv]; exact I.bl, by rw [eL]; exact Nat.le_succ_of_le lowD, ?_, fun q hq => ?_, fun a e => nomatch e⟩
    · rw [eC]
      exact cellsFrom_apart (clos_apart I.apart cnd hcl (fun _ h => nomatch h) .nil) fun q hq => Nat.lt_of_lt_of_le (hclos q hq).2 hs4
    · rw [eC] at hq
      rcases cellsFrom_mem hq with z | z
      · exact I.lowC _ (hclos q z).1
      · exact Nat.le_trans (by rw [h4z]; omega) z.1
  have hkx : env'.kindOf x = some kx := by
    rw [I'.kind, hF']
    have := (Fd.ok_at ok' (i := 0) (x := x) (k := kx) (by rw [hF']; rfl) (by rw [hF']; rfl)).1
    rw [hF'] at this; exact this
  have hlook : ∀ nm ∈ names, env'.cells.lookup nm = env.cells.lookup nm := fun nm hm => by
    rw [eC, cellsFrom_other ?_, clos_lookup (by obtain ⟨c, hc⟩ := hcap nm hm; rw [hc]; rfl) (.inl (cfree nm hm))]
    intro hc
    cases pairs_eq cnd hc (cfree nm hm)
  have hown : kx = .cell → ∃ c, env'.cells.lookup x = some c ∧ D + 1 < c ∧ H5.IsCell c none := fun q => by
    subst q
    obtain ⟨c, a, b, d⟩ := cellsFrom_own (h := H4) (acc := clos env.cells scope.names []) cnd cmx
    exact ⟨c, by rw [eC]; exact a, by rw [h4z] at b; omega, hH5 ▸ d⟩
  have hwrD : ∀ b ∈ wr, b < D := fun b hb => hD ▸ (hfp b (W.sub b hb)).1
  have hfpD : ∀ b ∈ fp, b < D := fun b hb => hD ▸ (hfp b hb).1
  have hD2 : G2 D = none := g2.sub.none (Nat.le_of_eq hD)
  have hD12 : G2 (D + 1) = none := g2.sub.none (by rw [hD]; exact Nat.le_succ _)
  let J : Nat → Shared → Prop := fun k sx => ∃ i G' m' ys, k = xs.length + 1 - i ∧ i ≤ xs.length ∧ Grow s G sx G' ∧ G2.Le G' ∧ St i sx.heap ∧ sx.heap.PlainList D ys ∧ RdA G' ys.toList (((xs.take i).filter p).map f) ∧ sx.heap.Ns (D + 1) m' ∧
    G' D = none ∧ G' (D + 1) = none ∧ (∀ b ∈ wr, G' b = none) ∧ (kx = .cell → ∃ c v, env'.cells.lookup x = some c ∧ D + 1 < c ∧ sx.heap.IsCell c v ∧ G' c = none)
  have loop : ∀ s₃ : Shared, s₃ = { s2 with heap := H5 } → codeAny (model prog w) A (.compLoop (.ListComp elt [⟨.Name x px, iter, ifs, 0⟩] scope pos) 0 (.ref It) (.ref D) env') (RR (.ref D) (D + 1)) s₃ := by
    rintro s₃ rfl
    refine codeAny_compLoop_tests J ?_ (xs.length + 1) ⟨0, G2, _, #[], rfl, Nat.zero_le _, g5, .refl _, W.frame _ _ _ st fun b _ o e => up b o e, ⟨_, hDat⟩, .nil, hNs5, hD2, hD12, fun b hb => (hwr b hb).1, fun q => ?_⟩
    rotate_left
    · obtain ⟨c, a, b, d⟩ := hown q
      refine ⟨c, _, a, b, d, g2.sub.none ?_⟩
      rw [hD]; exact Nat.le_of_lt (Nat.lt_of_succ_lt b)
    rintro k sx ⟨i, G', m', ys, rfl, hi, gx, le, sti, pl, rys, nx, gD, gL, gW, cel⟩
    by_cases hlt : i < xs.length
    · refine wpAny_toks (W.item i sx _ _ hlt sti fun v h1 tk1 hPv st1 k1 hle => ?_)
      have hle : sx.toks ≤ tk1 := hle
      obtain ⟨d, hd, rd⟩ := hP i v hPv
      have hdm : d ∈ xs := List.mem_of_getElem? hd
      have hnw : ∀ b, D ≤ b → b ∉ wr := fun b hb q => Nat.lt_irrefl _ (Nat.lt_of_lt_of_le (hwrD b q) hb)
      have n1 : h1.Ns (D + 1) m' := nx.at' fun o e => k1 _ o (hnw _ (Nat.le_succ _)) e
      have g1 : Grow s G { sx with heap := h1, toks := tk1 } G' := gx.upd (X := wr) (fun b hb => ⟨gW b hb, (hwr b hb).2, Nat.le_trans low (hwr b hb).2⟩) (fun b o nb e => k1 b o nb e) (Nat.le_of_lt (Nat.lt_trans (Nat.lt_of_le_of_lt hsD (Nat.lt_succ_self D)) n1.lt)) (Nat.le_of_lt (Nat.lt_trans (Nat.lt_of_le_of_lt lowD (Nat.lt_succ_self D)) n1.lt))
      have pl1 : h1.PlainList D ys := pl.at fun o e => k1 _ o (hnw _ (Nat.le_refl _)) e
      have cel1 : kx = .cell → ∃ c v, env'.cells.lookup x = some c ∧ D + 1 < c ∧ h1.IsCell c v ∧ G' c = none := fun q => by
        obtain ⟨c, v, a, b, ⟨o, e, dd⟩, z⟩ := cel q
        exact ⟨c, v, a, b, ⟨o, k1 _ o (hnw _ (Nat.le_of_lt (Nat.lt_of_succ_lt b))) e, dd⟩, z⟩
      have after : ∀ h2 tk2 m2, Grow s G { sx with heap := h2, toks := tk2 } G' → St (i + 1) h2 → h2.PlainList D ys → h2.Ns (D + 1) m2 → Slot env' h2 G' m2 kx x (.d d) → (kx = .cell → ∃ c v, env'.cells.lookup x = some c ∧ D + 1 < c ∧ h2.IsCell c v ∧ G' c = none) →
          wpAny (model prog w) A (forIn ifs true fun c r => if r = true then do let ok ← isTrue c env' (eval c env'); pure (ForInStep.yield ok) else pure (ForInStep.yield r)) (fun ok s₃ =>
            if ok = true then wpAny (model prog w) A (eval elt env') (fun y s₄ =>
              wpAny (model prog w) A (call (.builtin "list.append") [.ref D, y]) (fun _ s₅ => ∃ m, m < xs.length + 1 - i ∧ J m s₅) (notedBy (model prog w) A env' fun e s' => RR (.ref D) (D + 1) (.error e) s') s₄) (notedBy (model prog w) A env' fun e s' => RR (.ref D) (D + 1) (.error e) s') s₃
            else ∃ m, m < xs.length + 1 - i ∧ J m s₃) (notedBy (model prog w) A env' fun e s' => RR (.ref D) (D + 1) (.error e) s') { sx with heap := h2, toks := tk2 } := by
        intro h2 tk2 m2 gg st2 pl2 n2 sl2 cel2
        have R2 : Rel F' (.d d :: rs) env' h2 G' := ⟨gg.wd, gg.sub, m2, by rw [eL]; exact n2, by subst hF'; exact ⟨sl2, caps.slots S₀ R.wd gg.keep gg.le hlook hk1 hk2⟩⟩
        have step : ∀ {sy Gy}, Grow { sx with heap := h2, toks := tk2 } G' sy Gy → St (i + 1) sy.heap ∧ sy.heap.PlainList D ys ∧ sy.heap.Ns (D + 1) m2 ∧ Gy D = none ∧ Gy (D + 1) = none ∧ (∀ b ∈ wr, Gy b = none) ∧ (kx = .cell → ∃ c v, env'.cells.lookup x = some c ∧ D + 1 < c ∧ sy.heap.IsCell c v ∧ Gy c = none) := by
          intro sy Gy g
          have hDl : D < h2.objs.size := Nat.lt_trans (Nat.lt_succ_self D) n2.lt
          refine ⟨W.frame _ _ _ st2 fun b hb o e => g.keep b o (hfp b hb).2.1 e, pl2.at fun o e => g.keep _ o (Nat.ne_of_gt (Nat.lt_of_lt_of_le (by decide) lowD)) e, Ns.keep n2 gg.wd g.keep, g.stay gD hDl, g.stay gL n2.lt, fun b hb => g.stay (gW b hb) (Nat.lt_trans (hwrD b hb) hDl), fun q => ?_⟩
          obtain ⟨c, v, a, b, ic, z⟩ := cel2 q
          exact ⟨c, v, a, b, IsCell.keep ic gg.wd g.keep, g.stay z ic.lt⟩
        refine (ht d hdm).run I' Ro gg.bare R2 fun s3 G3 g3 => ?_
        have htk : xs.take (i + 1) = xs.take i ++ [d] := by rw [List.take_add_one, hd]; rfl
        by_cases hp : p d = true
        · rw [if_pos hp]
          refine (he d hdm hp).run env' A s3 G3 _ _ I' Ro g3.bare (R2.grow g3) fun y s4 G4 g4 ry => ?_
          obtain ⟨z1, z2, z3, z4, z5, z6, z7⟩ := step (g3.trans g4)
          have hlen : ys.size ≤ sizeLine := by
            have e1 := rys.length
            have e2 : ((xs.take i).filter p).length ≤ (xs.take i).length := List.length_filter_le _ _
            have e3 : (xs.take i).length ≤ xs.length := by rw [List.length_take]; omega
            simp only [List.length_map, Array.length_toList] at e1
            rw [sizeLine_eq]; omega
          refine wpAny_list_append_plain (hsz := hlen) z2 fun h5 pl5 sb5 => ?_
          refine ⟨xs.length + 1 - (i + 1), by omega, i + 1, G4, m2, ys.push y, rfl, hlt, (gg.trans (g3.trans g4)).but hsD z4 lowD (t := s4.toks) sb5, le.trans (g3.le.trans g4.le), W.frame _ _ _ z1 fun b hb o e => sb5.extBut b o (Nat.ne_of_lt (hfpD b hb)) e, pl5, ?_, z3.sameBut sb5 (Nat.succ_ne_self D), z4, z5, z6, fun q => ?_⟩
          · rw [htk, List.filter_append, List.map_append, Array.toList_push, List.filter_cons_of_pos hp]
            exact (rys.ext (g3.le.trans g4.le)).snoc ry
          · obtain ⟨c, v, a, b, ic, z⟩ := z7 q
            exact ⟨c, v, a, b, ic.sameBut sb5 (Nat.ne_of_gt (Nat.lt_of_succ_lt b)), z⟩
        · rw [if_neg hp]
          obtain ⟨z1, z2, z3, z4, z5, z6, z7⟩ := step g3
          refine ⟨xs.length + 1 - (i + 1), by omega, i + 1, G3, m2, ys, rfl, hlt, gg.trans g3, le.trans g3.le, z1, z2, ?_, z3, z4, z5, z6, z7⟩
          rw [htk, List.filter_append, List.filter_cons_of_neg hp, List.filter_nil, List.append_nil]
          exact rys.ext g3.le
      refine wpAny_assign_Name ?_
      rcases ckx with q | q
      · subst q
        refine wpAny_storeName_local hkx (by rw [eL]; exact n1) (fun h2 n2 sb2 => ?_) (by rw [I'.fn]; rfl)
        rw [eL] at n2 sb2
        refine after h2 _ _ (g1.but (Nat.le_succ_of_le hsD) gL (Nat.le_succ_of_le lowD) sb2) (W.frame _ _ _ st1 fun b hb o e => sb2.extBut b o (Nat.ne_of_lt (Nat.lt_succ_of_lt (hfpD b hb))) e) (pl1.extBut sb2.extBut (Nat.ne_of_lt (Nat.lt_succ_self D))) n2 ?_ (fun q => nomatch q)
        unfold Slot
        rw [if_pos rfl]
        exact .inr ⟨v, by simp, rd.ext le⟩
      · subst q
        obtain ⟨c, v0, a, b, ic, z⟩ := cel1 rfl
        refine wpAny_storeName_cell I'.fn hkx a ic fun h2 ic2 sb2 => ?_
        have hDc : D < c := Nat.lt_of_succ_lt b
        refine after h2 _ _ (g1.but (Nat.le_trans hsD (Nat.le_of_lt hDc)) z (Nat.le_trans lowD (Nat.le_of_lt hDc)) sb2) (W.frame _ _ _ st1 fun b' hb o e => sb2.extBut b' o (Nat.ne_of_lt (Nat.lt_trans (hfpD b' hb) hDc)) e) (pl1.extBut sb2.extBut (Nat.ne_of_lt hDc)) (n1.sameBut sb2 (Nat.ne_of_lt b)) ?_ (fun _ => ⟨c, _, a, b, ic2, z⟩)
        unfold Slot
        rw [if_neg (by simp)]
        exact ⟨c, _, a, ic2, .inr ⟨v, rfl, rd.ext le⟩⟩
    · have hin : i = xs.length := by omega
      subst hin
      refine wpAny_toks (W.done sx _ _ sti fun h1 tk1 k1 hle => ?_)
      have hle : sx.toks ≤ tk1 := hle
      have hnw : ∀ b, D ≤ b → b ∉ wr := fun b hb q => Nat.lt_irrefl _ (Nat.lt_of_lt_of_le (hwrD b q) hb)
      have n1 : h1.Ns (D + 1) m' := nx.at' fun o e => k1 _ o (hnw _ (Nat.le_succ _)) e
      obtain ⟨nn, pl1⟩ : h1.PlainList D ys := pl.at fun o e => k1 _ o (hnw _ (Nat.le_refl _)) e
      have g1 : Grow s G { sx with heap := h1, toks := tk1 } G' := gx.upd (X := wr) (fun b hb => ⟨gW b hb, (hwr b hb).2, Nat.le_trans low (hwr b hb).2⟩) (fun b o nb e => k1 b o nb e) (Nat.le_of_lt (Nat.lt_trans (Nat.lt_of_le_of_lt hsD (Nat.lt_succ_self D)) n1.lt)) (Nat.le_of_lt (Nat.lt_trans (Nat.lt_of_le_of_lt lowD (Nat.lt_succ_self D)) n1.lt))
      refine hRR D (D + 1) _ (G'.put D { cls := .type "list", data := .seq ys nn }) m' ?_ ?_ n1 ?_ (Nat.le_succ_of_le hsD)
      · refine ⟨g1.os, g1.bare.put (Nat.ne_of_gt (Nat.lt_of_lt_of_le (by decide) lowD)), g1.keep, g1.wd, fun b o e => ?_, g1.le.trans (GH.put_le gD), fun b o e => ?_, g1.size, g1.toks⟩
        · unfold GH.put at e
          by_cases q : b = D
          · rw [if_pos q] at e; cases e; subst q; exact pl1
          · rw [if_neg q] at e; exact g1.sub b o e
        · unfold GH.put at e
          by_cases q : b = D
          · exact .inr (q ▸ hsD)
          · rw [if_neg q] at e; exact g1.new b o e
      · rw [List.take_length] at rys
        exact .list GH.put_self rfl rfl rfl (rys.ext (GH.put_le gD))
      · unfold GH.put; rw [if_neg (Nat.succ_ne_self D)]; exact gL
  exact codeAny_compStart_list (loop _ rfl) (W.self 0 _ _ _ (W.frame _ _ _ st fun b _ o e => up b o e) (loop _ rfl))
end
end
section
open PySem PySem.W PyProof.Rows PySem.Calls
set_option maxRecDepth 100000

section
variable {w : World} {n : Nat} {F : Fd} {σ : List SV} {μ : Mu} {Φ : Out → Prop}

theorem Slots.but {env : Env} {h h' : Heap} {G : GH} {m : Str → Option Value} {C : Addr} (hs : Heap.SameBut C h h') (hc : ∀ p ∈ env.cells, p.2 ≠ C) : ∀ {ks : List NameKind} {xs : List Str} {rs : List SV}, Slots env h G m ks xs rs → Slots env h' G m ks xs rs
  | [], [], [], _ => trivial
  | k :: ks, y :: xs, r :: rs, ⟨a, b⟩ => by
    refine ⟨?_, Slots.but hs hc b⟩
    unfold Slot at a ⊢
    by_cases q : k = .local
    · rw [if_pos q] at a ⊢; exact a
    · rw [if_neg q] at a ⊢
      obtain ⟨c', v₀', e, f, g⟩ := a
      exact ⟨c', v₀', e, f.sameBut hs (hc _ (mem_of_lookup e)), g⟩
  | [], [], _ :: _, z => z.elim
  | [], _ :: _, _, z => by cases z
  | _ :: _, [], _, z => by cases z
  | _ :: _, _ :: _, [], z => z.elim

/-- an address that no part of a frame's state holds -/
structure Off (s₀ : Shared) (env : Env) (G : GH) (μ : Mu) (C : Addr) : Prop where
  new : s₀.heap.objs.size ≤ C
  low : 173 ≤ C
  no : G C = Option.none
  neL : env.locals ≠ C
  neC : ∀ p ∈ env.cells, p.2 ≠ C
  neM : C ∉ μ.ad
theorem St.off {s₀ : Shared} {G₀ : GH} {env : Env} {s : Shared} {G : GH} (T : St s₀ G₀ F σ env s G) (O : Own s₀ env s.heap G μ) {C : Addr} (hC : s.heap.objs.size ≤ C) {G' : GH} (hG : G' C = Option.none) : Off s₀ env G' μ C := by
  obtain ⟨m, N, _⟩ := T.rel.slots
  refine ⟨Nat.le_trans T.grow.size hC, Nat.le_trans T.rel.wd.size hC, hG, Nat.ne_of_lt (Nat.lt_of_lt_of_le N.lt hC), fun p hp => Nat.ne_of_lt (Nat.lt_of_lt_of_le (T.ltC hp) hC), fun q => ?_⟩
  obtain ⟨p, hp, e⟩ := List.mem_map.mp q
  obtain ⟨ys, d, _⟩ := (O.at_ p hp).pl
  have := PlainList_lt d
  rw [e] at this
  exact Nat.lt_irrefl _ (Nat.lt_of_lt_of_le this hC)
theorem St.but {s₀ : Shared} {G₀ : GH} {env : Env} {s : Shared} {G : GH} (T : St s₀ G₀ F σ env s G) (O : Own s₀ env s.heap G μ) {C : Addr} (X : Off s₀ env G μ C) {h' : Heap} (hs : Heap.SameBut C s.heap h') :
    St s₀ G₀ F σ env { s with heap := h' } G ∧ Own s₀ env h' G μ := by
  obtain ⟨m, N, S⟩ := T.rel.slots
  have g := T.grow.but X.new X.no X.low (t := s.toks) hs
  refine ⟨⟨g, ⟨g.wd, g.sub, m, N.sameBut hs X.neL, Slots.but hs X.neC S⟩, T.fl, T.pL, fun p hp => ⟨(T.pC p hp).1, (T.pC p hp).2.1, let ⟨_, _, o, e⟩ := T.pC p hp; ⟨o, (hs.2 _ (X.neC p hp)).trans e⟩⟩⟩, ⟨O.nd, fun p hp => ?_⟩⟩
  obtain ⟨a, b, c, ⟨ys, d, e⟩, f, f'⟩ := O.at_ p hp
  exact ⟨a, b, c, ⟨ys, d.extBut hs.extBut (fun q => X.neM (by have := List.mem_map_of_mem (f := (·.1)) hp; rw [q] at this; exact this)), e⟩, f, f'⟩

/-- what a list comprehension asks -/
structure Lc (w : World) (n : Nat) (F : Fd) (σ : List SV) (elt iter : Expr) (x : Str) (ifs : List Expr) (scope : Scope) (out : List PyData) : Prop where
  ex : ∃ (F' : Fd) (names : List Str) (rs : List SV) (kx : NameKind) (ks' : List NameKind) (xs : List PyData) (p : PyData → Bool) (f : PyData → PyData),
    Ei w n F σ iter xs ∧ xs.length ≤ 1000000 ∧ compOk scope x kx names = true ∧ F' = ⟨relS scope F.sc, x :: names, kx :: ks', 0, none⟩ ∧ F'.ok = true ∧ ks'.length = names.length ∧ ks'.all (· != .local) = true ∧ Caps F σ names rs ∧
    (∀ d ∈ xs, Ifs w n F' (.d d :: rs) ifs (p d)) ∧ (∀ d ∈ xs, p d = true → Ev w n F' (.d d :: rs) elt (.d (f d))) ∧ out = (xs.filter p).map f
theorem Lc.run {elt iter : Expr} {x : Str} {px : Pos} {ifs : List Expr} {scope : Scope} {pos : Pos} {out : List PyData} {env : Env} {A : Around} {s : Shared} {G : GH} {E : Value → Shared → Prop} {use : Option (Value → Sem Unit)} {Q : Value → Shared → Prop}
    (h : Lc w n F σ elt iter x ifs scope out) (I : EnvIs F env) (Ro : Room n A) (B : Bare s G) (R : Rel F σ env s.heap G)
    (hRR : ∀ D C s' G' m', Grow s G s' G' → Rd G' (.ref D) (.list out) → s'.heap.Ns C m' → G' C = none → s.heap.objs.size ≤ C → compPost (model prog w) A E use Q (.ref D) C (.ok .next) s')
    (hs : ∀ x, foldedSetIterable iter env x = pure x := by intro _; rfl) :
    wpAny (model prog w) A (comprehension (.ListComp elt [⟨.Name x px, iter, ifs, 0⟩] scope pos) scope env (firstIterPos [⟨.Name x px, iter, ifs, 0⟩] pos) (newList []) false (eval iter env) use) Q E s := by
  obtain ⟨F', names, rs, kx, ks', xs, p, f, hi, hsz, ck, hF', ok', hk1, hk2, caps, ht, he, rfl⟩ := h.ex
  have ck' := ck
  simp only [compOk, Bool.and_eq_true, beq_iff_eq, decide_eq_true_eq, List.all_eq_true, Bool.or_eq_true, Bool.not_eq_true', beq_eq_false_iff_ne, List.contains_iff_mem] at ck'
  obtain ⟨⟨⟨⟨⟨⟨ckf, cnd⟩, clx⟩, ckx⟩, cmx⟩, cfree⟩, cAll⟩ := ck'
  obtain ⟨m₀, N₀, S₀⟩ := R.slots
  have hclos : closureFor scope env = pure (clos env.cells scope.names []) := closureFor_eq fun q hq hf => by
    rcases (cAll q hq).1.1 with z | z
    · exact absurd hf z
    · obtain ⟨c, hc⟩ := caps.has S₀ _ z
      rw [hc]; rfl
  refine wpAny_comprehension_free (g := ⟨.Name x px, iter, ifs, 0⟩) (gs := []) rfl hs hclos ckf (fun q hq hl => ?_) ?_
  · rcases (cAll q hq).2 with z | z
    · exact absurd hl z
    · exact z
  · exact comp_core (RR := fun acc C => compPost (model prog w) A E use Q acc C) I Ro B R hi hsz ck hF' ok' hk1 hk2 caps ht he hRR
theorem Ev.comp {elt iter : Expr} {x : Str} {px : Pos} {ifs : List Expr} {scope : Scope} {pos : Pos} {out : List PyData} (h : Lc w n F σ elt iter x ifs scope out) (hs : ∀ env x, foldedSetIterable iter env x = pure x := by intro _ _; rfl) :
    Ev w n F σ (.ListComp elt [⟨.Name x px, iter, ifs, 0⟩] scope pos) (.d (.list out)) := .mk fun env A s G Q E I Ro B R q => by
  rw [eval_ListComp]
  refine Lc.run (use := Option.none) h I Ro B R (fun D C s' G' m' g r nC hC hsC => ?_) (hs env)
  exact ⟨m', nC, fun h' hb => q _ _ G' (g.but hsC hC (Nat.le_trans R.wd.size hsC) (t := s'.toks) hb) r⟩
/-- the target takes the list before the comprehension's names go -/
theorem X1.assignComp {elt iter : Expr} {x y : Str} {px py : Pos} {ifs : List Expr} {scope : Scope} {pos spos : Pos} {out : List PyData} {i : Nat} (h : Lc w n F σ elt iter x ifs scope out)
    (hx : ixOf y F.vars = some i) (hk : storable y F.vars F.kinds = true) (hΦ : Φ (.next (σ.set i (.d (.list out))) μ))
    (hsw : ∀ env : Env, EnvIs F env → swapsWith (.ListComp elt [⟨.Name x px, iter, ifs, 0⟩] scope pos) (some (.Name y py)) spos.line env = pure true) (hs : ∀ env x, foldedSetIterable iter env x = pure x := by intro _ _; rfl) :
    X1 w n F σ μ (.Assign [.Name y py] (.ListComp elt [⟨.Name x px, iter, ifs, 0⟩] scope pos) spos) Φ := .mk fun s₀ G₀ env A s G Q E I Fr Ro T O q => by
  rw [exec_Assign_Name_used _ _ _ _ (hsw env I)]
  refine wpAny_bind (wpAny_standAt (wpAny_bind ?_))
  show wpAny _ A (do let _ ← comprehension (.ListComp elt [⟨.Name x px, iter, ifs, 0⟩] scope pos) scope env _ (PySem.newList []) false (eval iter env) (some (PySem.assign (.Name y py) env))) _ _ s
  refine wpAny_bind (wpAny_mono (Lc.run (use := some (PySem.assign (.Name y py) env)) (Q := fun _ s' => Q .next s') h I Ro T.grow.bare T.rel (fun D C s' G' m' g r nC hC hsC => ?_) (hs env))
    (fun _ s' hq => wpAny_pure (wpAny_pure hq)) fun _ _ e => e)
  show wpAny _ A (PySem.assign (.Name y py) env (.ref D)) _ _ _
  have X : Off s₀ env G' μ C := T.off O hsC hC
  refine wpAny_assign_Name ((T.step g).storeN I Fr (O.grow g) hx hk (r := .d (.list out)) r fun s2 T2 O2 f2 => ?_)
  have nC2 : s2.heap.Ns C m' := nC.at' fun o e => (f2 []).keep C o (Nat.ne_of_gt (Nat.lt_of_lt_of_le (by decide) X.low)) (Ne.symm X.neL) (fun p hp => Ne.symm (X.neC p hp)) (fun z => nomatch z) e
  refine ⟨m', nC2, fun h' hb => ?_⟩
  obtain ⟨T3, O3⟩ := T2.but O2 X hb
  have ff := (Frm.grow (env := env) (μ := μ.ad) g).trans (f2 _)
  refine q (.next (σ.set i (.d (.list out))) μ) .next _ hΦ ⟨rfl, G', T3, O3, ⟨fun b o h1 h2 h3 h4 e => (hb.2 b fun z => ?_).trans (ff.keep b o h1 h2 h3 h4 e), ff.le, ff.mu, fun b e => ?_, ff.gn⟩⟩
  rotate_left
  · by_cases z : b = C
    · exact get_none (z ▸ hsC)
    · exact ff.live b ((hb.2 b z).symm.trans e)
  subst z
  exact Nat.lt_irrefl _ (Nat.lt_of_lt_of_le (Heap.lt_size e) hsC)
end
end
section
open PySem PySem.W PyProof.Rows PySem.Calls
set_option maxRecDepth 100000

section
variable {w : World} {n : Nat} {F : Fd} {σ : List SV} {μ : Mu} {Φ : Out → Prop}

theorem EnvIs.inter {env : Env} (I : EnvIs F env) : interactive env = false := by
  unfold interactive
  rw [I.fn]; rfl

/-- a type that a value is known to have, with no dict of its own -/
noncomputable def TyIs (r : SV) (T : String) : Prop := ∀ (s : Shared) (G : GH) (v : Value), G.In s.heap → Rv G r v → s.TypeIs v T ∧ ∀ a, v = .ref a → ∃ ob, s.heap.get? a = some ob ∧ ob.dict = Option.none
theorem TyIs.str {x : Str} : TyIs (.str x) "str" := fun s G v k r => by
  obtain ⟨t, rfl⟩ := Rd.str_inv r
  exact ⟨typeIs_str s x t, fun _ e => nomatch e⟩
theorem TyIs.list {x : List PyData} : TyIs (.list x) "list" := fun s G v k r => by
  cases r with | list e c n d q => exact ⟨⟨_, k _ _ e, c⟩, fun a q => by cases q; exact ⟨_, k _ _ e, n⟩⟩

theorem backTo_few {pos : Pos} {env : Env} : ∀ {args : List Expr}, args.all notStar = true → (backTo pos (starEach args env)).all (fun x => !x.1) = true
  | [], _ => rfl
  | e :: es, h => by
    obtain ⟨a, b⟩ := Bool.and_eq_true_iff.mp h
    rw [starEach_cons a]
    show (true && (backTo pos (starEach es env)).all _) = true
    rw [backTo_few b]; rfl

theorem Ev.meth {o e : Expr} {es : List Expr} {name : Str} {apos pos : Pos} {T id : String} {ro r : SV} {rs : List SV} (pa : PlainAttrs T) (slot : PySem.Slot T name id) (hty : typeOf (.builtin id) = pure (.type "method_descriptor"))
    (h1 : Ev w n F σ o ro) (ty : TyIs ro T) (h2 : Es w n F σ (e :: es) rs) (h3 : Cs w n (.builtin id) (ro :: rs) r)
    (hbase : ∀ env, attributeBase o name env (eval o env) = eval o env := by intro _; rfl) (hline : (apos.endLine == pos.line) = true := by rfl) (h0 : ((e :: es).all notStar) = true := by rfl) (hlen : decide ((e :: es).length + 0 + 0 < 30) = true := by rfl) :
    Ev w n F σ (.Call (.Attribute o name apos) (e :: es) [] pos) r := .mk fun env A s G Q E I Ro B R q => by
  refine wpAny_Call_method (hbase env) ?_ hline pa slot hty ?_
  · rw [backTo_few h0]; exact hlen
  · refine h1.run env A s G _ E I Ro B R fun v s1 G1 g1 r1 => ?_
    obtain ⟨hT, hd⟩ := ty s1 G1 v g1.sub r1
    refine ⟨hT, hd, callWith_of_args (.inl ⟨_, rfl⟩) (starEach_any h0) (evalArgs_es h0 (h2.run env A s1 G1 pos _ E I Ro g1.bare (R.grow g1) fun vs s2 G2 g2 r2 => ⟨g2.wd, ?_⟩))⟩
    exact h3.run A s2 G2 (v :: vs) Q E Ro g2.bare g2.wd g2.sub ⟨r1.ext g2.le, r2⟩ fun v s3 G3 g3 r3 => q v s3 G3 (g1.trans (g2.trans g3)) r3

theorem ad_set {a : Addr} {rs rs' : List SV} : ∀ {μ : Mu} {j : Nat}, μ[j]? = some (a, rs) → Mu.ad (μ.set j (a, rs')) = μ.ad
  | [], j, h => by simp at h
  | p :: μ, 0, h => by cases h; rfl
  | p :: μ, j + 1, h => by
    show p.1 :: Mu.ad (μ.set j (a, rs')) = p.1 :: Mu.ad μ
    rw [ad_set (by simpa using h)]

/-- an own list changes -/
theorem St.mut {s₀ : Shared} {G₀ : GH} {env : Env} {s : Shared} {G : GH} {j : Nat} {a : Addr} {rs rs' : List SV} {ys' : Array Value} (T : St s₀ G₀ F σ env s G) (O : Own s₀ env s.heap G μ) (hj : μ[j]? = some (a, rs)) {h' : Heap} (hs : Heap.SameBut a s.heap h')
    (hp : h'.PlainList a ys') (hr : RvA G rs' ys'.toList) (t : Nat) (ht : s.toks ≤ t := by omega) : St s₀ G₀ F σ env { s with heap := h', toks := t } G ∧ Own s₀ env h' G (μ.set j (a, rs')) ∧ Frm env μ.ad s G (Mu.ad (μ.set j (a, rs'))) { s with heap := h', toks := t } G := by
  obtain ⟨m, N, S⟩ := T.rel.slots
  have hm : (a, rs) ∈ μ := List.mem_of_getElem? hj
  have X := O.at_ _ hm
  have g := T.grow.but X.new X.no X.low (t := t) hs
  refine ⟨⟨g, ⟨g.wd, g.sub, m, N.sameBut hs X.neL, Slots.but hs X.neC S⟩, T.fl, T.pL, fun p hp => ⟨(T.pC p hp).1, (T.pC p hp).2.1, let ⟨_, _, o, e⟩ := T.pC p hp; ⟨o, (hs.2 _ (X.neC p hp)).trans e⟩⟩⟩, ⟨?_, fun p hpp => ?_⟩, ⟨fun b o _ _ _ h4 e => (hs.2 b fun q => h4 ?_).trans e, .refl _, fun x hx => .inl ?_, SameBut_live hs (let ⟨_, e⟩ := hp; ⟨_, e⟩), fun _ h _ _ => h⟩⟩
  · rw [ad_set hj]; exact O.nd
  · by_cases q : p = (a, rs')
    · subst q
      exact ⟨X.no, X.new, X.low, ⟨_, hp, hr⟩, X.neL, X.neC⟩
    · have hpm : p ∈ μ.eraseIdx j := by
        have : ∀ {l : Mu} {j : Nat}, p ∈ l.set j (a, rs') → p ∈ l.eraseIdx j := by
          intro l
          induction l with
          | nil => intro j h; simp at h
          | cons y l ih =>
            intro j h
            cases j with
            | zero =>
              rcases List.mem_cons.mp h with z | z
              · exact absurd z q
              · exact z
            | succ j =>
              rcases List.mem_cons.mp h with z | z
              · rw [List.eraseIdx_cons_succ]; exact List.mem_cons.mpr (.inl z)
              · rw [List.eraseIdx_cons_succ]; exact List.mem_cons_of_mem _ (ih z)
        exact this hpp
      obtain ⟨z1, z2, z3, ⟨ys, d, e⟩, z4, z5⟩ := O.at_ p (List.mem_of_mem_eraseIdx hpm)
      exact ⟨z1, z2, z3, ⟨ys, d.extBut hs.extBut (nodup_erase O.nd hj hpm), e⟩, z4, z5⟩
  · subst q; exact List.mem_map_of_mem hm
  · rw [ad_set hj] at hx; exact hx

theorem RvA.snoc {G : GH} : ∀ {rs : List SV} {vs : List Value} {r : SV} {v : Value}, RvA G rs vs → Rv G r v → RvA G (rs ++ [r]) (vs ++ [v])
  | [], [], _, _, _, h => ⟨h, trivial⟩
  | _ :: _, _ :: _, _, _, ⟨a, b⟩, h => ⟨a, RvA.snoc b h⟩
  | [], _ :: _, _, _, x, _ => x.elim
  | _ :: _, [], _, _, x, _ => x.elim

theorem TypeIs.plain {s : Shared} {a : Addr} {ys : Array Value} (p : s.heap.PlainList a ys) : s.TypeIs (.ref a) "list" := let ⟨n, e⟩ := p; ⟨_, e, rfl⟩
/-- x.append(e) -/
theorem X1.append {x : Str} {e : Expr} {r : SV} {rs : List SV} {a : Addr} (j : Nat) {xp apos cpos pos : Pos} (hx : lookSV x F.vars F.kinds σ = some (.v (.ref a))) (hj : μ[j]? = some (a, rs)) (h : Em w n F σ μ e r) (hlen : rs.length ≤ 1000000) (hΦ : Φ (.next σ (μ.set j (a, rs ++ [r]))))
    (h0 : notStar e = true := by rfl) (hline : (apos.endLine == cpos.line) = true := by rfl) : X1 w n F σ μ (.Expr (.Call (.Attribute (.Name x xp) "append" apos) [e] [] cpos) pos) Φ := .mk fun s₀ G₀ env A s G Q E I Fr Ro T O q => by
  refine wpAny_Expr ?_ I.inter rfl
  refine wpAny_Call_method (by rfl) ?_ hline PySem.F.plainAttrs_list PySem.F.slot_list_append PySem.F.type_list_append ?_
  · rw [backTo_few (by simp [h0])]; rfl
  · refine (Ev.nm hx rfl).run env A s G _ E I Ro T.grow.bare T.rel fun v s1 G1 g1 r1 => ?_
    cases r1
    have T1 := T.step g1
    have O1 := O.grow g1
    obtain ⟨ys, p1, _⟩ := (O1.at_ _ (List.mem_of_getElem? hj)).pl
    refine ⟨TypeIs.plain p1, fun b q => ?_, ?_⟩
    · cases q; obtain ⟨k, e⟩ := p1; exact ⟨_, e, rfl⟩
    · refine callWith_of_args (.inl ⟨_, rfl⟩) (starEach_any (by simp [h0])) (evalArgs_es (by simp [h0]) ?_)
      rw [starEach_cons h0]
      refine spliced_cons (h.run s₀ G₀ env A s1 G1 _ E I Ro T1 O1 fun v s2 G2 g2 r2 => spliced_nil ⟨g2.wd, ?_⟩)
      have T2 := T1.step g2
      have O2 := O1.grow g2
      obtain ⟨ys2, p2, ra2⟩ := (O2.at_ _ (List.mem_of_getElem? hj)).pl
      have hsz : ys2.size ≤ sizeLine := by
        have := ra2.length
        simp only [Array.length_toList] at this
        rw [sizeLine_eq]; omega
      refine wpAny_list_append_plain (hsz := hsz) p2 fun h5 pl5 sb5 => ?_
      · obtain ⟨T3, O3, f3⟩ := T2.mut O2 hj sb5 pl5 (rs' := rs ++ [r]) (by rw [Array.toList_push]; exact ra2.snoc r2) s2.toks
        exact q (.next _ _) _ _ hΦ ⟨rfl, _, T3, O3, ((Frm.grow g1).trans (Frm.grow g2)).trans f3⟩

/-- an in-place operation -/
structure Ips (w : World) (n : Nat) (op : Operator) (a b r : SV) : Prop where
  run :   ∀ (A : Around) (s : Shared) (G : GH) (x y : Value) (Q E : Value → Shared → Prop), Room n A → Bare s G → Wd s.heap → G.In s.heap → Rv G a x → Rv G b y →
    (∀ v s' G', Grow s G s' G' → Rv G' r v → Q v s') → wpAny (model prog w) A (inplaceOp op x y) Q E s
theorem Ips.add {a b : Int} : Ips w n .Add (.int a) (.int b) (.int (a + b)) := .mk fun A s G x y Q E Ro B W k h1 h2 q => by
  obtain ⟨t, rfl⟩ := Rd.int_inv h1; obtain ⟨u, rfl⟩ := Rd.int_inv h2
  exact P.iadd_int (q _ _ _ (.tok B W k _) (.int _ _))
theorem Ips.cat {a b : Str} (hs : a.length + b.length ≤ 1000000) : Ips w n .Add (.str a) (.str b) (.str (a ++ b)) := .mk fun A s G x y Q E Ro B W k h1 h2 q => by
  obtain ⟨t, rfl⟩ := Rd.str_inv h1; obtain ⟨u, rfl⟩ := Rd.str_inv h2
  exact wpAny_toks (P.iadd_str (SB.post_add (by rw [sizeLine_eq]; omega) fun t' tk hle => q _ _ _ (.tok B W k _ hle) (.str _ _)))
theorem X1.aug {i : Nat} {x : Str} {op : Operator} {e : Expr} {r0 r r' : SV} {p pos : Pos} (hx : ixOf x F.vars = some i) (hk : storable x F.vars F.kinds = true) (h0 : lookSV x F.vars F.kinds σ = some r0) (hu : r0.known = true) (h : Em w n F σ μ e r) (h2 : Ips w n op r0 r r') (hΦ : Φ (.next (σ.set i r') μ)) :
    X1 w n F σ μ (.AugAssign (.Name x p) op e pos) Φ := .mk fun s₀ G₀ env A s G Q E I Fr Ro T O q => by
  obtain ⟨i', k, a, b, c⟩ := lookSV_some h0
  refine wpAny_AugAssign_Name (T.rel.load I a b c hu fun v hv => ?_)
  refine h.run s₀ G₀ env A s G _ E I Ro T O fun y s1 G1 g1 r1 => ?_
  refine h2.run A s1 G1 v y _ E Ro g1.bare g1.wd g1.sub (hv.ext g1.le) r1 fun z s2 G2 g2 r2 => ?_
  exact (T.step (g1.trans g2)).storeN I Fr (O.grow (g1.trans g2)) hx hk r2 fun s3 T3 O3 f3 => q (.next _ _) _ _ hΦ ⟨rfl, _, T3, O3, (Frm.grow (g1.trans g2)).trans (f3 _)⟩

theorem Slots.keepC {env : Env} {h h' : Heap} {G : GH} {m : Str → Option Value} (hc : ∀ p ∈ env.cells, ∀ o, h.get? p.2 = some o → h'.get? p.2 = some o) : ∀ {ks : List NameKind} {xs : List Str} {rs : List SV}, Slots env h G m ks xs rs → Slots env h' G m ks xs rs
  | [], [], [], _ => trivial
  | k :: ks, y :: xs, r :: rs, ⟨a, b⟩ => by
    refine ⟨?_, Slots.keepC hc b⟩
    unfold Slot at a ⊢
    by_cases q : k = .local
    · rw [if_pos q] at a ⊢; exact a
    · rw [if_neg q] at a ⊢
      obtain ⟨c', v₀', e, ⟨o, f, f'⟩, g⟩ := a
      exact ⟨c', v₀', e, ⟨o, hc _ (mem_of_lookup e) o f, f'⟩, g⟩
  | [], [], _ :: _, z => z.elim
  | [], _ :: _, _, z => by cases z
  | _ :: _, [], _, z => by cases z
  | _ :: _, _ :: _, [], z => z.elim

/-! loops -/
noncomputable def LoopOut (Φ : Out → Prop) (I : List SV → Mu → Prop) : Out → Prop
  | .next σ μ => I σ μ
  | .cont σ μ => I σ μ
  | .brk σ μ => Φ (.next σ μ)
  | .ret r => Φ (.ret r)
theorem X1.while {test : Expr} {body : List Stmt} {pos : Pos} (Inv : Nat → List SV → Mu → Prop) (k₀ : Nat) (h0 : Inv k₀ σ μ)
    (turn : ∀ k σ μ, Inv k σ μ → ∃ b, Tm w n F σ μ test b ∧ (b = true → Xs w n F σ μ body (LoopOut Φ fun σ' μ' => ∃ m, m < k ∧ Inv m σ' μ')) ∧ (b = false → Φ (.next σ μ))) : X1 w n F σ μ (.While test body [] pos) Φ := .mk fun s₀ G₀ env A s G Q E I Fr Ro T O q => by
  refine wpAny_While (codeAny_whileLoop (fun k s' => ∃ σ' μ' G', Inv k σ' μ' ∧ St s₀ G₀ F σ' env s' G' ∧ Own s₀ env s'.heap G' μ' ∧ Frm env μ.ad s G μ'.ad s' G') ?_ k₀ ⟨σ, μ, G, h0, T, O, .refl⟩)
  rintro k s' ⟨σ', μ', G', hI, T', O', f'⟩
  obtain ⟨b, ht, h1, h2⟩ := turn k σ' μ' hI
  refine ht.run s₀ G₀ env A s' G' _ _ I Ro T' O' fun s1 G1 g1 => ?_
  have T1 := T'.step g1
  have O1 := O'.grow g1
  have f1 := f'.trans (Frm.grow g1)
  cases b with
  | true =>
    rw [if_pos rfl]
    refine (h1 rfl).run s₀ G₀ env A s1 G1 _ _ I Fr Ro T1 O1 fun o fl s2 ho hs => ?_
    cases o with
    | next σ2 μ2 =>
      obtain ⟨rfl, G2, T2, O2, f2⟩ := hs
      obtain ⟨m, hm, hI2⟩ := ho
      exact ⟨m, hm, σ2, μ2, G2, hI2, T2, O2, f1.trans f2⟩
    | cont σ2 μ2 =>
      obtain ⟨rfl, G2, T2, O2, f2⟩ := hs
      obtain ⟨m, hm, hI2⟩ := ho
      exact ⟨m, hm, σ2, μ2, G2, hI2, T2, O2, f1.trans f2⟩
    | brk σ2 μ2 =>
      obtain ⟨rfl, G2, T2, O2, f2⟩ := hs
      exact q (.next σ2 μ2) .next s2 ho ⟨rfl, G2, T2, O2, f1.trans f2⟩
    | ret r =>
      obtain ⟨v, G2, rfl, z⟩ := hs
      exact q (.ret r) _ s2 ho ⟨v, G2, rfl, z⟩
  | false =>
    rw [if_neg (by simp)]
    exact wpAny_execs_nil (q (.next σ' μ') .next s1 (h2 rfl) ⟨rfl, G1, T1, O1, f1⟩)

/-- a target takes a value -/
structure Tg (w : World) (n : Nat) (F : Fd) (t : Expr) (d : SV) (σ σ' : List SV) : Prop where
  run :   ∀ (s₀ : Shared) (G₀ : GH) (env : Env) (A : Around) (s : Shared) (G : GH) (μ : Mu) (v : Value) (Q : Unit → Shared → Prop) (E : Value → Shared → Prop), EnvIs F env → Fresh s₀ env → Room n A → St s₀ G₀ F σ env s G → Own s₀ env s.heap G μ → Rv G d v →
    (∀ s' G', St s₀ G₀ F σ' env s' G' → Own s₀ env s'.heap G' μ → Frm env μ.ad s G μ.ad s' G' → Q () s') → wpAny (model prog w) A (assign t env v) Q E s
theorem Tg.name {i : Nat} {x : Str} {p : Pos} {d : SV} (hx : ixOf x F.vars = some i) (hk : storable x F.vars F.kinds = true) : Tg w n F (.Name x p) d σ (σ.set i d) := .mk fun s₀ G₀ env A s G μ v Q E I Fr Ro T O r q =>
  wpAny_assign_Name (T.storeN I Fr O hx hk r fun s' T' O' f' => q s' G T' O' (f' _))
/-- a target that lets no tuple go -/
structure Lg (w : World) (t : Expr) : Prop where
  run : ∀ (A : Around) (I : Addr) (v : Value) (s : Shared) (Q : Unit → Shared → Prop) (E : Value → Shared → Prop), LetOk s.heap I → Q () s → wpAny (model prog w) A (letOwnedTupleGo t (.ref I) v) Q E s
theorem Lg.name {x : Str} {p : Pos} : Lg w (.Name x p) := .mk fun A I v s Q E _ q => wpAny_of_eq (rfl : letOwnedTupleGo (.Name x p) (.ref I) v = pure ()) q
theorem Lg.tuple {es : List Expr} {k : Nat} {p : Pos} : Lg w (.Tuple es k p) := .mk fun A I v s Q E h q => by
  obtain ⟨o, vs, T, e, c, d, z⟩ := h
  cases v with
  | ref a =>
    unfold letOwnedTupleGo
    refine wpAny_bind (wpAny_load e ?_)
    rw [c, d]
    dsimp only
    rw [z]
    exact wpAny_pure q
  | _ => exact wpAny_of_eq (by unfold letOwnedTupleGo; rfl) q
theorem X1.for {t iter : Expr} {body : List Stmt} {pos : Pos} {xs : List PyData} (hi : Ei w n F σ iter xs) (Inv : Nat → List SV → Mu → Prop) (h0 : Inv 0 σ μ)
    (turn : ∀ k σ μ d, xs[k]? = some d → Inv k σ μ → ∃ σ', Tg w n F t (.d d) σ σ' ∧ Xs w n F σ' μ body (LoopOut Φ fun σ' μ' => Inv (k + 1) σ' μ')) (done : ∀ σ μ, Inv xs.length σ μ → Φ (.next σ μ))
    (hs : ∀ env x, foldedSetIterable iter env x = pure x := by intro _ _; rfl) (hl : Lg w t := by first | with_reducible exact Lg.name | with_reducible exact Lg.tuple) : X1 w n F σ μ (.For t iter body [] pos) Φ := .mk fun s₀ G₀ env A s G Q E I Fr Ro T O q => by
  refine wpAny_For ?_ (hs env)
  refine hi.run env A s G _ E I Ro T.grow.bare T.rel fun It fp wr P Stw s1 G1 g1 W st hfp hwr hP ⟨hIf, hsI, hlt, hgo⟩ => ?_
  have T1 := T.step g1
  have O1 := O.grow g1
  obtain ⟨m0, N0, _⟩ := T.rel.slots
  have noL : ∀ b ∈ fp, b ≠ env.locals := fun b hb z => by
    subst z
    rcases (hfp _ hb).2.2 with y | y
    · exact Nat.lt_irrefl _ (Nat.lt_of_lt_of_le N0.lt y)
    · exact y T1.pL
  have noC : ∀ b ∈ fp, ∀ p ∈ env.cells, b ≠ p.2 := fun b hb p hp z => by
    subst z
    rcases (hfp _ hb).2.2 with y | y
    · exact Nat.lt_irrefl _ (Nat.lt_of_lt_of_le (T.ltC hp) y)
    · exact y (T1.pC p hp).1
  have noM : ∀ b ∈ fp, b ∉ μ.ad := fun b hb z => by
    obtain ⟨p, hp, e⟩ := List.mem_map.mp z
    subst e
    rcases (hfp _ hb).2.2 with y | y
    · obtain ⟨ys, d, _⟩ := (O.at_ p hp).pl
      exact Nat.lt_irrefl _ (Nat.lt_of_lt_of_le (PlainList_lt d) y)
    · exact y (O1.at_ p hp).no
  have low : 173 ≤ s.heap.objs.size := T.rel.wd.size
  refine codeAny_forLoop_any (fun k s' => ∃ i σ' μ' G', k = xs.length + 1 - i ∧ i ≤ xs.length ∧ Inv i σ' μ' ∧ St s₀ G₀ F σ' env s' G' ∧ Own s₀ env s'.heap G' μ' ∧ Frm env μ.ad s G μ'.ad s' G' ∧ Stw i s'.heap ∧ (∀ b ∈ wr, G' b = Option.none) ∧ (∀ b ∈ fp, b ∉ μ'.ad) ∧ G1.Le G') ?_ (xs.length + 1)
    ⟨0, σ, μ, G1, rfl, Nat.zero_le _, h0, T1, O1, .grow g1, st, fun b hb => (hwr b hb).1, noM, .refl _⟩
  rintro k s' ⟨i, σ', μ', G', rfl, hle, hI, T', O', f', st', hw', noM', le'⟩
  have hst : ∀ {h' : Heap} {t : Nat}, s'.toks ≤ t → (∀ b o, b ∉ wr → s'.heap.get? b = some o → h'.get? b = some o) → St s₀ G₀ F σ' env { s' with heap := h', toks := t } G' ∧ Own s₀ env h' G' μ' ∧ Frm env μ.ad s G μ'.ad { s' with heap := h', toks := t } G' := by
    intro h' t ht hk
    obtain ⟨m', N', S'⟩ := T'.rel.slots
    have Lw : env.locals ∉ wr := fun z => noL _ (W.sub _ z) rfl
    have Cw : ∀ p ∈ env.cells, p.2 ∉ wr := fun p hp z => noC _ (W.sub _ z) p hp rfl
    have hN := N'.at' fun o e => hk _ o Lw e
    have g : Grow s₀ G₀ { s' with heap := h', toks := t } G' := T'.grow.upd (X := wr) (fun b hb => ⟨hw' b hb, Nat.le_trans T.grow.size (hwr b hb).2, Nat.le_trans low (hwr b hb).2⟩) hk (Nat.le_of_lt (Nat.lt_of_le_of_lt Fr.L hN.lt)) (Nat.le_of_lt (Nat.lt_of_le_of_lt I.low hN.lt))
    refine ⟨⟨g, ⟨g.wd, g.sub, m', hN, Slots.keepC (fun p hp o e => hk _ o (Cw p hp) e) S'⟩, T'.fl, T'.pL, fun p hp => ⟨(T'.pC p hp).1, (T'.pC p hp).2.1, let ⟨_, _, o, e⟩ := T'.pC p hp; ⟨o, hk _ o (Cw p hp) e⟩⟩⟩, ⟨O'.nd, fun p hp => ?_⟩, ⟨fun b o h1 h2 h3 h4 e => hk b o (fun z => ?_) (f'.keep b o h1 h2 h3 h4 e), f'.le, f'.mu, fun b e => ?_, f'.gn⟩⟩
    · obtain ⟨z1, z2, z3, ⟨ys, d, e⟩, z4, z5⟩ := O'.at_ p hp
      exact ⟨z1, z2, z3, ⟨ys, d.at fun o e => hk _ o (fun z => noM' _ (W.sub _ z) (List.mem_map_of_mem hp)) e, e⟩, z4, z5⟩
    · exact Nat.lt_irrefl _ (Nat.lt_of_lt_of_le (Heap.lt_size e) (hwr b z).2)
    · by_cases z : b ∈ wr
      · exact get_none (hwr b z).2
      · refine f'.live b ?_
        cases e' : s'.heap.get? b with
        | none => rfl
        | some o => rw [hk b o z e'] at e; cases e
  by_cases hlt' : i < xs.length
  · refine wpAny_toks (W.item i s' _ _ hlt' st' fun v h1 tk hPv st1 k1 hle => ?_)
    have hle : s'.toks ≤ tk := hle
    obtain ⟨d, hd, rd⟩ := hP i v hPv
    have hlen := hlt _ _ st1
    obtain ⟨T2, O2, f2⟩ := hst (t := tk) hle k1
    obtain ⟨σ2, tg, hb⟩ := turn i σ' μ' d hd hI
    refine hl.run A It v _ _ _ (hgo _ _ st1) ?_
    refine tg.run s₀ G₀ env A _ G' μ' v _ _ I Fr Ro T2 O2 (rd.ext le') fun s3 G3 T3 O3 f3 => ?_
    refine hb.run s₀ G₀ env A s3 G3 _ _ I Fr Ro T3 O3 fun o fl s4 ho hs => ?_
    have nextCase : ∀ σ4 μ4, Inv (i + 1) σ4 μ4 → (∃ G, St s₀ G₀ F σ4 env s4 G ∧ Own s₀ env s4.heap G μ4 ∧ Frm env μ'.ad s3 G3 μ4.ad s4 G) → ∃ m, m < xs.length + 1 - i ∧ ∃ i σ' μ' G', m = xs.length + 1 - i ∧ i ≤ xs.length ∧ Inv i σ' μ' ∧ St s₀ G₀ F σ' env s4 G' ∧ Own s₀ env s4.heap G' μ' ∧ Frm env μ.ad s G μ'.ad s4 G' ∧ Stw i s4.heap ∧ (∀ b ∈ wr, G' b = Option.none) ∧ (∀ b ∈ fp, b ∉ μ'.ad) ∧ G1.Le G' := by
      rintro σ4 μ4 hI4 ⟨G4, T4, O4, f4⟩
      have ff := f3.trans f4
      refine ⟨xs.length + 1 - (i + 1), by omega, i + 1, σ4, μ4, G4, rfl, hlt', hI4, T4, O4, f2.trans ff, W.frame _ _ _ st1 fun b hb o e => ff.keep b o (hfp b hb).2.1 (noL b hb) (noC b hb) (noM' b hb) e, fun b hb => ?_, fun b hb z => ?_, le'.trans ff.le⟩
      · obtain ⟨o, e⟩ := hlen b (W.sub b hb)
        exact ff.gn b (hw' b hb) (noM' b (W.sub b hb)) (by show h1.get? b ≠ _; rw [e]; nofun)
      · rcases ff.mu b z with y | y
        · exact noM' b hb y
        · obtain ⟨o, e⟩ := hlen b hb
          rw [show h1.get? b = _ from y] at e; cases e
    cases o with
    | next σ4 μ4 =>
      obtain ⟨rfl, x⟩ := hs
      exact nextCase _ _ ho x
    | cont σ4 μ4 =>
      obtain ⟨rfl, x⟩ := hs
      exact nextCase _ _ ho x
    | brk σ4 μ4 =>
      obtain ⟨rfl, G4, T4, O4, f4⟩ := hs
      exact q (.next σ4 μ4) .next s4 ho ⟨rfl, G4, T4, O4, f2.trans (f3.trans f4)⟩
    | ret r =>
      obtain ⟨v, G4, rfl, z⟩ := hs
      exact q (.ret r) _ s4 ho ⟨v, G4, rfl, z⟩
  · have hin : i = xs.length := by omega
    subst hin
    refine wpAny_toks (W.done s' _ _ st' fun h1 tk k1 hle => ?_)
    have hle : s'.toks ≤ tk := hle
    obtain ⟨T2, O2, f2⟩ := hst (t := tk) hle k1
    exact wpAny_execs_nil (q (.next σ' μ') .next _ (done _ _ hI) ⟨rfl, G', T2, O2, f2⟩)
end
end
section
open PySem PySem.W PyProof.Rows PySem.Calls
set_option maxRecDepth 100000

theorem Grow.old {s : Shared} {G : GH} (B : Bare s G) (W : Wd s.heap) (k : G.In s.heap) {h' : Heap} (t : Nat) (hk : ∀ b o, s.heap.get? b = some o → h'.get? b = some o) (hs : s.heap.objs.size ≤ h'.objs.size) (ht : s.toks ≤ t := by omega) : Grow s G { s with heap := h', toks := t } G :=
  ⟨rfl, B.up ht, .of hk, W.keeps hk hs, fun b o e => hk b o (k b o e), .refl _, fun _ _ e => .inl e, hs, ht⟩
theorem Grow.oldPut {s : Shared} {G : GH} (B : Bare s G) (W : Wd s.heap) (k : G.In s.heap) {h' : Heap} (t : Nat) (hk : ∀ b o, s.heap.get? b = some o → h'.get? b = some o) {a : Addr} {o : Obj} (ha : s.heap.objs.size ≤ a) (e : h'.get? a = some o) (ht : s.toks ≤ t := by omega) :
    Grow s G { s with heap := h', toks := t } (G.put a o) :=
  have hs : s.heap.objs.size ≤ h'.objs.size := Nat.le_of_lt (Nat.lt_of_le_of_lt ha (Heap.lt_size e))
  ⟨rfl, (B.put (Nat.ne_of_gt (Nat.lt_of_lt_of_le (by decide) (Nat.le_trans W.size ha)))).up ht, .of hk, W.keeps hk hs, fun b o' e' => by
    unfold GH.put at e'
    by_cases q : b = a
    · rw [if_pos q] at e'; cases e'; subst q; exact e
    · rw [if_neg q] at e'; exact hk b o' (k b o' e'), GH.put_le (k.none ha), fun b o' e' => by
    unfold GH.put at e'
    by_cases q : b = a
    · exact .inr (q ▸ ha)
    · rw [if_neg q] at e'; exact .inl e', hs, ht⟩

section
variable {w : World} {n : Nat} {F : Fd} {σ : List SV} {μ : Mu} {Φ : Out → Prop}

/-! calls of built-ins -/
theorem RvA.one {G : GH} {a : SV} {vs : List Value} (h : RvA G [a] vs) : ∃ v, vs = [v] ∧ Rv G a v := by
  match vs, h with
  | [v], ⟨x, _⟩ => exact ⟨v, rfl, x⟩
  | [], h => exact h.elim
  | _ :: _ :: _, ⟨_, h⟩ => exact h.elim
theorem RvA.two {G : GH} {a b : SV} {vs : List Value} (h : RvA G [a, b] vs) : ∃ v u, vs = [v, u] ∧ Rv G a v ∧ Rv G b u := by
  match vs, h with
  | [v, u], ⟨x, y, _⟩ => exact ⟨v, u, rfl, x, y⟩
  | [], h => exact h.elim
  | [_], ⟨_, h⟩ => exact h.elim
  | _ :: _ :: _ :: _, ⟨_, _, h⟩ => exact h.elim
theorem RvA.three {G : GH} {a b c : SV} {vs : List Value} (h : RvA G [a, b, c] vs) : ∃ v u x, vs = [v, u, x] ∧ Rv G a v ∧ Rv G b u ∧ Rv G c x := by
  match vs, h with
  | v :: us, ⟨x, y⟩ => obtain ⟨u, z, rfl, p, q⟩ := RvA.two y; exact ⟨v, u, z, rfl, x, p, q⟩
  | [], h => exact h.elim

theorem Cs.lenL {l : List PyData} (hl : l.length ≤ 1000000) : Cs w n (.builtin "len") [.list l] (.int l.length) := .mk fun A s G vs Q E Ro B W k h q => by
  obtain ⟨v, rfl, r⟩ := h.one
  obtain ⟨a, items, rfl, L, _, ra⟩ := Rd.list_inv k r
  have hz : items.size = l.length := by rw [← ra.length]; simp
  exact PySem.Calls.call_len_list L (by omega) (by rw [hz]; exact q _ _ _ (.tok B W k _) (.int _ _))
theorem Cs.lenS {x : Str} (hl : x.length ≤ 1000000) : Cs w n (.builtin "len") [.str x] (.int x.length) := .mk fun A s G vs Q E Ro B W k h q => by
  obtain ⟨v, rfl, r⟩ := h.one
  obtain ⟨t, rfl⟩ := Rd.str_inv r
  exact P.len_str (by omega) (q _ _ _ (.tok B W k _) (.int _ _))
theorem Cs.chr {i : Int} (h0 : 0 ≤ i) (h1 : i ≤ 1000000) : Cs w n (.builtin "chr") [.int i] (.str ⟨#[i.toNat]⟩) := .mk fun A s G vs Q E Ro B W k h q => by
  obtain ⟨v, rfl, r⟩ := h.one
  obtain ⟨t, rfl⟩ := Rd.int_inv r
  exact chr_of_range h0 (by omega) (q _ _ _ (.tok B W k _) (.str _ _))
theorem Cs.ord {c : Nat} : Cs w n (.builtin "ord") [.str ⟨#[c]⟩] (.int c) := .mk fun A s G vs Q E Ro B W k h q => by
  obtain ⟨v, rfl, r⟩ := h.one
  obtain ⟨t, rfl⟩ := Rd.str_inv r
  exact P.ord_of_char (q _ _ _ (.tok B W k _) (.int _ _))
theorem RdA.ints {G : GH} : ∀ {ns : List Int} {vs : List Value}, RdA G vs (ns.map .int) → IntsAre vs ns
  | [], [], _ => .nil
  | i :: ns, v :: vs, h => by
    obtain ⟨a, b⟩ := h.uncons
    obtain ⟨t, rfl⟩ := Rd.int_inv a
    exact .cons _ _ (RdA.ints b)
  | [], _ :: _, h => nomatch h
  | _ :: _, [], h => nomatch h
theorem RdA.strs {G : GH} : ∀ {ns : List Str} {vs : List Value}, RdA G vs (ns.map .str) → StrsAre vs ns
  | [], [], _ => .nil
  | i :: ns, v :: vs, h => by
    obtain ⟨a, b⟩ := h.uncons
    obtain ⟨t, rfl⟩ := Rd.str_inv a
    exact .cons _ _ (RdA.strs b)
  | [], _ :: _, h => nomatch h
  | _ :: _, [], h => nomatch h
theorem RdA.ofStrs {G : GH} : ∀ {ns : List Str} {vs : List Value}, StrsAre vs ns → RdA G vs (ns.map .str)
  | _, _, .nil => .nil
  | _, _, .cons _ _ h => .cons (.str _ _) (RdA.ofStrs h)
theorem Cs.sum {ns : List Int} : Cs w (n + 1) (.builtin "sum") [.list (ns.map .int)] (.int ns.sum) := .mk fun A s G vs Q E Ro B W k h q => by
  obtain ⟨v, rfl, r⟩ := h.one
  obtain ⟨a, items, rfl, L, _, ra⟩ := Rd.list_inv k r
  have hi := RdA.ints ra
  obtain ⟨xs, hx⟩ := hi.allInts.items
  have hx : items = intItems xs := by rw [← hx]
  have hl' : s.heap.IsList a (intItems xs) := hx ▸ L
  refine wpAny_hsz (sum_intListG (Ro.hd (by omega)) hl' fun h' tk t' hk hs => ?_)
  have e1 : ns = xs.toList.map (·.1) := by
    rw [← nums_intItems, ← hx]
    exact (show numsOf items.toList = ns from hi.numsOf).symm
  have e2 : preSum (numAt xs) xs.size = ns.sum := by
    rw [preSum_eq, List.take_of_length_le (by simp), e1]
  rw [e2]
  exact q _ _ _ (.old B W k _ hk hs.1 hs.2) (.int _ _)
theorem Cs.max2 {a b : Int} : Cs w (n + 1) (.builtin "max") [.int a, .int b] (.int (if a < b then b else a)) := .mk fun A s G vs Q E Ro B W k h q => by
  obtain ⟨v, u, rfl, r, r'⟩ := h.two
  obtain ⟨t, rfl⟩ := Rd.int_inv r
  obtain ⟨t', rfl⟩ := Rd.int_inv r'
  refine wpAny_hsz (max_two_ints (Ro.hd (by omega)) fun h' tk hk hs => ?_)
  have : (if b > a then Value.int b t' else Value.int a t) = Value.int (if a < b then b else a) (if a < b then t' else t) := by
    by_cases q : a < b <;> simp [q]
  rw [this]
  exact q _ _ _ (.old B W k _ hk hs.1 hs.2) (.int _ _)
theorem Cs.min2 {a b : Int} : Cs w (n + 1) (.builtin "min") [.int a, .int b] (.int (if b < a then b else a)) := .mk fun A s G vs Q E Ro B W k h q => by
  obtain ⟨v, u, rfl, r, r'⟩ := h.two
  obtain ⟨t, rfl⟩ := Rd.int_inv r
  obtain ⟨t', rfl⟩ := Rd.int_inv r'
  refine wpAny_hsz (min_two_ints (Ro.hd (by omega)) fun h' tk hk hs => ?_)
  have : (if b < a then Value.int b t' else Value.int a t) = Value.int (if b < a then b else a) (if b < a then t' else t) := by
    by_cases q : b < a <;> simp [q]
  rw [this]
  exact q _ _ _ (.old B W k _ hk hs.1 hs.2) (.int _ _)
theorem Cs.bytesOf {ns : List Int} (hr : ∀ i ∈ ns, 0 ≤ i ∧ i < 256) (hl : ns.length ≤ 1000000) : Cs w (n + 1) (.type "bytes") [.list (ns.map .int)] (.b (byteArr ns)) := .mk fun A s G vs Q E Ro B W k h q => by
  obtain ⟨v, rfl, r⟩ := h.one
  obtain ⟨a, items, rfl, L, _, ra⟩ := Rd.list_inv k r
  have hi := RdA.ints ra
  exact wpAny_hsz (call_bytes_ints (vs := items.toList) (by rw [Array.toArray_toList]; exact L) hi hr (by rw [hi.length, sizeLine_eq]; omega) (Ro.hd (by omega)) fun h' t k' hk hs => q _ _ _ (.old B W k _ hk hs.1 hs.2) ⟨_, rfl⟩)
theorem Cs.isStr {x : Str} : Cs w n (.builtin "isinstance") [.str x, .v (.type "str")] (.d (.bool true)) := .mk fun A s G vs Q E Ro B W k h q => by
  obtain ⟨v, u, rfl, r, r'⟩ := h.two
  obtain ⟨t, rfl⟩ := Rd.str_inv r
  cases r'
  exact IsiPair.str_str (q _ _ _ (.refl B W k) (.bool _))
theorem Cs.typeBytes {b : Array UInt8} : Cs w n (.type "type") [.b b] (.v (.type "bytes")) := .mk fun A s G vs Q E Ro B W k h q => by
  obtain ⟨v, rfl, t, rfl⟩ := h.one
  exact call_type_of (PySem.W.typeIs_bytes _ _ _) (by decide) (q _ _ _ (.refl B W k) rfl)
theorem Cs.typeBool {b : Bool} : Cs w n (.type "type") [.d (.bool b)] (.v (.type "bool")) := .mk fun A s G vs Q E Ro B W k h q => by
  obtain ⟨v, rfl, r⟩ := h.one
  cases Rd.bool_inv r
  exact call_type_of (PySem.typeIs_bool _ _) (by decide) (q _ _ _ (.refl B W k) rfl)
theorem Cs.join {x : Str} {ys : List Str} (hok : (ys.map (·.length)).sum + ys.length * x.length ≤ 1000000) : Cs w n (.builtin "str.join") [.str x, .list (ys.map .str)] (.str (Txt.join x ys)) := .mk fun A s G vs Q E Ro B W k h q => by
  obtain ⟨v, u, rfl, r, r'⟩ := h.two
  obtain ⟨t, rfl⟩ := Rd.str_inv r
  obtain ⟨a, items, rfl, L, _, ra⟩ := Rd.list_inv k r'
  exact wpAny_toks (join_list L (RdA.strs ra) (by omega) fun t' k' hle => q _ _ _ (.tok B W k _ hle) (.str _ _))
theorem Cs.sortedS {ys : List Str} (h64 : ys.length < 64) (r : List Str) (hr : ∀ ss' : List Str, ss'.Perm ys → sortedS ss' = true → ss' = r) : Cs w n (.builtin "sorted") [.list (ys.map .str)] (.list (r.map .str)) := .mk fun A s G vs Q E Ro B W k h q => by
  obtain ⟨v, rfl, r'⟩ := h.one
  obtain ⟨a, items, rfl, L, _, ra⟩ := Rd.list_inv k r'
  have hS := RdA.strs ra
  refine sorted_strs (vs := items.toList) (by rw [Array.toArray_toList]; exact L) hS (by rw [hS.length]; exact h64) fun out ss' a1 a2 a3 => ?_
  obtain ⟨e, he⟩ := sortedAll_at s.heap items.toList out
  have := hr ss' a2 a3
  subst this
  exact q _ _ _ (.oldPut B W k s.toks (fun b o e => sortedAll_old e) (Nat.le_succ _) he) (.list GH.put_self rfl rfl rfl (RdA.ofStrs a1))
/-! sums of lists, repeats -/
theorem Bs.catL {a b : List PyData} (hl : a.length + b.length ≤ 1000000) : Bs w n .Add (.list a) (.list b) (.list (a ++ b)) := .mk fun A s G x y Q E Ro B W k h1 h2 q => by
  obtain ⟨p, items, rfl, L, _, ra⟩ := Rd.list_inv k h1
  obtain ⟨p', items', rfl, L', _, ra'⟩ := Rd.list_inv k h2
  obtain ⟨⟨cls, dd, data, sl⟩, ho, hc, m, hd⟩ := id L
  obtain ⟨⟨cls2, dd2, data2, sl2⟩, ho2, hc2, m2, hd2⟩ := id L'
  simp only at hc hd hc2 hd2
  subst hc hd hc2 hd2
  have z1 : items.size = a.length := by rw [← ra.length]; simp
  have z2 : items'.size = b.length := by rw [← ra'.length]; simp
  refine concat_meets ⟨_, ho, rfl⟩ ⟨_, ho2, rfl⟩ noFill_list_add seq_list_add PySem.F.slot_list_add PySem.F.entry_list_add (PySem.F.args_list_add_2 _ _) (list_addW p p' items items' m m2 dd dd2 sl sl2 (by rw [z1, z2, sizeLine_eq]; omega)) ⟨ho, ho2, ?_⟩
  refine q _ _ _ (.push B W k _ _ rfl) (.list GH.put_self rfl rfl rfl ?_)
  rw [Array.toList_append]
  exact (ra.append ra').ext (GH.put_le (k.none (Nat.le_refl _)))
theorem Bs.rep {x : Str} {i : Int} (hx : x.length ≤ 1000) (hi : i ≤ 1000) (hi0 : -1000 ≤ i) : Bs w n .Mult (.str x) (.int i) (.str (Txt.mul x i)) := .mk fun A s G _ _ Q E Ro B W k h1 h2 q => by
  obtain ⟨t, rfl⟩ := Rd.str_inv h1; obtain ⟨u, rfl⟩ := Rd.int_inv h2
  refine wpAny_toks (SB.mul ⟨?_, fun h1 h2 => ?_, fun h1 h2 => ?_⟩ fun t' k' hle => q _ _ _ (.tok B W k _ hle) (.str _ _))
  · simp only [Bool.or_eq_false_iff, decide_eq_false_iff_not]; omega
  · have : (1000 : Int) ≤ (2 ^ 63 - 1) / i := by
      rw [Int.le_ediv_iff_mul_le (by omega)]; omega
    omega
  · show decide (_ > sizeLine) = false
    rw [sizeLine_eq]; simp only [decide_eq_false_iff_not]
    have : x.length * i.toNat ≤ 1000 * 1000 := Nat.mul_le_mul hx (by omega)
    omega

/-! slices -/
noncomputable def clipN (v : Option Int) (d n : Nat) : Nat := match v with | Option.none => d | some i => (max 0 (min (if i < 0 then i + n else i) n)).toNat
noncomputable def pickL {α : Type} (xs : List α) (lo hi : Option Int) : List α := (xs.drop (clipN lo 0 xs.length)).take (clipN hi xs.length xs.length - clipN lo 0 xs.length)
theorem sliceBounds_clip (lo hi : Option Int) (k : Nat) : sliceBounds lo hi Option.none k = (((clipN lo 0 k : Nat) : Int), ((clipN hi k k : Nat) : Int), 1) := by
  unfold sliceBounds clipN
  simp only [Option.getD_none, show (1 : Int) > 0 by decide, if_true]
  congr 1
  · cases lo with
    | none => rfl
    | some i => exact (Int.toNat_of_nonneg (Int.le_max_left 0 _)).symm
  · congr 1
    cases hi with
    | none => rfl
    | some i => exact (Int.toNat_of_nonneg (Int.le_max_left 0 _)).symm
theorem slicePick_pickL (items : Array Value) (lo hi : Option Int) : (slicePick items lo hi Option.none).toList = pickL items.toList lo hi := by
  rw [kmk_pick_nat items (sliceBounds_clip lo hi items.size)]
  simp [pickL]
theorem RdA.drop {G : GH} : ∀ {vs : List Value} {ds : List PyData} (k : Nat), RdA G vs ds → RdA G (vs.drop k) (ds.drop k)
  | _, _, 0, h => h
  | [], [], _ + 1, h => h
  | _ :: _, _ :: _, k + 1, h => RdA.drop k h.uncons.2
  | [], _ :: _, _, h => nomatch h
  | _ :: _, [], _, h => nomatch h
theorem RdA.take {G : GH} : ∀ {vs : List Value} {ds : List PyData} (k : Nat), RdA G vs ds → RdA G (vs.take k) (ds.take k)
  | _, _, 0, h => .nil
  | [], [], _ + 1, h => h
  | _ :: _, _ :: _, k + 1, h => .cons h.uncons.1 (RdA.take k h.uncons.2)
  | [], _ :: _, _, h => nomatch h
  | _ :: _, [], _, h => nomatch h
theorem RdA.pickL {G : GH} {vs : List Value} {ds : List PyData} {lo hi : Option Int} (h : RdA G vs ds) : RdA G (pickL vs lo hi) (Mine.pickL ds lo hi) := by
  unfold Mine.pickL
  rw [h.length]
  exact (h.drop _).take _

/-- a part of a slice -/
noncomputable def Pt (w : World) (n : Nat) (F : Fd) (σ : List SV) (e : Option Expr) (i : Option Int) : Prop := match e, i with
  | Option.none, Option.none => True
  | some e, some i => Ev w n F σ e (.int i)
  | _, _ => False
theorem Pt.run {e : Option Expr} {i : Option Int} {env : Env} {A : Around} {s : Shared} {G : GH} {Q E : Value → Shared → Prop} (h : Pt w n F σ e i) (I : EnvIs F env) (Ro : Room n A) (B : Bare s G) (R : Rel F σ env s.heap G)
    (q : ∀ v s' G' (p : Option (Int × Tok)), v = partValue p → p.map (·.1) = i → IsPart v i → Grow s G s' G' → Q v s') : wpAny (model prog w) A (evalPart e env) Q E s := by
  match e, i, h with
  | Option.none, Option.none, _ => exact wpAny_pure (q .none s G Option.none rfl rfl .none (.refl B R.wd R.sub))
  | some e, some i, h =>
    refine (show Ev w n F σ e (.int i) from h).run env A s G _ E I Ro B R fun v s' G' g r => ?_
    obtain ⟨t, rfl⟩ := Rd.int_inv r
    exact q _ _ G' (some (i, t)) rfl rfl (.int _ _) g
theorem Ev.sliceL {e : Expr} {lower upper : Option Expr} {p pos : Pos} {xs : List PyData} {lo hi : Option Int} (h : Ev w n F σ e (.list xs)) (hl : Pt w n F σ lower lo) (hu : Pt w n F σ upper hi) (hsz : xs.length ≤ 1000000)
    (ht : ∀ o r, letTemporaryGo e o r = pure () := by intro _ _; rfl) : Ev w n F σ (.Subscript e (.Slice lower upper Option.none p) pos) (.list (pickL xs lo hi)) := .mk fun env A s G Q E I Ro B R q => by
  refine wpAny_Subscript_list_slice (h.run env A s G _ E I Ro B R fun v s1 G1 g1 r1 => ?_) ht
  refine hl.run I Ro g1.bare (R.grow g1) fun vl s2 G2 p1 _ _ ip1 g2 => ?_
  refine hu.run I Ro g2.bare (R.grow (g1.trans g2)) fun vu s3 G3 p2 _ _ ip2 g3 => ?_
  obtain ⟨a, items, rfl, L, _, ra⟩ := Rd.list_inv g3.sub (r1.ext (g2.le.trans g3.le))
  have z1 : items.size = xs.length := by rw [← ra.length]; simp
  refine ⟨a, items, lo, hi, rfl, L, by rw [z1, sizeLine_eq]; omega, ip1, ip2, ?_⟩
  have g4 := Grow.push0 (s := s3) g3.bare g3.wd g3.sub { cls := .type "slice", data := .fields #[vl, vu, .none] } s3.toks
  have g5 := Grow.push (s := { s3 with heap := s3.heap.push { cls := .type "slice", data := .fields #[vl, vu, .none] } }) g4.bare g4.wd g4.sub { cls := .type "list", data := .seq (slicePick items lo hi Option.none) } s3.toks rfl (Nat.le_refl _)
  have e : (s3.heap.push { cls := .type "slice", data := .fields #[vl, vu, .none] }).objs.size = s3.heap.objs.size + 1 := Heap.size_push ..
  dsimp only at g5
  rw [e] at g5
  refine q _ _ _ (g1.trans (g2.trans (g3.trans (g4.trans g5)))) (.list GH.put_self rfl rfl rfl ?_)
  rw [slicePick_pickL]
  exact ra.pickL.ext (GH.put_le (g3.sub.none (Nat.le_succ _)))
noncomputable def cutS (x : Str) (lo hi : Option Int) : Str := ⟨(pickL x.cps.toList lo hi).toArray⟩
theorem slicePicked_cut (x : Str) (l u : Option (Int × Tok)) : (slicePicked x l u Option.none).filterMap (x.cps[·]?) = pickL x.cps.toList (l.map (·.1)) (u.map (·.1)) := by
  have e : slicePicked x l u Option.none = sliceRange (sliceBounds (l.map (·.1)) (u.map (·.1)) Option.none x.length).1 (sliceBounds (l.map (·.1)) (u.map (·.1)) Option.none x.length).2.1 1 := rfl
  rw [e, sliceBounds_clip, sliceRange_one, pick_run]
  simp [pickL, PySem.Str.length]
theorem Ev.sliceS {e : Expr} {lower upper : Option Expr} {p pos : Pos} {x : Str} {lo hi : Option Int} (h : Ev w n F σ e (.str x)) (hl : Pt w n F σ lower lo) (hu : Pt w n F σ upper hi) (hsz : x.length ≤ 1000000)
    (ht : ∀ o r, letTemporaryGo e o r = pure () := by intro _ _; rfl) : Ev w n F σ (.Subscript e (.Slice lower upper Option.none p) pos) (.str (cutS x lo hi)) := .mk fun env A s G Q E I Ro B R q => by
  refine wpAny_toks (wpAny_Subscript_str_slice (h.run env A s G _ E I Ro B R fun v s1 G1 g1 r1 => ?_) ht)
  refine hl.run I Ro g1.bare (R.grow g1) fun vl s2 G2 p1 v1 e1 ip1 g2 => ?_
  refine hu.run I Ro g2.bare (R.grow (g1.trans g2)) fun vu s3 G3 p2 v2 e2 ip2 g3 => ?_
  obtain ⟨t, rfl⟩ := Rd.str_inv r1
  refine ⟨x, t, p1, p2, rfl, v1, v2, ?_⟩
  have g4 := Grow.push0 (s := s3) g3.bare g3.wd g3.sub { cls := .type "slice", data := .fields #[vl, vu, .none] } s3.toks
  unfold sliceMade
  rw [slicePicked_cut]
  refine post_val_or_str ?_
  have hif : (if ((Option.map (·.1) (Option.none : Option (Int × Tok))).getD 1 == 1 && (slicePicked x p1 p2 Option.none).length == x.length) = true then x else ⟨(pickL x.cps.toList (p1.map (·.1)) (p2.map (·.1))).toArray⟩) = cutS x lo hi := by
    rw [← e1, ← e2]
    split
    · rename_i hc
      have hl : (slicePicked x p1 p2 Option.none).length = clipN (p2.map (·.1)) x.length x.length - clipN (p1.map (·.1)) 0 x.length := by
        have e : slicePicked x p1 p2 Option.none = sliceRange (sliceBounds (p1.map (·.1)) (p2.map (·.1)) Option.none x.length).1 (sliceBounds (p1.map (·.1)) (p2.map (·.1)) Option.none x.length).2.1 1 := rfl
        rw [e, sliceBounds_clip, sliceRange_one]; simp
      simp only [Option.map_none, Option.getD_none, BEq.rfl, Bool.true_and, beq_iff_eq] at hc
      rw [hl] at hc
      have hb : clipN (p2.map (·.1)) x.length x.length ≤ x.length := by
        unfold clipN
        split
        · exact Nat.le_refl _
        · exact clip_le _ _
      have hx : x.cps.toList.length = x.length := by simp [PySem.Str.length]
      have : pickL x.cps.toList (p1.map (·.1)) (p2.map (·.1)) = x.cps.toList := by
        refine ((List.take_sublist _ _).trans (List.drop_sublist _ _)).eq_of_length ?_
        simp only [List.length_take, List.length_drop, hx]
        exact min_cut hc hb
      unfold cutS
      rw [this]
    · rfl
  rw [hif]
  refine ⟨?_, fun t' k' hle => q _ _ _ ((g1.trans (g2.trans (g3.trans g4))).retok B k' hle) (.str _ _)⟩
  show (cutS x lo hi).cps.size ≤ _
  unfold cutS
  rw [List.size_toArray, sizeLine_eq]
  unfold pickL
  simp only [List.length_take, List.length_drop]
  have : x.cps.toList.length = x.length := by simp [PySem.Str.length]
  exact Nat.le_trans (Nat.min_le_right _ _) (Nat.le_trans (Nat.sub_le _ _) (by rw [this]; omega))
end
end
section
open PySem PySem.W PyProof.Rows PySem.Calls
set_option maxRecDepth 100000

section
variable {w : World} {n : Nat} {F : Fd} {σ : List SV} {μ : Mu} {Φ : Out → Prop}

/-- what pyIter gives -/
noncomputable def ItQ (w : World) (A : Around) (xs : List PyData) (s : Shared) (G : GH) (Q : Value → Shared → Prop) : Prop :=
  ∀ I fp wr P St s' G', Grow s G s' G' → Walks prog w A I fp wr xs.length P St → St 0 s'.heap → (∀ b ∈ fp, b < s'.heap.objs.size ∧ b ≠ TB ∧ (s.heap.objs.size ≤ b ∨ G' b ≠ Option.none)) → (∀ b ∈ wr, G' b = Option.none ∧ s.heap.objs.size ≤ b) →
      (∀ i v, P i v → ∃ d, xs[i]? = some d ∧ Rd G' v d) → (I ∈ fp ∧ s.heap.objs.size ≤ I ∧ (∀ i h, St i h → ∀ b ∈ fp, ∃ o, h.get? b = some o) ∧ ∀ i h, St i h → LetOk h I) → Q (.ref I) s'
/-- a call whose result is run over -/
structure Ci (w : World) (n : Nat) (f : Value) (args : List SV) (xs : List PyData) : Prop where
  run :   ∀ (A : Around) (s : Shared) (G : GH) (vs : List Value) (Q E : Value → Shared → Prop), Room n A → Bare s G → Wd s.heap → G.In s.heap → RvA G args vs → ItQ w A xs s G Q → wpAny (model prog w) A (call f vs) (fun x s₁ => wpAny (model prog w) A (pyIter x) Q E s₁) E s
theorem ItQ.after {A : Around} {xs : List PyData} {s s1 : Shared} {G G1 : GH} {Q : Value → Shared → Prop} (q : ItQ w A xs s G Q) (g : Grow s G s1 G1) : ItQ w A xs s1 G1 Q :=
  fun I fp wr P St s' G' g' W st hf hw hP h => q I fp wr P St s' G' (g.trans g') W st (fun b hb => ⟨(hf b hb).1, (hf b hb).2.1, (hf b hb).2.2.imp (Nat.le_trans g.size) id⟩) (fun b hb => ⟨(hw b hb).1, Nat.le_trans g.size (hw b hb).2⟩) hP ⟨h.1, Nat.le_trans g.size h.2.1, h.2.2⟩

theorem Ei.call {fe : Expr} {e : Expr} {es : List Expr} {rs : List SV} {xs : List PyData} {f : Value} {pos : Pos} (h1 : Ev w n F σ fe (.v f)) (h2 : Es w n F σ (e :: es) rs) (h3 : Ci w n f rs xs) (hf : Callee f)
    (h0 : ((e :: es).all notStar) = true := by rfl) (ha : ∀ env, eval (.Call fe (e :: es) [] pos) env = (do callWith pos (← eval fe env) [] (backTo pos (starEach (e :: es) env)) (backToKw pos (keywordEach [] env))) := by intro _; rfl) :
    Ei w n F σ (.Call fe (e :: es) [] pos) xs := .mk fun env A s G Q E I Ro B R q => by
  rw [ha]
  refine wpAny_bind (h1.run env A s G _ _ I Ro B R fun v s1 G1 g1 e1 => ?_)
  cases e1
  refine callWith_of_args hf (starEach_any h0) (evalArgs_es h0 (h2.run env A s1 G1 pos _ _ I Ro g1.bare (R.grow g1) fun vs s2 G2 g2 r2 => ⟨g2.wd, ?_⟩))
  exact h3.run A s2 G2 vs Q E Ro g2.bare g2.wd g2.sub r2 (ItQ.after (s := s) (G := G) q (g1.trans g2))

noncomputable def rangeL (a c : Int) (k : Nat) : List PyData := (List.range k).map fun (i : Nat) => PyData.int (a + (i : Int) * c)
theorem rangeL_len (a c : Int) (k : Nat) : (rangeL a c k).length = k := by simp [rangeL]
theorem range_itq {A : Around} {s : Shared} {G : GH} {Q E : Value → Shared → Prop} {a b c : Int} {t u v : Tok} {r : Addr} {k : Nat} (Ro : Room (n + 1) A) (B : Bare s G) (W : Wd s.heap) (kG : G.In s.heap) (hr : IsRange s.heap r a b c t u v) (hsm : Builtin.Range.small a b c = true) (hk : Builtin.Range.rangeSize a b c = k)
    (q : ItQ w A (rangeL a c k) s G Q) : wpAny (model prog w) A (pyIter (.ref r)) Q E s := by
  refine wpAny_pyIter_range hr hsm ?_
  rw [hk]
  have g := Grow.push0 (s := s) B W kG { cls := .type "range_iterator", data := .fields #[rawInt a, rawInt (k : Nat), rawInt c] } s.toks
  refine q s.heap.objs.size [s.heap.objs.size] [s.heap.objs.size] _ _ _ G g (by rw [rangeL_len]; exact (Walks.range (Ro.hd (by omega)) s.heap.objs.size a c k).bound) ?_ (fun b hb => ?_) (fun b hb => ?_) (fun i v hv => ?_) ⟨List.mem_cons_self, Nat.le_refl _, fun i h st b hb => ?_, fun i h st => ⟨_, _, _, st, rfl, rfl, by decide⟩⟩
  · show IsRangeIter (s.heap.push _) _ _ _ _
    have := Heap.get?_push_size s.heap (o := { cls := .type "range_iterator", data := .fields #[rawInt a, rawInt (k : Nat), rawInt c] }) rfl
    simpa using this
  · rw [List.mem_singleton.mp hb]
    exact ⟨by show _ < (s.heap.push _).objs.size; rw [Heap.size_push]; exact Nat.lt_succ_self _, Nat.ne_of_gt (Nat.lt_of_lt_of_le (by decide) W.size), .inl (Nat.le_refl _)⟩
  · rw [List.mem_singleton.mp hb]
    exact ⟨kG.none (Nat.le_refl _), Nat.le_refl _⟩
  · obtain ⟨hi, t, rfl⟩ := hv
    exact ⟨_, by unfold rangeL; rw [List.getElem?_map, List.getElem?_range hi]; rfl, .int _ _⟩
  · rw [List.mem_singleton.mp hb]
    exact ⟨_, st⟩
theorem rangeSize_up {a b : Int} {k : Nat} (h : k = (b - a).toNat) : Builtin.Range.rangeSize a b 1 = k := by
  rw [rangeSize_one]
  split <;> omega
theorem small_up {a b : Int} (ha : -1000000 ≤ a) (ha' : a ≤ 1000000) (hb : -1000000 ≤ b) (hb' : b ≤ 1000000) : Builtin.Range.small a b 1 = true := by
  unfold Builtin.Range.small
  rw [rangeSize_one]
  simp only [Builtin.Range.rangeFitsLong, Bool.and_eq_true, decide_eq_true_eq, Bool.or_eq_true, beq_iff_eq]
  split <;> simp <;> (repeat' apply And.intro) <;> omega
theorem rangeSize_3 {b : Int} {k : Nat} (h : k = ((b + 2) / 3).toNat) (hb : 0 ≤ b) : Builtin.Range.rangeSize 0 b 3 = k := by
  unfold Builtin.Range.rangeSize
  simp only [show (3 : Int) > 0 by decide, if_true]
  split <;> omega
theorem small_3 {b : Int} (hb : 0 ≤ b) (hb' : b ≤ 1000000) : Builtin.Range.small 0 b 3 = true := by
  unfold Builtin.Range.small
  rw [rangeSize_3 rfl hb]
  simp only [Builtin.Range.rangeFitsLong, Bool.and_eq_true, decide_eq_true_eq, Bool.or_eq_true, beq_iff_eq]
  simp <;> (repeat' apply And.intro) <;> omega
theorem Ci.range1 {b : Int} (k : Nat) (hk : k = b.toNat) (h0 : -1000000 ≤ b) (h1 : b ≤ 1000000) : Ci w (n + 1) (.type "range") [.int b] (rangeL 0 1 k) := .mk fun A s G vs Q E Ro B W kG h q => by
  obtain ⟨v, rfl, r⟩ := h.one
  obtain ⟨t, rfl⟩ := Rd.int_inv r
  refine call_range_1 ?_
  have g := Grow.push0 (s := s) B W kG { cls := .type "range", data := .fields #[.int 0 s.toks, .int b t, .int 1 (s.toks + 1)] } (s.toks + 1 + 1)
  exact range_itq Ro g.bare g.wd g.sub (IsRange.new ..) (small_up (by omega) (by omega) h0 h1) (rangeSize_up (by omega)) (q.after g)
theorem Ci.range2 {a b : Int} (k : Nat) (hk : k = (b - a).toNat) (ha : -1000000 ≤ a) (ha' : a ≤ 1000000) (h0 : -1000000 ≤ b) (h1 : b ≤ 1000000) : Ci w (n + 1) (.type "range") [.int a, .int b] (rangeL a 1 k) := .mk fun A s G vs Q E Ro B W kG h q => by
  obtain ⟨v, v', rfl, r, r'⟩ := h.two
  obtain ⟨t, rfl⟩ := Rd.int_inv r
  obtain ⟨t', rfl⟩ := Rd.int_inv r'
  refine call_range_2 ?_
  have g := Grow.push0 (s := s) B W kG { cls := .type "range", data := .fields #[.int a t, .int b t', .int 1 s.toks] } (s.toks + 1)
  exact range_itq Ro g.bare g.wd g.sub (IsRange.new ..) (small_up ha ha' h0 h1) (rangeSize_up hk) (q.after g)
theorem Ci.range3 {b : Int} (k : Nat) (hk : k = ((b + 2) / 3).toNat) (h0 : 0 ≤ b) (h1 : b ≤ 1000000) : Ci w (n + 1) (.type "range") [.int 0, .int b, .int 3] (rangeL 0 3 k) := .mk fun A s G vs Q E Ro B W kG h q => by
  obtain ⟨v, v', v'', rfl, r, r', r''⟩ := h.three
  obtain ⟨t, rfl⟩ := Rd.int_inv r
  obtain ⟨t', rfl⟩ := Rd.int_inv r'
  obtain ⟨t'', rfl⟩ := Rd.int_inv r''
  refine call_range_3 (by decide) ?_ (.inl (PyProof.noPylong_small (by omega)))
  have g := Grow.push0 (s := s) B W kG { cls := .type "range", data := .fields #[.int 0 t, .int b t', .int 3 t''] } s.toks
  exact range_itq Ro g.bare g.wd g.sub (IsRange.new ..) (small_3 h0 h1) (rangeSize_3 hk h0) (q.after g)

/-- a run over a tuple -/
theorem Ei.tuple {e : Expr} {xs : List PyData} (h : Ev w (n + 1) F σ e (.d (.tuple xs))) : Ei w (n + 1) F σ e xs := .mk fun env A s G Q E I Ro B R q =>
  h.run env A s G _ E I Ro B R fun v s1 G1 g1 r1 => by
    obtain ⟨a, items, rfl, L, ra⟩ := Rd.tuple_inv g1.sub r1
    have hlt : a < s1.heap.objs.size := let ⟨_, e, _⟩ := L; Heap.lt_size e
    refine wpAny_pyIter_tuple L ?_
    have g2 := Grow.push0 (s := s1) g1.bare g1.wd g1.sub { cls := .type "tuple_iterator", data := .fields #[.ref a, .int 0 0] } s1.toks
    have hz : items.size = xs.length := by rw [← ra.length]; simp
    refine q s1.heap.objs.size _ _ _ _ _ G1 (g1.trans g2) (hz ▸ Walks.tuple (Ro.hd (by omega)) s1.heap.objs.size a (Nat.ne_of_lt hlt) items) ⟨⟨_, Heap.get?_push_size _ rfl, rfl, rfl⟩, L.push _⟩ (fun b hb => ?_) (fun b hb => ?_) (fun i v hv => ?_) ⟨List.mem_cons_self, g1.size, fun i h st b hb => ?_, fun i h st => let ⟨⟨o, e, c, d⟩, _⟩ := st; ⟨o, _, _, e, c, d, by decide⟩⟩
    · show b < (s1.heap.push _).objs.size ∧ _
      rw [Heap.size_push]
      rcases List.mem_cons.mp hb with rfl | hb
      · exact ⟨Nat.lt_succ_self _, Nat.ne_of_gt (Nat.lt_of_lt_of_le (by decide) g1.wd.size), .inl g1.size⟩
      · rw [List.mem_singleton.mp hb]
        exact ⟨Nat.lt_succ_of_lt hlt, let ⟨_, e, _, _, d⟩ := L; g1.wd.ne e (seq_ne d), .inr (by obtain ⟨o, e⟩ := r1.held; rw [e]; nofun)⟩
    · rw [List.mem_singleton.mp hb]
      exact ⟨g1.sub.none (Nat.le_refl _), g1.size⟩
    · obtain ⟨d, hd, rd⟩ := ra.getV (i := i) (v := v) (by simpa using hv)
      exact ⟨d, hd, rd⟩
    · rcases List.mem_cons.mp hb with rfl | hb
      · obtain ⟨_, e, _⟩ := st.1; exact ⟨_, e⟩
      · rw [List.mem_singleton.mp hb]; obtain ⟨_, e, _⟩ := st.2; exact ⟨_, e⟩
/-- a run over bytes -/
noncomputable def byL (b : Array UInt8) : List PyData := b.toList.map fun c => PyData.int (c.toNat : Int)
theorem byL_len (b : Array UInt8) : (byL b).length = b.size := by simp [byL]
theorem Ei.bytes {e : Expr} {b : Array UInt8} (h : Ev w (n + 1) F σ e (.b b)) : Ei w (n + 1) F σ e (byL b) := .mk fun env A s G Q E I Ro B R q =>
  h.run env A s G _ E I Ro B R fun v s1 G1 g1 r1 => by
    obtain ⟨t, rfl⟩ := r1
    refine KBw.pyIter_bytes ?_
    have g2 := Grow.push0 (s := s1) g1.bare g1.wd g1.sub { cls := .type "bytes_iterator", data := .fields #[.bytes b t, .int 0 0] } s1.toks
    refine q s1.heap.objs.size [s1.heap.objs.size] [s1.heap.objs.size] _ _ _ G1 (g1.trans g2) (by rw [byL_len]; exact KBw.walks (Ro.hd (by omega)) s1.heap.objs.size b t) (show KBw.IsBytesIter (s1.heap.push _) _ _ _ _ from ⟨_, Heap.get?_push_size _ rfl, rfl, rfl⟩) (fun c hb => ?_) (fun c hb => ?_) (fun i v hv => ?_) ⟨List.mem_cons_self, g1.size, fun i h st c hb => ?_, fun i h (st : KBw.IsBytesIter h s1.heap.objs.size b t i) => let ⟨o, e, c, d⟩ := st; ⟨o, _, _, e, c, d, by decide⟩⟩
    · show c < (s1.heap.push _).objs.size ∧ _
      rw [Heap.size_push, List.mem_singleton.mp hb]
      exact ⟨Nat.lt_succ_self _, Nat.ne_of_gt (Nat.lt_of_lt_of_le (by decide) g1.wd.size), .inl g1.size⟩
    · rw [List.mem_singleton.mp hb]
      exact ⟨g1.sub.none (Nat.le_refl _), g1.size⟩
    · obtain ⟨c, u, hc, rfl⟩ := hv
      refine ⟨_, ?_, .int _ _⟩
      unfold byL
      rw [List.getElem?_map, Array.getElem?_toList, hc]; rfl
    · rw [List.mem_singleton.mp hb]; obtain ⟨o, e, _⟩ := st; exact ⟨o, e⟩

/-! truths -/
theorem Ts.bool {b : Bool} : Ts w n (.d (.bool b)) b := .mk fun A s G x Q E Ro B W k h q => by
  cases Rd.bool_inv h
  exact wpAny_truthy_bool (q s G (.refl B W k))
theorem Ts.str {x : Str} (hx : x.length ≤ 1000000) : Ts w n (.str x) ((x.length : Int) != 0) := .mk fun A s G _ Q E Ro B W k h q => by
  obtain ⟨t, rfl⟩ := Rd.str_inv h
  exact P.truthy_str (by omega) (q _ G (.tok B W k _))
theorem Ts.list {l : List PyData} (hl : l.length ≤ 1000000) : Ts w n (.list l) (!l.isEmpty) := .mk fun A s G _ Q E Ro B W k h q => by
  obtain ⟨a, items, rfl, L, _, ra⟩ := Rd.list_inv k h
  have z1 : items.size = l.length := by rw [← ra.length]; simp
  have z2 : items.isEmpty = l.isEmpty := by
    rw [Array.isEmpty, z1]
    cases l <;> rfl
  exact wpAny_truthy_list L (by omega) (by rw [z2]; exact q _ G (.tok B W k _))

/-! a comprehension, its catch computed -/
noncomputable def frees (scope : Scope) : List Str := (scope.names.filter fun p => p.2 == .free).map (·.1)
noncomputable def cF (F : Fd) (scope : Scope) (x : Str) : Fd := ⟨relS scope F.sc, x :: frees scope, (x :: frees scope).map fun nm => ((relS scope F.sc).names.lookup nm).getD .local, 0, Option.none⟩
noncomputable def ixK (x : Str) : List Str → List NameKind → Option NameKind
  | y :: ys, k :: ks => if x == y then some k else ixK x ys ks
  | _, _ => Option.none
noncomputable def cChk (F : Fd) (scope : Scope) (x : Str) : Bool := compOk scope x ((scope.names.lookup x).getD .local) (frees scope) && (cF F scope x).ok && ((frees scope).map fun nm => ((relS scope F.sc).names.lookup nm).getD .local).all (· != .local) &&
  (frees scope).all (fun nm => match ixK nm F.vars F.kinds with | some k => k != .local | Option.none => false) && ((relS scope F.sc).names.lookup x == scope.names.lookup x)
noncomputable def cS (F : Fd) (σ : List SV) (scope : Scope) : List SV := (frees scope).map fun nm => (lookSV nm F.vars F.kinds σ).getD .u
theorem cCaps (hl : F.vars.length ≤ σ.length) : ∀ {names : List Str}, names.all (fun nm => match ixK nm F.vars F.kinds with | some k => k != .local | Option.none => false) = true → Caps F σ names (names.map fun nm => (lookSV nm F.vars F.kinds σ).getD .u)
  | [], _ => .nil
  | nm :: names, h => by
    rw [List.all_cons, Bool.and_eq_true] at h
    have : ∀ {xs : List Str} {ks : List NameKind} {rs : List SV} {k : NameKind}, ixK nm xs ks = some k → xs.length ≤ rs.length → ∃ (i : Nat) (r : SV), xs[i]? = some nm ∧ ks[i]? = some k ∧ rs[i]? = some r ∧ lookSV nm xs ks rs = some r := by
      intro xs
      induction xs with
      | nil => intro ks rs k h; simp [ixK] at h
      | cons y ys ih =>
        intro ks rs k h hl
        cases ks with
        | nil => simp [ixK] at h
        | cons k' ks =>
          cases rs with
          | nil => simp at hl
          | cons r rs =>
            unfold ixK at h
            unfold lookSV
            by_cases q : nm == y
            · rw [if_pos q] at h ⊢; cases h
              exact ⟨0, r, by rw [eq_of_beq q]; rfl, rfl, rfl, rfl⟩
            · rw [if_neg q] at h ⊢
              obtain ⟨i, r', a, b, c, d⟩ := ih h (by simpa using hl)
              exact ⟨i + 1, r', by simpa using a, by simpa using b, by simpa using c, d⟩
    revert h
    split
    · rename_i k e
      intro h
      obtain ⟨i, r, a, b, c, d⟩ := this e hl
      rw [List.map_cons, d]
      exact .cons i a b (by simpa using h.1) c (cCaps hl h.2)
    · intro h; cases h.1
theorem Lc.of {elt iter : Expr} {x : Str} {ifs : List Expr} {scope : Scope} {out : List PyData} (rs : List SV) (xs : List PyData) (p : PyData → Bool) (f : PyData → PyData) (hrs : cS F σ scope = rs) (hc : cChk F scope x = true) (hl : F.vars.length ≤ σ.length) (hi : Ei w n F σ iter xs) (hsz : xs.length ≤ 1000000)
    (ht : ∀ d ∈ xs, Ifs w n (cF F scope x) (.d d :: rs) ifs (p d)) (he : ∀ d ∈ xs, p d = true → Ev w n (cF F scope x) (.d d :: rs) elt (.d (f d))) (ho : out = (xs.filter p).map f) : Lc w n F σ elt iter x ifs scope out := by
  subst hrs
  simp only [cChk, Bool.and_eq_true] at hc
  obtain ⟨⟨⟨⟨h1, h2⟩, h3⟩, h4⟩, h5⟩ := hc
  refine ⟨cF F scope x, frees scope, cS F σ scope, _, _, xs, p, f, hi, hsz, h1, ?_, h2, ?_, h3, cCaps hl h4, ht, he, ho⟩
  · unfold cF
    rw [List.map_cons, eq_of_beq h5]
  · simp
end
end
section
open PySem PySem.W PyProof.Rows PySem.Calls
set_option maxRecDepth 100000
section
variable {w : World} {n : Nat} {F : Fd} {σ : List SV} {μ : Mu} {Φ : Out → Prop}
/-- expressions that read as data -/
inductive Ds (w : World) (n : Nat) (F : Fd) (σ : List SV) : List Expr → List PyData → Prop
  | nil : Ds w n F σ [] []
  | cons {e es d ds} : Ev w n F σ e (.d d) → Ds w n F σ es ds → notStar e = true → Ds w n F σ (e :: es) (d :: ds)
theorem Ds.es {es : List Expr} {ds : List PyData} (h : Ds w n F σ es ds) : Es w n F σ es (dts ds) := by
  induction h with
  | nil => exact .nil
  | cons h _ hn ih => exact .cons h ih hn
theorem Ev.ls {es : List Expr} {ds : List PyData} {pos : Pos} (h : Ds w n F σ es ds) (hl : es.length ≤ 1000000 := by decide) : Ev w n F σ (.List es pos) (.d (.list ds)) := .list h.es (by
  have : ∀ {es ds}, Ds w n F σ es ds → es.length = ds.length := by intro es ds h; induction h <;> simp_all
  rw [← this h]; exact hl)
theorem Ev.tp {es : List Expr} {ds : List PyData} {k : Nat} {pos : Pos} (h : Ds w n F σ es ds) (hl : es.length ≤ 1000000 := by decide) : Ev w n F σ (.Tuple es k pos) (.d (.tuple ds)) := .tuple h.es (by
  have : ∀ {es ds}, Ds w n F σ es ds → es.length = ds.length := by intro es ds h; induction h <;> simp_all
  rw [← this h]; exact hl)
theorem Bs.mulS {a b : Int} (ha : a.natAbs < 2 ^ 64) : Bs w n .Mult (.int a) (.int b) (.int (a * b)) := Bs.mul (.of_left (PySem.intBits_le_iff.mpr ha))
/-- a slice of a value -/
inductive Sl : SV → Option Int → Option Int → SV → Prop
  | list {xs lo hi} : xs.length ≤ 1000000 → Sl (.list xs) lo hi (.list (pickL xs lo hi))
  | str {x lo hi} : x.length ≤ 1000000 → Sl (.str x) lo hi (.str (cutS x lo hi))
theorem Ev.slice {e : Expr} {lower upper : Option Expr} {p pos : Pos} {r r' : SV} {lo hi : Option Int} (h : Ev w n F σ e r) (hl : Pt w n F σ lower lo) (hu : Pt w n F σ upper hi) (hs : Sl r lo hi r')
    (ht : ∀ o r, letTemporaryGo e o r = pure () := by intro _ _; rfl) : Ev w n F σ (.Subscript e (.Slice lower upper Option.none p) pos) r' := by
  cases hs with
  | list z => exact .sliceL h hl hu z ht
  | str z => exact .sliceS h hl hu z ht
theorem Pt.no : Pt w n F σ Option.none Option.none := trivial
theorem Pt.yes {e : Expr} {i : Int} (h : Ev w n F σ e (.int i)) : Pt w n F σ (some e) (some i) := h

end
section
variable {w : World} {n : Nat} {F : Fd} {σ : List SV} {μ : Mu} {Φ : Out → Prop}
/-- the heap grows, with no word on its size -/
theorem St.side {s₀ : Shared} {G₀ : GH} {env : Env} {s : Shared} {G : GH} (T : St s₀ G₀ F σ env s G) (O : Own s₀ env s.heap G μ) (I : EnvIs F env) (Fr : Fresh s₀ env) {h' : Heap} (t : Nat) (hk : ∀ b o, s.heap.get? b = some o → h'.get? b = some o) (ht : s.toks ≤ t := by omega) :
    St s₀ G₀ F σ env { s with heap := h', toks := t } G ∧ Own s₀ env h' G μ ∧ ∀ μ', Frm env μ' s G μ' { s with heap := h', toks := t } G := by
  obtain ⟨m, N, S⟩ := T.rel.slots
  have hN := N.at' fun o e => hk _ o e
  have g : Grow s₀ G₀ { s with heap := h', toks := t } G := T.grow.upd (X := []) (fun b hb => nomatch hb) (fun b o _ e => hk b o e) (Nat.le_of_lt (Nat.lt_of_le_of_lt Fr.L hN.lt)) (Nat.le_of_lt (Nat.lt_of_le_of_lt I.low hN.lt))
  refine ⟨⟨g, ⟨g.wd, g.sub, m, hN, Slots.keepC (fun p hp o e => hk _ o e) S⟩, T.fl, T.pL, fun p hp => ⟨(T.pC p hp).1, (T.pC p hp).2.1, let ⟨_, _, o, e⟩ := T.pC p hp; ⟨o, hk _ o e⟩⟩⟩, ⟨O.nd, fun p hp => ?_⟩, fun μ' => ⟨fun b o _ _ _ _ e => hk b o e, .refl _, fun _ h => .inl h, fun b e => ?_, fun _ h _ _ => h⟩⟩
  · obtain ⟨z1, z2, z3, ⟨ys, d, e⟩, z4, z5⟩ := O.at_ p hp
    exact ⟨z1, z2, z3, ⟨ys, d.at fun o e => hk _ o e, e⟩, z4, z5⟩
  · cases e' : s.heap.get? b with
    | none => rfl
    | some o => have := hk b o e'; rw [show h'.get? b = _ from e] at this; cases this
theorem Tg.pair {i j : Nat} {x y : Str} {p1 p2 p : Pos} {kk : Nat} {a b : PyData} (hx : ixOf x F.vars = some i) (hk : storable x F.vars F.kinds = true) (hx2 : ixOf y F.vars = some j) (hk2 : storable y F.vars F.kinds = true) :
    Tg w (n + 1) F (.Tuple [.Name x p1, .Name y p2] kk p) (.d (.tuple [a, b])) σ ((σ.set i (.d a)).set j (.d b)) := .mk fun s₀ G₀ env A s G μ v Q E I Fr Ro T O r q => by
  obtain ⟨t, items, rfl, L, ra⟩ := Rd.tuple_inv T.rel.sub r
  have hz : items.size = 2 := by have := ra.length; simpa using this
  refine assign_Tuple_tuple (Ro.hd (by omega)) L (by rw [hz]; rfl) (by rfl) fun h' hx' => ?_
  obtain ⟨u1, u2, e⟩ : ∃ u1 u2, items.toList = [u1, u2] := by
    match h : items.toList, ra.length with
    | [u1, u2], _ => exact ⟨u1, u2, rfl⟩
  rw [e] at ra ⊢
  obtain ⟨r1, r2⟩ := ra.uncons
  obtain ⟨r2, _⟩ := r2.uncons
  obtain ⟨T1, O1, f1⟩ := T.side O I Fr (h' := h') s.toks (fun b o e => hx' b o (Nat.ne_of_lt (Heap.lt_size e)) e)
  refine assignInOrder_cons (wpAny_assign_Name (T1.storeN I Fr O1 hx hk (r := .d a) r1 fun s2 T2 O2 f2 => ?_))
  refine assignInOrder_cons (wpAny_assign_Name (T2.storeN I Fr O2 hx2 hk2 (r := .d b) r2 fun s3 T3 O3 f3 => ?_))
  exact assignInOrder_nil (q s3 G T3 O3 ((f1 _).trans ((f2 _).trans (f3 _))))
end
section
variable {w : World} {n : Nat} {F : Fd} {σ : List SV} {μ : Mu} {Φ : Out → Prop}
theorem Ev.neg {e : Expr} {i : Int} {pos : Pos} (h : Ev w n F σ e (.int i)) : Ev w n F σ (.UnaryOp .USub e pos) (.int (-i)) := .mk fun env A s G Q E I Ro B R q =>
  wpAny_UnaryOp (h.run env A s G _ E I Ro B R fun v s1 G1 g1 r1 => by
    obtain ⟨t, rfl⟩ := Rd.int_inv r1
    exact P.neg_int (q _ _ _ (g1.trans (.tok g1.bare g1.wd g1.sub _)) (.int _ _)))
end
end
local macro_rules | `(tactic| walk_at "mine_ev") => `(tactic| (try ((show (_ : Prop)); first
  | (with_reducible first | exact Ev.int | exact Ev.str | exact Ev.bool | exact Ev.none | exact Pt.no | exact Es.nil | exact Ds.nil | exact Callee.type _ | exact Callee.builtin _ | exact TyIs.str | exact TyIs.list | exact Tr.and_nil | exact Tr.or_nil | exact Bs.add | exact Bs.sub | exact Bs.and | exact Bs.or | exact Ips.add | exact Ms.eqI | exact Ms.neI | exact Ms.ltI | exact Ms.gtI | exact Ms.geI | exact Ms.eqS | exact Ms.neS | exact Ms.gtS | exact Ms.notinS | exact Ts.bool)
  | exact Ev.nm (by rfl) rfl
  | exact Ev.blt (by decide +kernel) (by rfl) (by decide +kernel)
  | exact Ev.glob (by decide +kernel) (by rfl) (by decide +kernel)
  | exact Callee.fn (by decide +kernel)
  | ((with_reducible first | refine' Ev.bin ?_ ?_ ?_ | refine' Ev.ite ?_ (fun _ => ?_) (fun _ => ?_) | refine' Pt.yes ?_ | refine' Sl.list ?_ | refine' Sl.str ?_ | refine' Tr.and ?_ (fun _ => ?_) | refine' Tr.or ?_ (fun _ => ?_) | refine' Tr.not ?_ | refine' Bs.mulS ?_ | refine' Bs.fdiv ?_ ?_ | refine' Bs.mod ?_ | refine' Bs.pow ?_ ?_ ?_ | refine' Bs.shl ?_ ?_ ?_ | refine' Bs.shr ?_ | refine' Bs.cat ?_ | refine' Bs.catL ?_ | refine' Bs.rep ?_ ?_ ?_ | refine' Ips.cat ?_ | refine' Ms.notinL ?_ ?_ ?_ | refine' Ms.eqD ?_ ?_ ?_ | refine' Ms.neD ?_ ?_ ?_ | refine' Is.list ?_ ?_ ?_ | refine' Is.str ?_ ?_ ?_ | refine' Ts.str ?_ | refine' Ts.list ?_ | refine' Cs.lenL ?_ | refine' Cs.lenS ?_ | refine' Cs.chr ?_ ?_ | refine' Cs.max2 | refine' Cs.min2 | refine' Cs.ord) <;> walk_at "mine_ev")
  | ((first | refine' Ev.ls ?_ | refine' Ev.tp ?_ | refine' Ev.neg ?_ | refine' Ev.slice ?_ ?_ ?_ ?_ | refine' Ev.item ?_ ?_ ?_ | refine' Ev.meth PySem.F.plainAttrs_str PySem.F.slot_str_join PySem.F.type_str_join ?_ ?_ ?_ ?_ | refine' Ev.call ?_ ?_ ?_ ?_ | refine' Ev.cmp ?_ ?_ ?_ | refine' Ei.call ?_ ?_ ?_ ?_ | refine' Es.cons ?_ ?_ | refine' Ds.cons ?_ ?_ (by rfl) | refine' Tr.cmp ?_ ?_ ?_ | refine' Tr.plain ?_ ?_) <;> walk_at "mine_ev")
  | omega
  | (simp only [List.length_map]; omega)
  | decide)))

section
open PySem PySem.W PyProof.Rows PySem.Calls
set_option maxRecDepth 100000
set_option maxHeartbeats 4000000
noncomputable def fdOf (i : Nat) (vars : List Str) : Fd := ⟨fnScope i, vars, vars.map fun x => ((fnScope i).names.lookup x).getD .local, 0, Option.none⟩
noncomputable def F22 : Fd := fdOf 22 ["x", "size"]
theorem F22_ok : F22.ok = true := by decide +kernel
theorem F22_plain : F22.plain 2 = true := by decide +kernel
noncomputable def oct1 (x : Int) (k : Nat) : PyData := ([.int 0, .int 97, .int 98, .int 255] : List PyData).getD (x / 4 ^ k % 4).toNat .none
noncomputable def octs (x : Int) (size : Nat) : List PyData := (List.range size).map (oct1 x)
theorem get4 (z : Int) {a b c d : PyData} : [a, b, c, d][(z % 4).toNat]? = some ([a, b, c, d].getD (z % 4).toNat .none) := by
  rcases mod4 z with h | h | h | h <;> rw [h] <;> rfl
section
variable {w : World} {n : Nat}
theorem body22 {x : Int} {size : Nat} (hs : size ≤ 10) : Xs w (n + 1) F22 [.int x, .int size] [] (fnBody 22) (FnEnd (.list (octs x size))) := by
  refine Xs.cons (X1.ret (Em.of (Ev.comp (Lc.of [.int x] (rangeL 0 1 size) (fun _ => true) (fun d => match d with | .int k => oct1 x k.toNat | _ => .none) (by rfl) (by decide +kernel) (Nat.le_refl _) ?_ (by rw [rangeL_len]; omega) (fun _ _ => .nil) ?_ ?_))) rfl)
  · walk_at "mine_ev"
    exact Ci.range1 size (by omega) (by omega) (by omega)
  · intro d hd _
    obtain ⟨k, hk, rfl⟩ := List.mem_map.mp hd
    have hk := List.mem_range.mp hk
    have hp : (0 : Int) < 4 ^ (0 + (k : Int) * 1).toNat := Int.pow_pos (by decide)
    have hp2 : (4 : Int) ^ (0 + (k : Int) * 1).toNat ≤ 4 ^ 10 := by
      have : (4 : Nat) ^ (0 + (k : Int) * 1).toNat ≤ 4 ^ 10 := Nat.pow_le_pow_right (by decide) (by omega)
      exact_mod_cast this
    walk_at "mine_ev"
    show _ = some (oct1 x (0 + (k : Int) * 1).toNat)
    unfold oct1
    exact get4 _
  · unfold octs rangeL
    rw [List.filter_eq_self.mpr (fun _ _ => rfl), List.map_map]
    refine List.map_congr_left fun k hk => ?_
    simp
theorem cs22 {x : Int} {size : Nat} (hs : size ≤ 10) : Cs w (n + 2) (.ref 125) [.int x, .int size] (.list (octs x size)) :=
  Cs.def (F := F22) (k := 2) (FnAt.def (i := 22) (P := ["x", "size"]) (by decide) rfl (fun pm cd doc vs hv => by
    obtain ⟨a, b, rfl⟩ := len2 hv
    with_unfolding_all rfl)) rfl rfl rfl F22_ok F22_plain (body22 hs)
end
end
section
open PySem PySem.W PyProof.Rows PySem.Calls
set_option maxRecDepth 100000
set_option maxHeartbeats 4000000
noncomputable def F28 : Fd := fdOf 28 ["octets", "signs", "text", "k", "three", "whole", "four"]
theorem F28_ok : F28.ok = true := by decide +kernel
theorem F28_plain : F28.plain 1 = true := by decide +kernel
noncomputable def signs : Str := "ABCDEFGHIJKLMNOPQRSTUVWXYZabcdefghijklmnopqrstuvwxyz0123456789+/"
noncomputable def sgn (z : Int) : Str := ⟨#[signs.cps.getD z.toNat 0]⟩
noncomputable def whole3 (t : List Int) : Int := ((List.range t.length).map fun p => t.getD p 0 * 256 ^ (2 - p)).sum
noncomputable def four (z : Int) : Str := Txt.join "" ((List.range 4).map fun p => sgn (z / 64 ^ (3 - p) % 64))
noncomputable def bit3 (t : List Int) : Str := cutS (four (whole3 t)) Option.none (some (t.length + 1)) ++ Txt.mul "=" (3 - t.length)
noncomputable def bitsTo (ns : List Int) : Nat → Str
  | 0 => ""
  | j + 1 => bitsTo ns j ++ bit3 (pickL ns (some (3 * j : Int)) (some (3 * j + 3 : Int)))
noncomputable def bits (ns : List Int) : Str := bitsTo ns ((ns.length + 2) / 3)
theorem pickL_map {α β : Type} (f : α → β) (xs : List α) (lo hi : Option Int) : pickL (xs.map f) lo hi = (pickL xs lo hi).map f := by simp [pickL]
section
variable {w : World} {n : Nat}
theorem rangeL_get {a c : Int} {k j : Nat} {d : PyData} (h : (rangeL a c k)[j]? = some d) : j < k ∧ d = .int (a + j * c) := by
  have hj : j < k := by
    rcases Nat.lt_or_ge j k with h' | h'
    · exact h'
    · rw [List.getElem?_eq_none (by rw [rangeL_len]; exact h')] at h; cases h
  unfold rangeL at h
  rw [List.getElem?_map, List.getElem?_range hj] at h
  cases h
  exact ⟨hj, rfl⟩
theorem pickL_len_le {α : Type} (xs : List α) (lo hi : Option Int) : (pickL xs lo hi).length ≤ xs.length := by
  unfold pickL; rw [List.length_take, List.length_drop]; exact Nat.le_trans (Nat.min_le_right _ _) (Nat.sub_le _ _)
theorem pickL_mem {α : Type} {xs : List α} {lo hi : Option Int} {x : α} (h : x ∈ pickL xs lo hi) : x ∈ xs := List.mem_of_mem_drop (List.mem_of_mem_take h)
theorem getI {t : List Int} {p : Nat} (h : p < t.length) : (t.map PyData.int)[(p : Int).toNat]? = some (.int (t.getD (p : Int).toNat 0)) := by
  simp [h]
theorem smallD {t : List Int} {p : Nat} (h : ∀ i ∈ t, 0 ≤ i ∧ i < 256) : (t.getD p 0).natAbs < 2 ^ 64 := by
  rw [List.getD_eq_getElem?_getD]
  cases e : t[p]? with
  | none => decide
  | some x => have := h x (List.mem_of_getElem? e); simp only [Option.getD_some]; omega
theorem lcI {a c : Int} {k : Nat} {g : Nat → Int} {f : PyData → PyData} (h : ∀ p, p < k → PyData.int (g p) = f (.int (a + (p : Int) * c))) : ((List.range k).map g).map PyData.int = ((rangeL a c k).filter fun _ => true).map f := by
  rw [List.filter_eq_self.mpr (fun _ _ => rfl)]
  unfold rangeL
  rw [List.map_map, List.map_map]
  exact List.map_congr_left fun p hp => h p (List.mem_range.mp hp)
theorem lcS {a c : Int} {k : Nat} {g : Nat → Str} {f : PyData → PyData} (h : ∀ p, p < k → PyData.str (g p) = f (.int (a + (p : Int) * c))) : ((List.range k).map g).map PyData.str = ((rangeL a c k).filter fun _ => true).map f := by
  rw [List.filter_eq_self.mpr (fun _ _ => rfl)]
  unfold rangeL
  rw [List.map_map, List.map_map]
  exact List.map_congr_left fun p hp => h p (List.mem_range.mp hp)
theorem whole3_lt {t : List Int} (hl : t.length ≤ 3) (hr : ∀ i ∈ t, 0 ≤ i ∧ i < 256) : 0 ≤ whole3 t ∧ whole3 t < 16777216 := by
  match t, hl, hr with
  | [], _, _ => decide
  | [a], _, hr => have := hr a (by simp); simp [whole3]; omega
  | [a, b], _, hr => have := hr a (by simp); have := hr b (by simp); simp [whole3, List.range_succ]; omega
  | [a, b, c], _, hr => have := hr a (by simp); have := hr b (by simp); have := hr c (by simp); simp [whole3, List.range_succ]; omega
theorem signs_at : ∀ z : Nat, z < 64 → signs.cps[z]? = some (signs.cps.getD z 0) := by decide +kernel
theorem is_sgn {z : Int} (h0 : 0 ≤ z) (h1 : z < 64) : Is w (n + 1) (.str signs) (.int z) (.str (sgn z)) := by
  refine Is.str ?_ (by omega) (by omega)
  have e : signs.length = 64 := by decide +kernel
  rw [show seqIndex? z signs.length = some z.toNat from seq_ix h0 (by rw [e]; exact h1)]
  exact signs_at z.toNat (by omega)
theorem cutS_len (x : Str) (lo hi : Option Int) : (cutS x lo hi).length ≤ x.length := by
  have := pickL_len_le x.cps.toList lo hi
  have e : (cutS x lo hi).length = (pickL x.cps.toList lo hi).length := by simp [cutS, PySem.Str.length]
  have e2 : x.cps.toList.length = x.length := by simp [PySem.Str.length]
  omega
theorem foldl_app_len (a : Array Nat) : ∀ (k : Nat) (acc : Array Nat), ((List.replicate k a).foldl (· ++ ·) acc).size = acc.size + k * a.size
  | 0, acc => by simp
  | k + 1, acc => by
    rw [List.replicate_succ, List.foldl_cons, foldl_app_len a k, Array.size_append, Nat.succ_mul]; omega
theorem mul_len (x : Str) (i : Int) : (Txt.mul x i).length ≤ x.length * i.toNat := by
  unfold Txt.mul
  split
  · exact Nat.zero_le _
  · split
    · rename_i h1 h2
      have : 1 ≤ i.toNat := by omega
      exact Nat.le_mul_of_pos_right _ this
    · show ((List.replicate i.toNat x.cps).foldl (· ++ ·) #[]).size ≤ _
      rw [foldl_app_len, Nat.mul_comm]
      exact Nat.le_of_eq (by simp [PySem.Str.length])
theorem join4 (f : Nat → Int) : (((List.range 4).map fun p => sgn (f p)).map (·.length)).sum + ((List.range 4).map fun p => sgn (f p)).length * ("" : Str).length ≤ 1000000 := by
  have h : ∀ z, (sgn z).length = 1 := fun _ => rfl
  have : ("" : Str).length = 0 := by decide
  rw [this]
  simp [List.range_succ, h]
theorem four_len (z : Int) : (four z).length = 4 := by
  unfold four
  simp only [List.range_succ, List.range_zero, List.nil_append, List.cons_append, List.map_cons, List.map_nil]
  rfl
theorem bitsTo_len (ns : List Int) : ∀ j, (bitsTo ns j).length ≤ 7 * j
  | 0 => Nat.zero_le _
  | j + 1 => by
    have := bitsTo_len ns j
    show (bitsTo ns j ++ bit3 _).length ≤ _
    rw [PySem.Str.length_append]
    unfold bit3
    rw [PySem.Str.length_append]
    have h1 := cutS_len (four (whole3 (pickL ns (some (3 * j : Int)) (some (3 * j + 3 : Int))))) Option.none (some ((pickL ns (some (3 * j : Int)) (some (3 * j + 3 : Int))).length + 1 : Int))
    have h2 := mul_len "=" (3 - ((pickL ns (some (3 * j : Int)) (some (3 * j + 3 : Int))).length : Int))
    rw [four_len] at h1
    have leq : ("=" : Str).length = 1 := by decide
    rw [leq] at h2
    omega
theorem body28 {ns : List Int} (hl : ns.length ≤ 10) (hr : ∀ i ∈ ns, 0 ≤ i ∧ i < 256) : Xs w (n + 1) F28 [.list (ns.map .int), .u, .u, .u, .u, .u, .u] [] (fnBody 28) (FnEnd (.str (bits ns))) := by
  (refine' Xs.cons (X1.assign (by rfl) (by decide +kernel) (Em.of ?ea1) ?ka1); (case' ea1 => walk_at "mine_ev"); (case' ka1 => try simp only [List.set_cons_succ, List.set_cons_zero]); rotate_left)
  (refine' Xs.cons (X1.assign (by rfl) (by decide +kernel) (Em.of ?ea2) ?ka2); (case' ea2 => walk_at "mine_ev"); (case' ka2 => try simp only [List.set_cons_succ, List.set_cons_zero]); rotate_left)
  refine Xs.cons (X1.for (xs := rangeL 0 3 ((ns.length + 2) / 3)) ?_ (fun j σ μ => μ = [] ∧ ∃ a b c d, σ = [.list (ns.map .int), .str signs, .str (bitsTo ns j), a, b, c, d]) ⟨rfl, _, _, _, _, rfl⟩ ?_ ?_)
  · walk_at "mine_ev"
    exact Ci.range3 _ (by simp only [List.length_map]; rfl) (by simp only [List.length_map]; omega) (by simp only [List.length_map]; omega)
  · rintro j σ μ d hd ⟨rfl, a, b, c, e, rfl⟩
    obtain ⟨hj, rfl⟩ := rangeL_get hd
    refine ⟨_, Tg.name (by rfl) (by decide +kernel), ?_⟩
    refine Xs.cons (X1.assign (r := .list ((pickL ns (some (3 * j : Int)) (some (3 * j + 3 : Int))).map .int)) (by rfl) (by decide +kernel) (Em.of ?_) ?_)
    · rw [← pickL_map, show (3 * j : Int) = 0 + j * 3 by omega]
      walk_at "mine_ev"
    generalize ht : pickL ns (some (3 * j : Int)) (some (3 * j + 3 : Int)) = t
    have htl : t.length ≤ 3 := by
      rw [← ht]
      unfold pickL
      rw [show clipN (some (3 * (j : Int))) 0 ns.length = min (3 * j) ns.length from clip_nat (3 * j) _, show clipN (some (3 * (j : Int) + 3)) ns.length ns.length = min (3 * j + 3) ns.length from clip_nat (3 * j + 3) _, List.length_take]
      exact Nat.le_trans (Nat.min_le_left _ _) (min_step (3 * j) ns.length 3)
    have htr : ∀ i ∈ t, 0 ≤ i ∧ i < 256 := fun i hi => hr i (by rw [← ht] at hi; exact pickL_mem hi)
    refine' Xs.cons (X1.assign (by rfl) (by decide +kernel) (Em.of (Ev.call (rs := [.list (((List.range t.length).map fun p => t.getD p 0 * 256 ^ (2 - p)).map .int)]) (f := .builtin "sum") ?q1 (.cons (Ev.comp (Lc.of [.list (t.map .int)] (rangeL 0 1 t.length) (fun _ => true) (fun d => match d with | .int p => .int (t.getD p.toNat 0 * 256 ^ (2 - p).toNat) | _ => .none) (by rfl) (by decide +kernel) (Nat.le_refl _) ?q2 (by rw [rangeL_len]; omega) (fun _ _ => .nil) ?q3 ?q4)) .nil) Cs.sum (Callee.builtin _))) ?k)
    case' q1 => walk_at "mine_ev"
    case q2 =>
      walk_at "mine_ev"
      exact Ci.range1 _ (by simp only [List.length_map]; omega) (by simp only [List.length_map]; omega) (by simp only [List.length_map]; omega)
    case q3 =>
      intro d hd _
      obtain ⟨p, hp, rfl⟩ := List.mem_map.mp hd
      have hp := List.mem_range.mp hp
      rw [show (0 + (p : Int) * 1) = p by omega]
      walk_at "mine_ev"
      · exact getI hp
      · exact smallD htr
    case q4 => exact lcI fun p hp => by simp
    simp only [List.set_cons_succ, List.set_cons_zero]
    have hw : (List.map (fun p => t.getD p 0 * 256 ^ (2 - p)) (List.range t.length)).sum = whole3 t := rfl
    rw [hw]
    have hwb : 0 ≤ whole3 t ∧ whole3 t < 16777216 := whole3_lt htl htr
    refine' Xs.cons (X1.assign (r := .str (four (whole3 t))) (by rfl) (by decide +kernel) (Em.of (Ev.meth (rs := [.list (((List.range 4).map fun p => sgn (whole3 t / 64 ^ (3 - p) % 64)).map .str)]) PySem.F.plainAttrs_str PySem.F.slot_str_join PySem.F.type_str_join .str .str (.cons (Ev.comp (Lc.of [.str signs, .int (whole3 t)] (rangeL 0 1 4) (fun _ => true) (fun d => match d with | .int p => .str (sgn (whole3 t / 64 ^ (3 - p).toNat % 64)) | _ => .none) (by rfl) (by decide +kernel) (Nat.le_refl _) ?q2b (by rw [rangeL_len]; omega) (fun _ _ => .nil) ?q3b ?q4b)) .nil) (Cs.join ?q5b))) ?kb)
    case q2b =>
      walk_at "mine_ev"
      exact Ci.range1 _ (by omega) (by omega) (by omega)
    case q3b =>
      intro d hd _
      obtain ⟨p, hp, rfl⟩ := List.mem_map.mp hd
      have hp := List.mem_range.mp hp
      rw [show (0 + (p : Int) * 1) = p by omega]
      have hp1 : (0 : Int) < 64 ^ (3 - (p : Int)).toNat := Int.pow_pos (by decide)
      have hp2 : (64 : Int) ^ (3 - (p : Int)).toNat ≤ 64 ^ 3 := by
        have : (64 : Nat) ^ (3 - (p : Int)).toNat ≤ 64 ^ 3 := Nat.pow_le_pow_right (by decide) (by omega)
        exact_mod_cast this
      walk_at "mine_ev"
      exact is_sgn (by omega) (by omega)
    case q4b => exact lcS fun p hp => by simp
    case q5b => exact join4 _
    simp only [List.set_cons_succ, List.set_cons_zero]
    have l4 : (four (whole3 t)).length = 4 := four_len _
    have lc := cutS_len (four (whole3 t)) Option.none (some ((t.map PyData.int).length + 1 : Int))
    have lm := mul_len "=" (3 - ((t.map PyData.int).length : Int))
    have lb := bitsTo_len ns j
    have leq : ("=" : Str).length = 1 := by decide
    rw [leq] at lm
    have ha : ∀ a b : Str, (a ++ b).length = a.length + b.length := PySem.Str.length_append
    have hm : (t.map PyData.int).length = t.length := List.length_map ..
    (refine' Xs.cons (X1.aug (by rfl) (by decide +kernel) (by rfl) (by rfl) (Em.of ?eu4) ?ou4 ?ku4); (case' eu4 => walk_at "mine_ev"); (case' ou4 => walk_at "mine_ev"); (case' ku4 => try simp only [List.set_cons_succ, List.set_cons_zero]); rotate_left)
    · rw [ha]; omega
    · refine Xs.nil ⟨rfl, .int (0 + j * 3), .list (t.map .int), .int (whole3 t), .str (four (whole3 t)), ?_⟩
      show _ = [SV.list (List.map PyData.int ns), SV.str signs, SV.str (bitsTo ns j ++ bit3 (pickL ns (some (3 * j : Int)) (some (3 * j + 3 : Int)))), _, _, _, _]
      rw [ht]
      unfold bit3
      simp only [List.length_map]
      try rfl
  · rintro σ μ ⟨rfl, a, b, c, d, rfl⟩
    (refine' Xs.cons (X1.ret (Em.of ?er3) ?kr3); case' er3 => walk_at "mine_ev")
    show SV.str _ = _
    rw [rangeL_len]; rfl
theorem cs28 {ns : List Int} (hl : ns.length ≤ 10) (hr : ∀ i ∈ ns, 0 ≤ i ∧ i < 256) : Cs w (n + 2) (.ref 157) [.list (ns.map .int)] (.str (bits ns)) :=
  Cs.def (F := F28) (k := 1) (FnAt.def (i := 28) (P := ["octets"]) (by decide) rfl (fun pm cd doc vs hv => by
    obtain ⟨a, rfl⟩ := len1 hv
    with_unfolding_all rfl)) rfl rfl rfl F28_ok F28_plain (body28 hl hr)
end
end
section
open PySem PySem.W PyProof.Rows PySem.Calls
set_option maxRecDepth 100000
set_option maxHeartbeats 400000
noncomputable def F25 : Fd := fdOf 25 ["beginning", "signs", "bits", "whole", "pattern", "size", "first", "start", "stop", "run"]
theorem F25_ok : F25.ok = true := by decide +kernel
theorem F25_plain : F25.plain 1 = true := by decide +kernel
noncomputable def wholeP (t : List Int) : Int := ((List.range t.length).map fun p => t.getD p 0 * 256 ^ (t.length - 1 - p)).sum
noncomputable def lettersP (t : List Int) : Str := Txt.join "" ((List.range (8 * t.length / 6)).map fun k => sgn (wholeP t / 2 ^ (8 * t.length - 6 * k - 6) % 64))
noncomputable def sizeP (t : List Int) : Int := 2 ^ (6 - 8 * t.length % 6)
noncomputable def firstP (t : List Int) : Int := wholeP t % 2 ^ (8 * t.length % 6) * sizeP t
noncomputable def runS (a b : Int) : Str := cutS signs (some a) (some b)
noncomputable def chS (x : Str) (i : Nat) : Str := ⟨#[x.cps.getD i 0]⟩
noncomputable def runT (x : Str) : Str := if 2 < x.length then chS x 0 ++ "-" ++ chS x (x.length - 1) else x
noncomputable def pairsP : List (Int × Int) := [(0, 26), (26, 52), (52, 62), (62, 63), (63, 64)]
noncomputable def setTo (t : List Int) : Nat → Str
  | 0 => lettersP t ++ "["
  | j + 1 => setTo t j ++ (let p := pairsP.getD j (0, 0); runT (runS (if p.1 < firstP t then firstP t else p.1) (if firstP t + sizeP t < p.2 then firstP t + sizeP t else p.2)))
noncomputable def pat (t : List Int) : Str := (if 0 < 8 * t.length % 6 then setTo t 5 ++ "]" else lettersP t) ++ "*"
section
variable {w : World} {n : Nat}
theorem wholeP_lt {t : List Int} (hl : t.length ≤ 3) (hr : ∀ i ∈ t, 0 ≤ i ∧ i < 256) : 0 ≤ wholeP t ∧ wholeP t < 16777216 := by
  match t, hl, hr with
  | [], _, _ => decide
  | [a], _, hr => have := hr a (by simp); simp [wholeP]; omega
  | [a, b], _, hr => have := hr a (by simp); have := hr b (by simp); simp [wholeP, List.range_succ]; omega
  | [a, b, c], _, hr => have := hr a (by simp); have := hr b (by simp); have := hr c (by simp); simp [wholeP, List.range_succ]; omega
theorem sizeP_bd {t : List Int} (hl : t.length ≤ 3) (hr : ∀ i ∈ t, 0 ≤ i ∧ i < 256) : 1 ≤ sizeP t ∧ sizeP t ≤ 64 ∧ 0 ≤ firstP t ∧ firstP t ≤ 64 := by
  have hw := wholeP_lt hl hr
  have : t.length = 0 ∨ t.length = 1 ∨ t.length = 2 ∨ t.length = 3 := lt4 (Nat.lt_succ_of_le hl)
  unfold firstP sizeP
  rcases this with h | h | h | h <;> rw [h] <;> simp <;> omega
theorem is_first {x : Str} (h : 0 < x.length) (h2 : x.length ≤ 1000) : Is w (n + 1) (.str x) (.int 0) (.str (chS x 0)) := by
  refine Is.str ?_ (by omega) (by omega)
  rw [show seqIndex? 0 x.length = some 0 from seq_ix (Int.le_refl 0) (Int.natCast_pos.mpr h)]
  show x.cps[0]? = _
  have : 0 < x.cps.size := h
  simp [Array.getD, this]
theorem is_last {x : Str} (h : 0 < x.length) (h2 : x.length ≤ 1000) : Is w (n + 1) (.str x) (.int (-1)) (.str (chS x (x.length - 1))) := by
  refine Is.str ?_ (by omega) (by omega)
  rw [seq_last h]
  show x.cps[x.length - 1]? = _
  have h3 : x.length - 1 < x.cps.size := by show x.length - 1 < x.length; omega
  simp [Array.getD, h3]
theorem join_sgn_len (f : Nat → Int) (k : Nat) : (Txt.join "" ((List.range k).map fun p => sgn (f p))).length ≤ k := by
  unfold Txt.join
  rw [StrLaws.glued_eq_join]
  refine Nat.le_trans (StrLaws.join_length_le "" _) ?_
  have : ("" : Str).length = 0 := by decide
  rw [this, Nat.mul_zero, Nat.add_zero, List.map_map]
  have : ∀ l : List Nat, (l.map ((fun x : Str => x.length) ∘ fun p => sgn (f p))).sum = l.length := by
    intro l
    induction l with
    | nil => rfl
    | cons a l ih => rw [List.map_cons, List.sum_cons, ih, List.length_cons]; show 1 + _ = _; omega
  rw [this, List.length_range]
  exact Nat.le_refl _
theorem sgn_sum (f : Nat → Int) (k : Nat) (hk : k ≤ 1000) : (((List.range k).map fun p => sgn (f p)).map (·.length)).sum + ((List.range k).map fun p => sgn (f p)).length * ("" : Str).length ≤ 1000000 := by
  have : ("" : Str).length = 0 := by decide
  rw [this, Nat.mul_zero, Nat.add_zero, List.map_map]
  have : ∀ l : List Nat, (l.map ((fun x : Str => x.length) ∘ fun p => sgn (f p))).sum = l.length := by
    intro l
    induction l with
    | nil => rfl
    | cons a l ih => rw [List.map_cons, List.sum_cons, ih, List.length_cons]; show 1 + _ = _; omega
  rw [this, List.length_range]
  omega
theorem lettersP_len (t : List Int) (hl : t.length ≤ 3) : (lettersP t).length ≤ 4 := by
  have := join_sgn_len (fun k => wholeP t / 2 ^ (8 * t.length - 6 * k - 6) % 64) (8 * t.length / 6)
  have h2 : (lettersP t).length ≤ 8 * t.length / 6 := this
  omega
theorem runT_len (x : Str) : (runT x).length ≤ x.length + 3 := by
  unfold runT
  split
  · rw [PySem.Str.length_append, PySem.Str.length_append]
    show 1 + ("-" : Str).length + 1 ≤ _
    have : ("-" : Str).length = 1 := by decide
    omega
  · omega
theorem setTo_len {t : List Int} (hl : t.length ≤ 3) : ∀ j, (setTo t j).length ≤ 5 + 67 * j
  | 0 => by
    show (lettersP t ++ "[").length ≤ _
    rw [PySem.Str.length_append]
    have := lettersP_len t hl
    have : ("[" : Str).length = 1 := by decide
    omega
  | j + 1 => by
    have h1 := setTo_len hl j
    show (setTo t j ++ runT (runS _ _)).length ≤ _
    rw [PySem.Str.length_append]
    have h2 := runT_len (runS (if (pairsP.getD j (0, 0)).1 < firstP t then firstP t else (pairsP.getD j (0, 0)).1) (if firstP t + sizeP t < (pairsP.getD j (0, 0)).2 then firstP t + sizeP t else (pairsP.getD j (0, 0)).2))
    have h3 := cutS_len signs (some (if (pairsP.getD j (0, 0)).1 < firstP t then firstP t else (pairsP.getD j (0, 0)).1)) (some (if firstP t + sizeP t < (pairsP.getD j (0, 0)).2 then firstP t + sizeP t else (pairsP.getD j (0, 0)).2))
    have h4 : signs.length = 64 := by decide +kernel
    unfold runS at h2 ⊢
    omega
end
section
variable {w : World} {n : Nat}
theorem tail25 {t : List Int} (hl : t.length ≤ 3) (hr : ∀ i ∈ t, 0 ≤ i ∧ i < 256) : Xs w (n + 1) F25 [.list (t.map .int), .str signs, .int (8 * t.length), .int (wholeP t), .str (lettersP t), .u, .u, .u, .u, .u] [] ((fnBody 25).drop 4) (FnEnd (.str (pat t))) := by
  have hm : (t.map PyData.int).length = t.length := List.length_map ..
  have hwb : 0 ≤ wholeP t ∧ wholeP t < 16777216 := wholeP_lt hl hr
  refine Xs.cons (X1.ite (c := decide (0 < 8 * (t.length : Int) % 6)) (Tm.of ?_) (fun hc => ?_) (fun hc => ?_))
  · walk_at "mine_ev"
  · have hc : 0 < 8 * (t.length : Int) % 6 := of_decide_eq_true hc
    obtain ⟨b1, b2, b3, b4⟩ := sizeP_bd hl hr
    refine' Xs.cons (X1.assign (r := .int (sizeP t)) (by rfl) (by decide +kernel) (Em.of (Ev.eq ?c1 ?c2)) ?c3)
    case' c1 => walk_at "mine_ev"
    case c2 =>
      unfold sizeP
      rw [show (6 - 8 * (t.length : Int) % 6).toNat = 6 - 8 * t.length % 6 from Int.toNat_sub 6 (8 * t.length % 6)]
    simp only [List.set_cons_succ, List.set_cons_zero]
    refine' Xs.cons (X1.assign (r := .int (firstP t)) (by rfl) (by decide +kernel) (Em.of (Ev.eq ?d1 ?d2)) ?d3)
    case' d1 => walk_at "mine_ev"
    case d2 =>
      unfold firstP
      rw [show (8 * (t.length : Int) % 6).toNat = 8 * t.length % 6 from rfl]
    · exact Int.pow_pos (by decide)
    · have e1 : (8 * (t.length : Int) % 6).toNat = 8 * t.length % 6 := rfl
      rw [e1]
      have h0 : 0 < (2 : Int) ^ (8 * t.length % 6) := Int.pow_pos (by decide)
      have h1 := Int.emod_nonneg (wholeP t) (show (2 : Int) ^ (8 * t.length % 6) ≠ 0 by omega)
      have h2 := Int.emod_lt_of_pos (wholeP t) h0
      have h3 : (2 : Int) ^ (8 * t.length % 6) ≤ 2 ^ 6 := by
        have : (2 : Nat) ^ (8 * t.length % 6) ≤ 2 ^ 6 := Nat.pow_le_pow_right (by decide) (by omega)
        exact_mod_cast this
      omega
    simp only [List.set_cons_succ, List.set_cons_zero]
    have hlp := lettersP_len t hl
    have q1 : ("[" : Str).length = 1 := by decide
    have q2 : ("]" : Str).length = 1 := by decide
    have q3 : ("*" : Str).length = 1 := by decide
    have q4 : ("-" : Str).length = 1 := by decide
    have hsl : signs.length = 64 := by decide +kernel
    (refine' Xs.cons (X1.aug (by rfl) (by decide +kernel) (by rfl) (by rfl) (Em.of ?eu9) ?ou9 ?ku9); (case' eu9 => walk_at "mine_ev"); (case' ou9 => walk_at "mine_ev"); (case' ku9 => try simp only [List.set_cons_succ, List.set_cons_zero]); rotate_left)
    have hs0 := setTo_len (t := t) hl
    refine Xs.cons ?z0
    refine X1.for (xs := [.tuple [.int 0, .int 26], .tuple [.int 26, .int 52], .tuple [.int 52, .int 62], .tuple [.int 62, .int 63], .tuple [.int 63, .int 64]]) ?f1 (fun j σ μ => μ = [] ∧ j ≤ 5 ∧ ∃ a b c, σ = [.list (t.map .int), .str signs, .int (8 * t.length), .int (wholeP t), .str (setTo t j), .int (sizeP t), .int (firstP t), a, b, c]) ?f0 ?f2 ?f3 (fun _ _ => rfl) Lg.tuple
    case f0 => exact ⟨rfl, by omega, .u, .u, .u, by simp only [setTo]⟩
    case f1 =>
      exact Ei.tuple (Ev.tp (.cons (Ev.tp (.cons .int (.cons .int .nil rfl) rfl)) (.cons (Ev.tp (.cons .int (.cons .int .nil rfl) rfl)) (.cons (Ev.tp (.cons .int (.cons .int .nil rfl) rfl)) (.cons (Ev.tp (.cons .int (.cons .int .nil rfl) rfl)) (.cons (Ev.tp (.cons .int (.cons .int .nil rfl) rfl)) .nil rfl) rfl) rfl) rfl) rfl))
    case f2 =>
      rintro j σ μ d hd ⟨rfl, hj5, a, b, c, rfl⟩
      obtain ⟨p, hp, rfl⟩ : ∃ p, pairsP[j]? = some p ∧ d = .tuple [.int p.1, .int p.2] := by
        rw [show ([.tuple [.int 0, .int 26], .tuple [.int 26, .int 52], .tuple [.int 52, .int 62], .tuple [.int 62, .int 63], .tuple [.int 63, .int 64]] : List PyData) = pairsP.map fun p => .tuple [.int p.1, .int p.2] from rfl, List.getElem?_map] at hd
        cases e : pairsP[j]? with
        | none => rw [e] at hd; cases hd
        | some p => rw [e] at hd; cases hd; exact ⟨p, rfl, rfl⟩
      have hj : j < 5 := by
        rcases Nat.lt_or_ge j 5 with h | h
        · exact h
        · rw [List.getElem?_eq_none (by show 5 ≤ j; exact h)] at hp; cases hp
      have hpb : 0 ≤ p.1 ∧ p.1 ≤ 64 ∧ 0 ≤ p.2 ∧ p.2 ≤ 64 := by
        have : ∀ p ∈ pairsP, 0 ≤ p.1 ∧ p.1 ≤ 64 ∧ 0 ≤ p.2 ∧ p.2 ≤ 64 := by decide
        exact this p (List.mem_of_getElem? hp)
      refine ⟨_, Tg.pair (by rfl) (by decide +kernel) (by rfl) (by decide +kernel), ?_⟩
      simp only [List.set_cons_succ, List.set_cons_zero]
      refine' Xs.cons (X1.assign (r := .str (runS (if p.1 < firstP t then firstP t else p.1) (if firstP t + sizeP t < p.2 then firstP t + sizeP t else p.2))) (by rfl) (by decide +kernel) (Em.of ?g1) ?g2)
      case' g1 => unfold runS; walk_at "mine_ev"
      simp only [List.set_cons_succ, List.set_cons_zero]
      have hrl : (runS (if p.1 < firstP t then firstP t else p.1) (if firstP t + sizeP t < p.2 then firstP t + sizeP t else p.2)).length ≤ 64 := by
        unfold runS
        exact Nat.le_trans (cutS_len _ _ _) (Nat.le_of_eq hsl)
      have hst : setTo t (j + 1) = setTo t j ++ runT (runS (if p.1 < firstP t then firstP t else p.1) (if firstP t + sizeP t < p.2 then firstP t + sizeP t else p.2)) := by
        simp only [setTo]
        rw [show pairsP.getD j (0, 0) = p by rw [List.getD_eq_getElem?_getD, hp]; rfl]
      generalize runS (if p.1 < firstP t then firstP t else p.1) (if firstP t + sizeP t < p.2 then firstP t + sizeP t else p.2) = run at hrl hst ⊢
      have hj1 := hs0 j
      have hrt := runT_len run
      refine' Xs.cons (X1.aug (r := .str (runT run)) (by rfl) (by decide +kernel) (by rfl) (by rfl) (Em.of (Ev.ite (c := decide (2 < (run.length : Int))) ?h1 (fun hc => ?h2) (fun hc => ?h3))) (Ips.cat ?h4) ?h5)
      case' h1 => walk_at "mine_ev"
      case h2 =>
        have hc : 2 < run.length := by have := of_decide_eq_true hc; omega
        unfold runT
        rw [if_pos hc]
        have hl1 : (chS run 0).length = 1 := rfl
        have hl2 : (chS run (run.length - 1)).length = 1 := rfl
        refine Ev.bin (Ev.bin (Ev.item (Ev.nm (by rfl) rfl) .int (is_first (by omega) (by omega))) .str (Bs.cat ?_)) (Ev.item (Ev.nm (by rfl) rfl) (Ev.neg .int) (is_last (by omega) (by omega))) (Bs.cat ?_)
        · rw [hl1]; omega
        · rw [PySem.Str.length_append, hl1, hl2]; omega
      case h3 =>
        have hc : ¬ 2 < run.length := by have := of_decide_eq_false hc; omega
        unfold runT
        rw [if_neg hc]
        walk_at "mine_ev"
      case h4 => omega
      simp only [List.set_cons_succ, List.set_cons_zero]
      refine Xs.nil ⟨rfl, by omega, .int p.1, .int p.2, .str run, ?_⟩
      rw [hst]
    case f3 =>
      rintro σ μ ⟨rfl, _, a, b, c, hσ⟩
      replace hσ : σ = [.list (t.map .int), .str signs, .int (8 * t.length), .int (wholeP t), .str (setTo t 5), .int (sizeP t), .int (firstP t), a, b, c] := hσ
      subst hσ
      have h5 := hs0 5
      have hc2 : 0 < 8 * t.length % 6 := by omega
      show Xs w (n + 1) F25 _ [] _ _
      (refine' Xs.cons (X1.aug (by rfl) (by decide +kernel) (by rfl) (by rfl) (Em.of ?eu10) ?ou10 ?ku10); (case' eu10 => walk_at "mine_ev"); (case' ou10 => walk_at "mine_ev"); (case' ku10 => try simp only [List.set_cons_succ, List.set_cons_zero]); rotate_left)
      refine Xs.nil ?_
      show Xs w (n + 1) F25 _ [] _ _
      (refine' Xs.cons (X1.ret (Em.of ?er7) ?kr7); case' er7 => walk_at "mine_ev")
      · rw [PySem.Str.length_append]; omega
      · show SV.str _ = SV.str (pat t)
        unfold pat
        rw [if_pos hc2]
  · refine Xs.nil ?_
    have hlp := lettersP_len t hl
    have q3 : ("*" : Str).length = 1 := by decide
    (refine' Xs.cons (X1.ret (Em.of ?er8) ?kr8); case' er8 => walk_at "mine_ev")
    · have hc : ¬ 0 < 8 * t.length % 6 := by
        have := of_decide_eq_false hc
        omega
      show SV.str _ = SV.str (pat t)
      unfold pat
      rw [if_neg hc]
end
section
variable {w : World} {n : Nat}
theorem body25 {t : List Int} (hl : t.length ≤ 3) (hr : ∀ i ∈ t, 0 ≤ i ∧ i < 256) : Xs w (n + 1) F25 [.list (t.map .int), .u, .u, .u, .u, .u, .u, .u, .u, .u] [] (fnBody 25) (FnEnd (.str (pat t))) := by
  (refine' Xs.cons (X1.assign (by rfl) (by decide +kernel) (Em.of ?ea5) ?ka5); (case' ea5 => walk_at "mine_ev"); (case' ka5 => try simp only [List.set_cons_succ, List.set_cons_zero]); rotate_left)
  (refine' Xs.cons (X1.assign (by rfl) (by decide +kernel) (Em.of ?ea6) ?ka6); (case' ea6 => walk_at "mine_ev"); (case' ka6 => try simp only [List.set_cons_succ, List.set_cons_zero]); rotate_left)
  have hm : (t.map PyData.int).length = t.length := List.length_map ..
  rw [hm]
  refine' Xs.cons (X1.assign (by rfl) (by decide +kernel) (Em.of (Ev.call (rs := [.list (((List.range t.length).map fun p => t.getD p 0 * 256 ^ (t.length - 1 - p)).map .int)]) (f := .builtin "sum") ?a1 (.cons (Ev.comp (Lc.of [.list (t.map .int)] (rangeL 0 1 t.length) (fun _ => true) (fun d => match d with | .int p => .int (t.getD p.toNat 0 * 256 ^ (t.length - 1 - p.toNat)) | _ => .none) (by rfl) (by decide +kernel) (Nat.le_refl _) ?a2 (by rw [rangeL_len]; omega) (fun _ _ => .nil) ?a3 ?a4)) .nil) Cs.sum (Callee.builtin _))) ?a5)
  case' a1 => walk_at "mine_ev"
  case a2 =>
    walk_at "mine_ev"
    exact Ci.range1 _ (by omega) (by omega) (by omega)
  case a3 =>
    intro d hd _
    obtain ⟨p, hp, rfl⟩ := List.mem_map.mp hd
    have hp := List.mem_range.mp hp
    rw [show (0 + (p : Int) * 1) = p by omega]
    refine (?_ : Ev w (n + 1) _ _ _ (.int (t.getD (p : Int).toNat 0 * 256 ^ ((t.map PyData.int).length - 1 - (p : Int)).toNat))).eq ?_
    · walk_at "mine_ev"
      · exact getI hp
      · exact smallD hr
    · rw [hm, show (t.length - 1 - (p : Int)).toNat = t.length - 1 - (p : Int).toNat from subN3 t.length 1 p]
  case a4 => exact lcI fun p hp => by simp
  simp only [List.set_cons_succ, List.set_cons_zero]
  have hw : (List.map (fun p => t.getD p 0 * 256 ^ (t.length - 1 - p)) (List.range t.length)).sum = wholeP t := rfl
  rw [hw]
  have hwb : 0 ≤ wholeP t ∧ wholeP t < 16777216 := wholeP_lt hl hr
  refine' Xs.cons (X1.assign (r := .str (lettersP t)) (by rfl) (by decide +kernel) (Em.of (Ev.meth (rs := [.list (((List.range (8 * t.length / 6)).map fun k => sgn (wholeP t / 2 ^ (8 * t.length - 6 * k - 6) % 64)).map .str)]) PySem.F.plainAttrs_str PySem.F.slot_str_join PySem.F.type_str_join .str .str (.cons (Ev.comp (Lc.of [.int (8 * t.length), .str signs, .int (wholeP t)] (rangeL 0 1 (8 * t.length / 6)) (fun _ => true) (fun d => match d with | .int k => .str (sgn (wholeP t / 2 ^ (8 * t.length - 6 * k.toNat - 6) % 64)) | _ => .none) (by rfl) (by decide +kernel) (Nat.le_refl _) ?b2 (by rw [rangeL_len]; omega) (fun _ _ => .nil) ?b3 ?b4)) .nil) (Cs.join ?b5))) ?b1)
  case b2 =>
    walk_at "mine_ev"
    exact Ci.range1 _ rfl (by omega) (by omega)
  case b3 =>
    intro d hd _
    obtain ⟨k, hk, rfl⟩ := List.mem_map.mp hd
    have hk := List.mem_range.mp hk
    rw [show (0 + (k : Int) * 1) = k by omega]
    have he : (8 * (t.length : Int) - 6 * (k : Int) - 6).toNat = 8 * t.length - 6 * (k : Int).toNat - 6 := subN3 (8 * t.length) (6 * k) 6
    have hp1 : (0 : Int) < 2 ^ (8 * (t.length : Int) - 6 * (k : Int) - 6).toNat := Int.pow_pos (by decide)
    have hp2 : (2 : Int) ^ (8 * (t.length : Int) - 6 * (k : Int) - 6).toNat ≤ 2 ^ 24 := by
      have : (2 : Nat) ^ (8 * (t.length : Int) - 6 * (k : Int) - 6).toNat ≤ 2 ^ 24 := Nat.pow_le_pow_right (by decide) (by omega)
      exact_mod_cast this
    refine (?_ : Ev w (n + 1) _ _ _ (.str (sgn (wholeP t / 2 ^ (8 * (t.length : Int) - 6 * (k : Int) - 6).toNat % 64)))).eq ?_
    · walk_at "mine_ev"
      exact is_sgn (by omega) (by omega)
    · rw [he]
  case b4 => exact lcS fun p hp => by simp
  case b5 => exact sgn_sum _ _ (by omega)
  simp only [List.set_cons_succ, List.set_cons_zero]
  exact tail25 hl hr
theorem cs25 {t : List Int} (hl : t.length ≤ 3) (hr : ∀ i ∈ t, 0 ≤ i ∧ i < 256) : Cs w (n + 2) (.ref 142) [.list (t.map .int)] (.str (pat t)) :=
  Cs.def (F := F25) (k := 1) (FnAt.def (i := 25) (P := ["beginning"]) (by decide) rfl (fun pm cd doc vs hv => by
    obtain ⟨a, rfl⟩ := len1 hv
    with_unfolding_all rfl)) rfl rfl rfl F25_ok F25_plain (body25 hl hr)
end
end
section
open PySem PySem.W PyProof.Rows PySem.Calls
set_option maxRecDepth 100000
set_option maxHeartbeats 1000000
section
variable {w : World} {n : Nat} {F : Fd} {σ : List SV} {μ : Mu} {Φ : Out → Prop}
theorem EnvIs.block {env : Env} (I : EnvIs F env) : env.blockKind = .function := by
  unfold Env.blockKind
  rw [I.fn]
  split <;> rfl
/-- x, y = (e1, e2) with the stores swapped -/
theorem X1.swap2 {i j : Nat} {x y : Str} {p1 p2 tp vp pos : Pos} {k k2 : Nat} {v1 v2 : Expr} {a b : PyData} (hx : ixOf x F.vars = some i) (hk : storable x F.vars F.kinds = true) (hy : ixOf y F.vars = some j) (hk2 : storable y F.vars F.kinds = true)
    (h : Em w (n + 1) F σ μ (.Tuple [v1, v2] k2 vp) (.d (.tuple [a, b]))) (hΦ : Φ (.next ((σ.set j (.d b)).set i (.d a)) μ))
    (hw : ∀ env, EnvIs F env → swappedStores [.Tuple [.Name x p1, .Name y p2] k tp] (.Tuple [v1, v2] k2 vp) env = pure (some [x, y])) :
    X1 w (n + 1) F σ μ (.Assign [.Tuple [.Name x p1, .Name y p2] k tp] (.Tuple [v1, v2] k2 vp) pos) Φ := .mk fun s₀ G₀ env A s G Q E I Fr Ro T O q => by
  refine Assign_Tuple_swapped (names := [x, y]) (h.run s₀ G₀ env A s G _ E I Ro T O fun v s1 G1 g1 r => ?_) (by rfl) (hw env I)
  have T1 := T.step g1
  have O1 := O.grow g1
  obtain ⟨t, items, rfl, L, ra⟩ := Rd.tuple_inv g1.sub r
  have hz : items.size = 2 := by have := ra.length; simpa using this
  rw [show ([x, y] : List Str).length = items.size by rw [hz]; rfl]
  refine unpackItems_tuple (Ro.hd (by omega)) L fun h' hx' => ?_
  obtain ⟨u1, u2, e⟩ : ∃ u1 u2, items.toList = [u1, u2] := by
    match h : items.toList, ra.length with
    | [u1, u2], _ => exact ⟨u1, u2, rfl⟩
  rw [e] at ra ⊢
  obtain ⟨r1, r2⟩ := ra.uncons
  obtain ⟨r2, _⟩ := r2.uncons
  obtain ⟨T2, O2, f2⟩ := T1.side O1 I Fr (h' := h') s1.toks (fun b o e => hx' b o (Nat.ne_of_lt (Heap.lt_size e)) e)
  refine assignInOrder_cons (bindName_ (T2.storeN I Fr O2 hy hk2 (r := .d b) r2 fun s3 T3 O3 f3 => ?_))
  refine assignInOrder_cons (bindName_ (T3.storeN I Fr O3 hx hk (r := .d a) r1 fun s4 T4 O4 f4 => ?_))
  exact assignInOrder_nil (q (.next _ _) _ _ hΦ ⟨rfl, _, T4, O4, (Frm.grow g1).trans ((f2 _).trans ((f3 _).trans (f4 _)))⟩)
end
end
section
open PySem PySem.W PyProof.Rows PySem.Calls
set_option maxRecDepth 100000
set_option maxHeartbeats 1000000
noncomputable def F26 : Fd := fdOf 26 ["part", "signs", "rest"]
theorem F26_ok : F26.ok = true := by decide +kernel
theorem F26_plain : F26.plain 1 = true := by decide +kernel
noncomputable def chr1 (c : Nat) : Str := ⟨#[c]⟩
/-- the signs between two -/
noncomputable def spanS (a b : Nat) : Str := Txt.join "" ((List.range (b + 1 - a)).map fun k => chr1 (a + k))
noncomputable def setGo : Nat → Str → Str → Option Str
  | 0, _, _ => none
  | f + 1, rest, acc =>
    if rest == "" then some acc else
    if cutS rest (some 1) (some 2) == "-" then
      (if 3 ≤ rest.length ∧ rest.length ≤ 1000 ∧ acc.length ≤ 1000 ∧ rest.cps.getD 2 0 ≤ 1000 ∧ rest.cps.getD 0 0 ≤ 1000 then setGo f (cutS rest (some 3) none) (acc ++ spanS (rest.cps.getD 0 0) (rest.cps.getD 2 0)) else none)
    else if 1 ≤ rest.length ∧ rest.length ≤ 1000 ∧ acc.length ≤ 100000 then setGo f (cutS rest (some 1) none) (acc ++ chS rest 0) else none
noncomputable def setIn (x : Str) : Str := if chS x 0 == "[" then cutS x (some 1) (some (-1)) else chS x (x.length - 1)
section
variable {w : World} {n : Nat}
theorem is_at {x : Str} {i : Nat} (h : i < x.length) (h2 : x.length ≤ 1000) : Is w (n + 1) (.str x) (.int i) (.str (chS x i)) := by
  refine Is.str ?_ (by omega) (by omega)
  rw [show seqIndex? (i : Int) x.length = some i from seq_ix (Int.natCast_nonneg i) (Int.ofNat_lt.mpr h)]
  show x.cps[i]? = _
  have h3 : i < x.cps.size := h
  simp [Array.getD, h3]
theorem chr1_sum (f : Nat → Nat) (k : Nat) (hk : k ≤ 100000) : (((List.range k).map fun p => chr1 (f p)).map (·.length)).sum + ((List.range k).map fun p => chr1 (f p)).length * ("" : Str).length ≤ 1000000 := by
  have : ("" : Str).length = 0 := by decide
  rw [this, Nat.mul_zero, Nat.add_zero, List.map_map]
  have : ∀ l : List Nat, (l.map ((fun x : Str => x.length) ∘ fun p => chr1 (f p))).sum = l.length := by
    intro l
    induction l with
    | nil => rfl
    | cons a l ih => rw [List.map_cons, List.sum_cons, ih, List.length_cons]; show 1 + _ = _; omega
  rw [this, List.length_range]
  omega
theorem chr1_len (f : Nat → Nat) (k : Nat) : (Txt.join "" ((List.range k).map fun p => chr1 (f p))).length ≤ k := by
  unfold Txt.join
  rw [StrLaws.glued_eq_join]
  refine Nat.le_trans (StrLaws.join_length_le "" _) ?_
  have : ("" : Str).length = 0 := by decide
  rw [this, Nat.mul_zero, Nat.add_zero, List.map_map]
  have : ∀ l : List Nat, (l.map ((fun x : Str => x.length) ∘ fun p => chr1 (f p))).sum = l.length := by
    intro l
    induction l with
    | nil => rfl
    | cons a l ih => rw [List.map_cons, List.sum_cons, ih, List.length_cons]; show 1 + _ = _; omega
  rw [this, List.length_range]
  exact Nat.le_refl _
theorem body26 {x out : Str} {f : Nat} (h0 : 0 < x.length) (h1 : x.length ≤ 1000) (hg : setGo f (setIn x) "" = some out) : Xs w (n + 1) F26 [.str x, .u, .u] [] (fnBody 26) (FnEnd (.str out)) := by
  (refine' Xs.cons (X1.assign (by rfl) (by decide +kernel) (Em.of ?ea11) ?ka11); (case' ea11 => walk_at "mine_ev"); (case' ka11 => try simp only [List.set_cons_succ, List.set_cons_zero]); rotate_left)
  refine' Xs.cons (X1.assign (r := .str (setIn x)) (by rfl) (by decide +kernel) (Em.of (Ev.ite (c := chS x 0 == "[") (Tr.cmp (Ev.item (Ev.nm (by rfl) rfl) .int (is_first h0 h1)) .str .eqS) (fun hc => ?a1) (fun hc => ?a2))) ?a3)
  case a1 =>
    unfold setIn
    rw [if_pos hc]
    exact Ev.slice (Ev.nm (by rfl) rfl) (Pt.yes .int) (Pt.yes (Ev.neg .int)) (.str (by omega))
  case a2 =>
    unfold setIn
    rw [if_neg (by rw [hc]; decide)]
    exact Ev.item (Ev.nm (by rfl) rfl) (Ev.neg .int) (is_last h0 h1)
  simp only [List.set_cons_succ, List.set_cons_zero]
  refine Xs.cons ?z0
  refine X1.while (fun k σ μ => μ = [] ∧ ∃ rest acc, σ = [.str x, .str acc, .str rest] ∧ setGo k rest acc = some out) f ⟨rfl, setIn x, "", rfl, hg⟩ ?_
  rintro k σ μ ⟨rfl, rest, acc, rfl, hk⟩
  match k, hk with
  | k + 1, hk =>
    rw [setGo] at hk
    by_cases hr : (rest == "") = true
    · rw [if_pos hr] at hk
      cases hk
      refine ⟨false, ?_, (fun h => nomatch h), fun _ => ?_⟩
      · refine (Tm.of ?_ : Tm w (n + 1) F26 _ _ _ (rest != ""))|> (fun h => by rwa [show (rest != "") = false by unfold bne; rw [hr]; rfl] at h)
        walk_at "mine_ev"
      · show Xs w (n + 1) F26 _ [] _ _
        (refine' Xs.cons (X1.ret (Em.of ?er12) ?kr12); case' er12 => walk_at "mine_ev")
        rfl
    · rw [if_neg hr] at hk
      refine ⟨true, ?_, fun _ => ?_, (fun h => nomatch h)⟩
      · refine (Tm.of ?_ : Tm w (n + 1) F26 _ _ _ (rest != ""))|> (fun h => by rwa [show (rest != "") = true by unfold bne; rw [Bool.eq_false_iff.mpr hr]; rfl] at h)
        walk_at "mine_ev"
      · by_cases hd : (cutS rest (some 1) (some 2) == "-") = true
        · rw [if_pos hd] at hk
          by_cases hc : 3 ≤ rest.length ∧ rest.length ≤ 1000 ∧ acc.length ≤ 1000 ∧ rest.cps.getD 2 0 ≤ 1000 ∧ rest.cps.getD 0 0 ≤ 1000
          · rw [if_pos hc] at hk
            obtain ⟨c1, c2, c3, c4, c5⟩ := hc
            refine Xs.cons (X1.ite (c := true) (Tm.of (Tr.eq (Tr.cmp (Ev.slice (Ev.nm (by rfl) rfl) (Pt.yes .int) (Pt.yes .int) (.str (by omega))) .str .eqS) hd)) (fun _ => ?b1) (fun h => nomatch h))
            refine Xs.cons ?b2
            refine X1.swap2 (a := .str (acc ++ spanS (rest.cps.getD 0 0) (rest.cps.getD 2 0))) (b := .str (cutS rest (some 3) none)) (by rfl) (by decide +kernel) (by rfl) (by decide +kernel) (Em.of (Ev.tp (.cons ?b3 (.cons ?b4 .nil rfl) rfl))) ?b5 ?b6
            case b4 => exact Ev.slice (Ev.nm (by rfl) rfl) (Pt.yes .int) Pt.no (.str (by omega))
            case b5 => exact Xs.nil (Xs.nil ⟨k, Nat.lt_succ_self _, rfl, _, _, rfl, hk⟩)
            case b3 =>
              refine Ev.bin (Ev.nm (by rfl) rfl) (Ev.meth (rs := [.list (((List.range (rest.cps.getD 2 0 + 1 - rest.cps.getD 0 0)).map fun i => chr1 (rest.cps.getD 0 0 + i)).map .str)]) PySem.F.plainAttrs_str PySem.F.slot_str_join PySem.F.type_str_join .str .str
                (.cons (Ev.comp (Lc.of [] (rangeL (rest.cps.getD 0 0 : Nat) 1 (rest.cps.getD 2 0 + 1 - rest.cps.getD 0 0)) (fun _ => true) (fun d => match d with | .int c => .str ⟨#[c.toNat]⟩ | _ => .none) (by rfl) (by decide +kernel) (Nat.le_refl _) ?b7 (by rw [rangeL_len]; omega) (fun _ _ => .nil) ?b8 ?b9)) .nil) (Cs.join ?b10)) (Bs.cat ?b11)
              case b7 =>
                refine Ei.call (rs := [.int (rest.cps.getD 0 0 : Nat), .int ((rest.cps.getD 2 0 : Nat) + 1)]) (f := .type "range") ?b12 (.cons (Ev.call (f := .builtin "ord") ?b13 (.cons (Ev.item (Ev.nm (by rfl) rfl) .int (is_first (by omega) c2)) .nil) Cs.ord (Callee.builtin _)) (.cons (Ev.bin (Ev.call (f := .builtin "ord") ?b14 (.cons (Ev.item (Ev.nm (by rfl) rfl) .int (is_at (i := 2) (by omega) c2)) .nil) Cs.ord (Callee.builtin _)) .int .add) .nil)) (Ci.range2 _ (by omega) (by omega) (by omega) (by omega) (by omega)) (Callee.type _)
                all_goals walk_at "mine_ev"
              case b8 =>
                intro d hd _
                obtain ⟨i, hi, rfl⟩ := List.mem_map.mp hd
                have hi := List.mem_range.mp hi
                walk_at "mine_ev"
              case b9 => exact lcS fun p hp => by simp [chr1]; omega
              case b10 => exact chr1_sum _ _ (by omega)
              case b11 =>
                have := chr1_len (fun i => rest.cps.getD 0 0 + i) (rest.cps.getD 2 0 + 1 - rest.cps.getD 0 0)
                omega
            case b6 =>
              intro env I
              have e1 : env.kindOf "signs" = some .local := by rw [I.kind]; decide +kernel
              have e2 : env.kindOf "rest" = some .local := by rw [I.kind]; decide +kernel
              have e3 := I.block
              unfold swappedStores
              simp [e1, e2, e3, List.filterMap_cons, pos_name]
              rw [if_pos (by decide +kernel), if_neg (by decide +kernel), if_neg (by decide +kernel)]
          · rw [if_neg hc] at hk; cases hk
        · rw [if_neg hd] at hk
          by_cases hc : 1 ≤ rest.length ∧ rest.length ≤ 1000 ∧ acc.length ≤ 100000
          · rw [if_pos hc] at hk
            obtain ⟨c1, c2, c3⟩ := hc
            refine Xs.cons (X1.ite (c := false) (Tm.of (Tr.eq (Tr.cmp (Ev.slice (Ev.nm (by rfl) rfl) (Pt.yes .int) (Pt.yes .int) (.str (by omega))) .str .eqS) (Bool.eq_false_iff.mpr hd))) (fun h => nomatch h) (fun _ => ?e1))
            refine Xs.cons ?e2
            refine X1.swap2 (a := .str (acc ++ chS rest 0)) (b := .str (cutS rest (some 1) none)) (by rfl) (by decide +kernel) (by rfl) (by decide +kernel) (Em.of (Ev.tp (.cons (Ev.bin (Ev.nm (by rfl) rfl) (Ev.item (Ev.nm (by rfl) rfl) .int (is_first (by omega) c2)) (Bs.cat ?e3)) (.cons (Ev.slice (Ev.nm (by rfl) rfl) (Pt.yes .int) Pt.no (.str (by omega))) .nil rfl) rfl))) ?e4 ?e5
            case e3 =>
              have : (chS rest 0).length = 1 := rfl
              omega
            case e4 => exact Xs.nil (Xs.nil ⟨k, Nat.lt_succ_self _, rfl, _, _, rfl, hk⟩)
            case e5 =>
              intro env I
              have e1 : env.kindOf "signs" = some .local := by rw [I.kind]; decide +kernel
              have e2 : env.kindOf "rest" = some .local := by rw [I.kind]; decide +kernel
              have e3 := I.block
              unfold swappedStores
              simp [e1, e2, e3, List.filterMap_cons, pos_name]
              rw [if_pos (by decide +kernel), if_neg (by decide +kernel), if_neg (by decide +kernel)]
          · rw [if_neg hc] at hk; cases hk
theorem cs26 {x out : Str} {f : Nat} (h0 : 0 < x.length) (h1 : x.length ≤ 1000) (hg : setGo f (setIn x) "" = some out) : Cs w (n + 2) (.ref 147) [.str x] (.str out) :=
  Cs.def (F := F26) (k := 1) (FnAt.def (i := 26) (P := ["part"]) (by decide) rfl (fun pm cd doc vs hv => by
    obtain ⟨a, rfl⟩ := len1 hv
    with_unfolding_all rfl)) rfl rfl rfl F26_ok F26_plain (body26 h0 h1 hg)
end
end
section
open PySem PySem.W PyProof.Rows PySem.Calls
set_option maxRecDepth 100000
set_option maxHeartbeats 1000000
section
variable {w : World} {n : Nat}
theorem Ms.isV {a b : Value} (hp : plainIs a b = true) : Ms w n .Is (.v a) (.v b) (a == b) := .mk fun A s G x y Q E Ro B W k h1 h2 q => by
  cases h1; cases h2
  exact wpAny_is_plain hp (q s G (.refl B W k))
theorem Ms.isNoneBool {b : Bool} : Ms w n .Is (.d (.bool b)) (.d .none) false := .mk fun A s G x y Q E Ro B W k h1 h2 q => by
  cases Rd.bool_inv h1; cases Rd.none_inv h2
  exact wpAny_is_plain (by rfl) (q s G (.refl B W k))
end
noncomputable def F6 : Fd := fdOf 6 ["data", "t"]
theorem F6_ok : F6.ok = true := by decide +kernel
theorem F6_plain : F6.plain 1 = true := by decide +kernel
noncomputable def F7 : Fd := fdOf 7 ["x", "t"]
theorem F7_ok : F7.ok = true := by decide +kernel
theorem F7_plain : F7.plain 1 = true := by decide +kernel
section
variable {w : World} {n : Nat}
theorem body6 {b : Array UInt8} : Xs w n F6 [.b b, .u] [] (fnBody 6) (FnEnd (.b b)) := by
  refine' Xs.cons (X1.assign (r := .v (.type "bytes")) (by rfl) (by decide +kernel) (Em.of (Ev.call (rs := [.b b]) (f := .type "type") (Ev.blt (by decide +kernel) (by rfl) (by decide +kernel)) (.cons (Ev.nm (by rfl) rfl) .nil) Cs.typeBytes (Callee.type _))) ?a1)
  simp only [List.set_cons_succ, List.set_cons_zero]
  refine Xs.cons (X1.ite (c := true) (Tm.of (Tr.cmp (a := .v (.type "bytes")) (b := .v (.type "bytes")) (Ev.nm (by rfl) rfl) (Ev.blt (by decide +kernel) (by rfl) (by decide +kernel)) ?a2)) (fun _ => ?a3) (fun h => nomatch h))
  case a2 => exact Ms.isV (by rfl)
  (refine' Xs.cons (X1.ret (Em.of ?er13) ?kr13); case' er13 => walk_at "mine_ev")
  rfl
theorem cs6 {b : Array UInt8} : Cs w (n + 1) (.ref 59) [.b b] (.b b) :=
  Cs.def (F := F6) (k := 1) (FnAt.def (i := 6) (P := ["data"]) (by decide) rfl (fun pm cd doc vs hv => by
    obtain ⟨a, rfl⟩ := len1 hv
    with_unfolding_all rfl)) rfl rfl rfl F6_ok F6_plain body6
theorem body7 {b : Bool} : Xs w n F7 [.d (.bool b), .u] [] (fnBody 7) (FnEnd (.d (.bool b))) := by
  refine' Xs.cons (X1.assign (r := .v (.type "bool")) (by rfl) (by decide +kernel) (Em.of (Ev.call (rs := [.d (.bool b)]) (f := .type "type") (Ev.blt (by decide +kernel) (by rfl) (by decide +kernel)) (.cons (Ev.nm (by rfl) rfl) .nil) Cs.typeBool (Callee.type _))) ?a1)
  simp only [List.set_cons_succ, List.set_cons_zero]
  refine Xs.cons (X1.ite (c := true) (Tm.of (Tr.eq (Tr.or (a := false) (b := true) (Tr.cmp (Ev.nm (by rfl) rfl) Ev.none Ms.isNoneBool) (fun _ => Tr.eq (Tr.or (a := true) (b := true) (Tr.cmp (a := .v (.type "bool")) (b := .v (.type "bool")) (Ev.nm (by rfl) rfl) (Ev.blt (by decide +kernel) (by rfl) (by decide +kernel)) ?a2) (fun h => nomatch h)) rfl)) rfl)) (fun _ => ?a3) (fun h => nomatch h))
  case a2 => exact Ms.isV (by rfl)
  refine Xs.cons (X1.ret (r := .d (.bool b)) (Em.of (Ev.ite (c := b) (Tr.plain (Ev.nm (by rfl) rfl) Ts.bool) (fun h => ?a4) (fun h => ?a5))) rfl)
  case a4 => subst h; exact Ev.bool
  case a5 => subst h; exact Ev.bool
theorem cs7 {b : Bool} : Cs w (n + 1) (.ref 66) [.d (.bool b)] (.d (.bool b)) :=
  Cs.def (F := F7) (k := 1) (FnAt.def (i := 7) (P := ["x"]) (by decide) rfl (fun pm cd doc vs hv => by
    obtain ⟨a, rfl⟩ := len1 hv
    with_unfolding_all rfl)) rfl rfl rfl F7_ok F7_plain body7
end
end
section
open PySem PySem.W PyProof.Rows PySem.Calls
set_option maxRecDepth 100000
set_option maxHeartbeats 1000000
section
variable {w : World} {n : Nat}
noncomputable def gtS (ys : List Str) (i j : Nat) : Bool := decide ((ys.getD j "").cps.toList < (ys.getD i "").cps.toList)
/-- the greatest of some texts -/
noncomputable def maxS (ys : List Str) : Str := ys.getD (argBest (gtS ys) (ys.length - 1)) ""
theorem strsAre_get : ∀ {vs : List Value} {ys : List Str}, StrsAre vs ys → ∀ {i : Nat} {v : Value}, vs[i]? = some v → ∃ t, v = .str (ys.getD i "") t ∧ i < ys.length
  | _, _, .cons x t h, 0, v, e => by cases e; exact ⟨t, rfl, Nat.succ_pos _⟩
  | _, _, .cons x t h, i + 1, v, e => by
    obtain ⟨t', a, b⟩ := strsAre_get h (i := i) (by simpa using e)
    exact ⟨t', by simpa using a, Nat.succ_lt_succ b⟩
  | _, _, .nil, i, v, e => by simp at e
theorem Cs.maxS {ys : List Str} (h0 : 0 < ys.length) : Cs w (n + 1) (.builtin "max") [.list (ys.map .str)] (.str (Mine.maxS ys)) := .mk fun A s G vs Q E Ro B W k h q => by
  obtain ⟨v, rfl, r⟩ := h.one
  obtain ⟨a, items, rfl, L, _, ra⟩ := Rd.list_inv k r
  have hS := RdA.strs ra
  have hz : items.size = ys.length := by have := hS.length; simpa using this
  have hlt : a < s.heap.objs.size := let ⟨_, e, _⟩ := L; Heap.lt_size e
  refine wpAny_hsz (call_max_walk (wpAny_pyIter_list L ?_))
  refine ⟨_, [_, a], [_], _, _, _, gtS ys, rfl, Walks.list (A := A.in1) (Ro.hd (by omega)) s.heap.objs.size a (Nat.ne_of_lt hlt) items, ⟨⟨_, Heap.get?_push_size _ rfl, rfl, rfl⟩, L.push _⟩, fun b hb => ?_, by rw [hz]; exact h0, ?_, fun v h' tk hP hk hs => ?_⟩
  · show b < (s.heap.push _).objs.size
    rw [Heap.size_push]
    exact Nat.lt_succ_of_le ((List.mem_cons.mp hb).elim Nat.le_of_eq fun q => Nat.le_of_lt (List.mem_singleton.mp q ▸ hlt))
  · intro i j vi vj s Q E hi hj hq
    obtain ⟨t1, rfl, _⟩ := strsAre_get hS (i := i) (v := vi) (by simpa using hi)
    obtain ⟨t2, rfl, _⟩ := strsAre_get hS (i := j) (v := vj) (by simpa using hj)
    exact richCompare_gives (op := .Gt) (typeIs_str s _ t1) (typeIs_str s _ t2) PySem.F.slot_str_gt PySem.F.entry_str_gt (PySem.F.args_str_gt_2 _ _) (gives_str_gt _ _ t1 t2) (fun x => nomatch x) hq
  · obtain ⟨t1, rfl, _⟩ := strsAre_get hS (v := v) (by simpa using hP)
    have e : ys.getD (argBest (gtS ys) (items.size - 1)) "" = Mine.maxS ys := by unfold Mine.maxS; rw [hz]
    rw [e]
    refine q _ _ _ (.old B W k tk (fun b o e => hk b o (fun z => ?_) (Heap.get?_push_of_some _ e)) hs.1 hs.2) (.str _ _)
    rw [List.mem_singleton.mp z] at e
    exact Nat.lt_irrefl _ (Heap.lt_size e)
end
end
section
open PySem PySem.W PyProof.Rows PySem.Calls
set_option maxRecDepth 100000
set_option maxHeartbeats 1000000
/-- an octet list as data -/
noncomputable abbrev oct (ns : List Int) : PyData := .list (ns.map .int)
theorem lay_ints : ∀ ns : List Int, PyData.canLayAll0 (ns.map .int) = true
  | [] => rfl
  | _ :: r => by rw [List.map_cons, PyData.canLayAll0, lay_ints r]; rfl
theorem lay_oct (ns : List Int) : PyData.canLay0 (oct ns) = true := by unfold oct; rw [PyData.canLay0]; exact lay_ints ns
theorem lay_octs : ∀ os : List (List Int), PyData.canLayAll0 (os.map oct) = true
  | [] => rfl
  | o :: r => by rw [List.map_cons, PyData.canLayAll0, lay_octs r, lay_oct]; rfl
theorem depth_ints : ∀ ns : List Int, PyData.depthAll (ns.map .int) = 0
  | [] => rfl
  | _ :: r => by rw [List.map_cons, PyData.depthAll, depth_ints r, PyData.depth]; rfl
theorem depth_oct (ns : List Int) : PyData.depth (oct ns) = 1 := by unfold oct; rw [PyData.depth, depth_ints]
theorem depth_octs : ∀ os : List (List Int), PyData.depthAll (os.map oct) ≤ 1
  | [] => Nat.zero_le _
  | o :: r => by rw [List.map_cons, PyData.depthAll, depth_oct]; have := depth_octs r; omega
theorem eqv_ints : ∀ a b : List Int, PyData.eqvAll (a.map .int) (b.map .int) = (a == b)
  | [], [] => rfl
  | [], _ :: _ => rfl
  | _ :: _, [] => rfl
  | x :: a, y :: b => by
    rw [List.map_cons, List.map_cons, PyData.eqvAll, eqv_ints a b, PyData.eqv]
    rfl
theorem eqv_oct (a b : List Int) : PyData.eqv (oct a) (oct b) = (a == b) := by
  unfold oct; rw [PyData.eqv]; exact eqv_ints a b
theorem any_oct (os : List (List Int)) (o : List Int) : ((os.map oct).any fun y => PyData.eqv y (oct o)) = os.contains o := by
  induction os with
  | nil => rfl
  | cons x r ih =>
    rw [List.map_cons, List.any_cons, ih, eqv_oct, List.contains_cons]
    congr 1
    rw [Bool.eq_iff_iff, beq_iff_eq, beq_iff_eq]
    exact eq_comm
end
section
open PySem PySem.W PyProof.Rows PySem.Calls
set_option maxRecDepth 100000
set_option maxHeartbeats 1000000
noncomputable def F29 : Fd := fdOf 29 ["one", "other", "last", "row", "k"]
theorem F29_ok : F29.ok = true := by decide +kernel
theorem F29_plain : F29.plain 2 = true := by decide +kernel
noncomputable def lastS (other : List (List Int)) : Str := maxS ("" :: other.map bits)
noncomputable def lackAt (one other : List (List Int)) (k : Nat) : Bool :=
  !(other.contains (one.getD k [])) && (!((pickL one Option.none (some (k : Int))).contains (one.getD k [])) || (other.isEmpty || decide ((lastS other).cps.toList < (bits (one.getD k [])).cps.toList)))
noncomputable def lackTo (one other : List (List Int)) : Nat → List Str
  | 0 => []
  | k + 1 => if lackAt one other k then lackTo one other k ++ [bits (one.getD k [])] else lackTo one other k
theorem lackTo_len (one other : List (List Int)) : ∀ j, (lackTo one other j).length ≤ j
  | 0 => Nat.zero_le _
  | j + 1 => by
    have := lackTo_len one other j
    unfold lackTo
    split
    · rw [List.length_append, List.length_singleton]; omega
    · omega
noncomputable def OctOk (ns : List Int) : Prop := ns.length ≤ 10 ∧ ∀ i ∈ ns, 0 ≤ i ∧ i < 256
section
variable {w : World} {n : Nat}
theorem ev_bits {F : Fd} {σ : List SV} {e : Expr} {pos p : Pos} {o : List Int} (hk : F.sc.names.lookup ("_law_bits" : Str) = some NameKind.globalImplicit) (ho : OctOk o) (h : Ev w (n + 2) F σ e (.d (oct o))) (hs : notStar e = true := by rfl)
    (ha : ∀ env, eval (.Call (.Name "_law_bits" p) [e] [] pos) env = (do callWith pos (← eval (.Name "_law_bits" p) env) [] (backTo pos (starEach [e] env)) (backToKw pos (keywordEach [] env))) := by intro _; rfl) :
    Ev w (n + 2) F σ (.Call (.Name "_law_bits" p) [e] [] pos) (.str (bits o)) :=
  Ev.call (rs := [.d (oct o)]) (f := .ref 157) (Ev.glob hk (by rfl) (by decide +kernel)) (.cons h .nil hs) (cs28 ho.1 ho.2) (Callee.fn (i := 28) (by decide +kernel)) (by simp [hs]) ha
theorem body29 {one other : List (List Int)} (h1 : one.length ≤ 60) (h2 : other.length ≤ 60) (o1 : ∀ o ∈ one, OctOk o) (o2 : ∀ o ∈ other, OctOk o) (r : List Str) (hr : ∀ ss' : List Str, ss'.Perm (lackTo one other one.length) → sortedS ss' = true → ss' = r) :
    Xs w (n + 2) F29 [.list (one.map oct), .list (other.map oct), .u, .u, .u] [] (fnBody 29) (FnEnd (.list (r.map .str))) := by
  refine' Xs.cons (X1.assign (r := .str (lastS other)) (by rfl) (by decide +kernel) (Em.of (Ev.call (rs := [.list ((("" : Str) :: other.map bits).map .str)]) (f := .builtin "max") ?a1 (.cons (Ev.bin (Ev.ls (.cons .str .nil rfl)) (Ev.comp (Lc.of (out := (other.map bits).map .str) [] (other.map oct) (fun _ => true) (fun d => match d with | .list l => .str (bits (l.map fun x => match x with | .int i => i | _ => 0)) | _ => .none) (by rfl) (by decide +kernel) (Nat.le_refl _) ?a2 (by rw [List.length_map]; omega) (fun _ _ => .nil) ?a3 ?a4)) ?a5) .nil) ?a6 (Callee.builtin _))) ?a7)
  case' a1 => walk_at "mine_ev"
  case a2 => exact Ei.list (Ev.nm (by rfl) rfl)
  case a3 =>
    intro d hd _
    obtain ⟨o, ho, rfl⟩ := List.mem_map.mp hd
    have e : (o.map PyData.int).map (fun x => match x with | .int i => i | _ => 0) = o := by rw [List.map_map]; exact List.map_id' o
    show Ev w (n + 2) _ _ _ (.str (bits ((o.map PyData.int).map fun x => match x with | .int i => i | _ => 0)))
    rw [e]
    exact ev_bits (by decide +kernel) (o2 o ho) (Ev.nm (by rfl) rfl)
  case a4 =>
    rw [List.filter_eq_self.mpr (fun _ _ => rfl), List.map_map, List.map_map]
    refine List.map_congr_left fun o _ => ?_
    show PyData.str (bits o) = .str (bits ((o.map PyData.int).map fun x => match x with | .int i => i | _ => 0))
    rw [show (o.map PyData.int).map (fun x => match x with | .int i => i | _ => 0) = o by rw [List.map_map]; exact List.map_id' o]
  case a5 => exact Bs.catL (a := [.str ""]) (by simp; omega)
  case a6 => exact Cs.maxS (by simp)
  simp only [List.set_cons_succ, List.set_cons_zero]
  refine Xs.cons (X1.newList (by rfl) (by decide +kernel) (fun a => ?b1))
  show Xs (w := w) (n + 2) F29 [.list (one.map oct), .list (other.map oct), .str (lastS other), .v (.ref a), .u] [(a, [])] _ _
  refine Xs.cons ?b2
  refine X1.for (xs := rangeL 0 1 one.length) ?b3 (fun j σ μ => ∃ c, σ = [.list (one.map oct), .list (other.map oct), .str (lastS other), .v (.ref a), c] ∧ μ = [(a, (lackTo one other j).map fun x => .d (.str x))]) ⟨.u, rfl, rfl⟩ ?b4 ?b5 (fun _ _ => rfl) Lg.name
  case b3 =>
    refine Ei.call (rs := [.int one.length]) (f := .type "range") ?c1 (.cons (Ev.call (rs := [.list (one.map oct)]) (f := .builtin "len") ?c2 (.cons (Ev.nm (by rfl) rfl) .nil) ?c3 (Callee.builtin _)) .nil) (Ci.range1 _ (by omega) (by omega) (by omega)) (Callee.type _)
    case c3 =>
      have := Cs.lenL (w := w) (n := n + 2) (l := one.map oct) (by simp; omega)
      rwa [List.length_map] at this
    all_goals walk_at "mine_ev"
  case b5 =>
    rintro σ μ ⟨c, hσ, rfl⟩
    subst hσ
    refine Xs.freeze 3 0 (a := a) (ds := (lackTo one other one.length).map .str) (by rfl) (by rw [rangeL_len]; simp [dts]) ?c4
    have hl := lackTo_len one other one.length
    exact Xs.cons (X1.ret (Em.of (Ev.call (rs := [.list ((lackTo one other one.length).map .str)]) (f := .builtin "sorted") (Ev.blt (by decide +kernel) (by rfl) (by decide +kernel)) (.cons (Ev.nm (by rfl) rfl) .nil) (Cs.sortedS (by omega) r hr) (Callee.builtin _))) rfl)
  case b4 =>
    rintro j σ μ d hd ⟨c, rfl, rfl⟩
    obtain ⟨hj, rfl⟩ := rangeL_get hd
    refine ⟨_, Tg.name (by rfl) (by decide +kernel), ?_⟩
    simp only [List.set_cons_succ, List.set_cons_zero]
    rw [show (0 + (j : Int) * 1) = j by omega]
    obtain ⟨o, ho⟩ : ∃ o, one[j]? = some o := ⟨_, List.getElem?_eq_getElem hj⟩
    have hom : o ∈ one := List.mem_of_getElem? ho
    have hgd : one.getD j [] = o := by rw [List.getD_eq_getElem?_getD, ho]; rfl
    have item : ∀ (σ : List SV) (p1 p2 p3 : Pos), lookSV "one" F29.vars F29.kinds σ = some (.list (one.map oct)) → lookSV "k" F29.vars F29.kinds σ = some (.int (j : Int)) → Ev w (n + 2) F29 σ (.Subscript (.Name "one" p1) (.Name "k" p2) p3) (.d (oct o)) :=
      fun σ p1 p2 p3 e1 e2 => Ev.item (Ev.nm e1 rfl) (Ev.nm e2 rfl) (Is.list (by omega) (by simp [ho]) (by simp; omega))
    refine Xs.cons (X1.ite (c := lackAt one other j) (Tm.of ?d1) (fun hc => ?d2) (fun hc => ?d3))
    case d1 =>
      unfold lackAt
      rw [hgd]
      refine Tr.and (Tr.cmp (item _ _ _ _ (by rfl) (by rfl)) (Ev.nm (by rfl) rfl) ?e1) (fun _ => Tr.eq (Tr.and (b := true) (Tr.or (Tr.cmp (item _ _ _ _ (by rfl) (by rfl)) (Ev.slice (Ev.nm (by rfl) rfl) Pt.no (Pt.yes (Ev.nm (by rfl) rfl)) (.list ?e5)) ?e2) (fun _ => Tr.or (Tr.cmp (Ev.nm (by rfl) rfl) (Ev.ls .nil) ?e3) (fun _ => Tr.eq (Tr.or (b := false) (Tr.cmp (ev_bits (by decide +kernel) (o1 o hom) (item _ _ _ _ (by rfl) (by rfl))) (Ev.nm (by rfl) rfl) ?e4) (fun _ => Tr.or_nil)) (Bool.or_false _)))) (fun _ => Tr.and_nil)) (Bool.and_true _))
      case e1 => rw [← any_oct]; exact Ms.notinL (lay_oct o) (lay_octs _) (Nat.le_trans (depth_octs _) (by decide))
      case e2 => rw [← any_oct, pickL_map]; exact Ms.notinL (lay_oct o) (lay_octs _) (Nat.le_trans (depth_octs _) (by decide))
      case e3 =>
        have : other.isEmpty = PyData.eqv (.list (other.map oct)) (.list []) := by cases other <;> rfl
        rw [this]
        exact Ms.eqD (by rw [PyData.canLay0]; exact lay_octs _) (by rfl) (by rw [PyData.depth]; have := depth_octs other; omega)
      case e4 => exact Ms.gtS
      case e5 => simp; omega
    case d2 =>
      refine Xs.cons (X1.append 0 (a := a) (rs := (lackTo one other j).map fun x => .d (.str x)) (r := .str (bits o)) (by rfl) (by rfl) (Em.of (ev_bits (by decide +kernel) (o1 o hom) (item _ _ _ _ (by rfl) (by rfl)))) ?f1 ?f2)
      case f1 => have := lackTo_len one other j; simp; omega
      refine Xs.nil (Xs.nil ⟨_, rfl, ?_⟩)
      simp [lackTo, hc, hgd, ho]
    case d3 =>
      refine Xs.nil (Xs.nil ⟨_, rfl, ?_⟩)
      simp [lackTo, hc]
theorem cs29 {one other : List (List Int)} (h1 : one.length ≤ 60) (h2 : other.length ≤ 60) (o1 : ∀ o ∈ one, OctOk o) (o2 : ∀ o ∈ other, OctOk o) (r : List Str) (hr : ∀ ss' : List Str, ss'.Perm (lackTo one other one.length) → sortedS ss' = true → ss' = r) :
    Cs w (n + 3) (.ref 162) [.list (one.map oct), .list (other.map oct)] (.list (r.map .str)) :=
  Cs.def (F := F29) (k := 2) (FnAt.def (i := 29) (P := ["one", "other"]) (by decide) rfl (fun pm cd doc vs hv => by
    obtain ⟨a, b, rfl⟩ := len2 hv
    with_unfolding_all rfl)) rfl rfl rfl F29_ok F29_plain (body29 h1 h2 o1 o2 r hr)
end
end
section
open PySem PySem.W PyProof.Rows PySem.Calls PySem.SeqAt
set_option maxRecDepth 100000
set_option maxHeartbeats 1000000
section
variable {w : World} {n : Nat}
theorem Cs.count {l : List PyData} {d : PyData} (ha : PyData.canLayAll0 l = true) (hb : d.canLay0 = true) (hd : PyData.depthAll l ≤ 300) : Cs w n (.builtin "list.count") [.list l, .d d] (.int (l.countP fun y => PyData.eqv y d : Nat)) := .mk fun A s G vs Q E Ro B W k h q => by
  obtain ⟨v, u, rfl, r, r'⟩ := h.two
  obtain ⟨_, r1⟩ := Rd.reads k r
  obtain ⟨_, r2⟩ := Rd.reads k r'
  cases r1 with
  | list h1 h2 h3 h4 =>
    rename_i a o items m as
    obtain ⟨cls, dd, data, sl⟩ := o
    simp only at h2 h3
    subst h2 h3
    have e : (items.toList.countP fun y => PyData.eqv (readOf s.heap y) d) = l.countP fun y => PyData.eqv y d := by
      rw [← readsAll_map l _ _ ha h4, List.countP_map]; rfl
    refine call_meets PySem.F.slot_list_count ⟨_, h1, rfl⟩ PySem.F.entry_list_count (PySem.F.args_list_count_2 _ _) (list_countAt a items _ dd sl u fun y => PyData.eqv (readOf s.heap y) d) ⟨h1, items_eqAt h4 r2 ha hb (depth_room Ro hd), ?_⟩
    rw [e]
    exact q _ _ _ (.tok B W k _) (.int _ _)
theorem countP_oct (os : List (List Int)) (o : List Int) : ((os.map oct).countP fun y => PyData.eqv y (oct o)) = os.count o := by
  rw [List.countP_map, List.count]
  refine List.countP_congr fun x _ => ?_
  show PyData.eqv (oct x) (oct o) = true ↔ _
  rw [eqv_oct]
theorem RdA.reverse {G : GH} : ∀ {vs : List Value} {ds : List PyData}, RdA G vs ds → RdA G vs.reverse ds.reverse
  | _, _, .nil => .nil
  | _, _, .cons a b => by rw [List.reverse_cons, List.reverse_cons]; exact (RdA.reverse b).snoc a
/-- x[::-1] of a list -/
theorem Ev.rev {F : Fd} {σ : List SV} {e st : Expr} {p pos : Pos} {xs : List PyData} (h : Ev w n F σ e (.list xs)) (hst : Pt w n F σ (some st) (some (-1))) (hsz : xs.length ≤ 1000000)
    (ht : ∀ o r, letTemporaryGo e o r = pure () := by intro _ _; rfl) : Ev w n F σ (.Subscript e (.Slice Option.none Option.none (some st) p) pos) (.list xs.reverse) := .mk fun env A s G Q E I Ro B R q => by
  refine wpAny_Subscript_Slice_step (T := "list") PySem.list_getitem_lookup (h.run env A s G _ E I Ro B R fun v s1 G1 g1 r1 => wpAny_Slice ?_) ht
  rw [evalPart_none]
  refine wpAny_pure (wpAny_pure ?_)
  refine hst.run I Ro g1.bare (R.grow g1) fun vl s3 G3 p1 _ _ ip g3 => ?_
  obtain ⟨a, items, rfl, L, _, ra⟩ := Rd.list_inv g3.sub (r1.ext g3.le)
  have z1 : items.size = xs.length := by rw [← ra.length]; simp
  refine ⟨(L.push _).typeIs, wpAny_getItem_list_slice (L.push _) (Heap.IsSliceOf.new ..) .none .none ip (by decide) ?_ (by rw [z1, sizeLine_eq]; omega)⟩
  have g4 := Grow.push0 (s := s3) g3.bare g3.wd g3.sub { cls := .type "slice", data := .fields #[.none, .none, vl] } s3.toks
  have g5 := Grow.push (s := { s3 with heap := s3.heap.push { cls := .type "slice", data := .fields #[.none, .none, vl] } }) g4.bare g4.wd g4.sub { cls := .type "list", data := .seq (slicePick items Option.none Option.none (some (-1))) } s3.toks rfl (Nat.le_refl _)
  refine q _ _ _ (g1.trans (g3.trans (g4.trans g5))) (.list GH.put_self rfl rfl rfl ?_)
  rw [krv_pick]
  show RdA _ items.toList.reverse xs.reverse
  exact ra.reverse.ext (GH.put_le (g4.sub.none (Nat.le_refl _)))
end
end
section
open PySem PySem.W PyProof.Rows PySem.Calls
set_option maxRecDepth 100000
set_option maxHeartbeats 1000000
section
variable {F : Fd}
/-- the target takes the list first -/
theorem swaps_comp {elt : Expr} {gens : List Comprehension} {scope : Scope} {pos py : Pos} {y : Str} {line : Nat} (hk : F.sc.names.lookup y = some NameKind.local) (hl : (py.line == pos.line) = true)
    (hn : (scope.names.any fun p => p.1 == y && (p.2 == .local || p.2 == .cell)) = false) : ∀ env : Env, EnvIs F env → swapsWith (.ListComp elt gens scope pos) (some (.Name y py)) line env = pure true := fun env I => by
  show (pure (env.blockKind == .function && env.kindOf y == some .local && py.line == pos.line && !(scope.names.any fun p => p.1 == y && (p.2 == .local || p.2 == .cell))) : Sem Bool) = pure true
  rw [I.block, I.kind, hk, hl, hn]
  rfl
/-- and where its name is a cell, it does not -/
theorem swaps_cell {elt : Expr} {gens : List Comprehension} {scope : Scope} {pos py : Pos} {y : Str} {line : Nat} (hk : F.sc.names.lookup y = some NameKind.cell) : ∀ env : Env, EnvIs F env → swapsWith (.ListComp elt gens scope pos) (some (.Name y py)) line env = pure false := fun env I => by
  show (pure (env.blockKind == .function && env.kindOf y == some .local && py.line == pos.line && !(scope.names.any fun p => p.1 == y && (p.2 == .local || p.2 == .cell))) : Sem Bool) = pure false
  rw [I.block, I.kind, hk]
  rfl
end
end
section
open PySem PySem.W PyProof.Rows PySem.Calls
set_option maxRecDepth 100000
set_option maxHeartbeats 1000000
noncomputable def F30 : Fd := fdOf 30 ["first", "second", "missing", "left"]
theorem F30_ok : F30.ok = true := by decide +kernel
theorem F30_plain : F30.plain 2 = true := by decide +kernel
noncomputable def missP (f s : List (List Int)) (k : Nat) : Bool := decide ((s.count (f.getD k []) : Int) < ((pickL f (some (k : Int)) Option.none).count (f.getD k []) : Int))
noncomputable def leftP (f s : List (List Int)) (k : Nat) : Bool := decide ((f.count (s.getD k []) : Int) < ((pickL s Option.none (some (k + 1 : Int))).count (s.getD k []) : Int))
noncomputable def missL (f s : List (List Int)) : List Str := ((List.range f.length).filter (missP f s)).map fun k => bits (f.getD k [])
noncomputable def leftL (f s : List (List Int)) : List Str := ((List.range s.length).filter (leftP f s)).map fun k => bits (s.getD k [])
section
variable {w : World} {n : Nat}
theorem ev_count {F : Fd} {σ : List SV} {e1 e2 : Expr} {apos pos : Pos} {os : List (List Int)} {o : List Int} (h1 : Ev w (n + 1) F σ e1 (.list (os.map oct))) (h2 : Ev w (n + 1) F σ e2 (.d (oct o))) (hs : notStar e2 = true := by rfl)
    (hbase : ∀ env, attributeBase e1 "count" env (eval e1 env) = eval e1 env := by intro _; rfl) (hline : (apos.endLine == pos.line) = true := by rfl) :
    Ev w (n + 1) F σ (.Call (.Attribute e1 "count" apos) [e2] [] pos) (.int (os.count o : Nat)) := by
  rw [← countP_oct]
  exact Ev.meth (rs := [.d (oct o)]) PySem.F.plainAttrs_list PySem.F.slot_list_count PySem.F.type_list_count h1 .list (.cons h2 .nil hs) (Cs.count (lay_octs os) (lay_oct o) (Nat.le_trans (depth_octs os) (by decide))) hbase hline (by simp [hs]) (by rfl)
theorem lcFS {k : Nat} {p : Nat → Bool} {g : Nat → Str} {p' : PyData → Bool} {f : PyData → PyData} (hp : ∀ i, i < k → p' (.int (0 + (i : Int) * 1)) = p i) (hf : ∀ i, i < k → f (.int (0 + (i : Int) * 1)) = .str (g i)) : (((List.range k).filter p).map g).map PyData.str = ((rangeL 0 1 k).filter p').map f := by
  unfold rangeL
  rw [List.filter_map, List.map_map, List.map_map]
  have e : (List.range k).filter (p' ∘ fun i : Nat => PyData.int (0 + (i : Int) * 1)) = (List.range k).filter p := List.filter_congr fun i hi => hp i (List.mem_range.mp hi)
  rw [e]
  exact List.map_congr_left fun i hi => (hf i (List.mem_range.mp (List.mem_filter.mp hi).1)).symm
theorem body30 {f s : List (List Int)} (h1 : f.length ≤ 60) (h2 : s.length ≤ 60) (o1 : ∀ o ∈ f, OctOk o) (o2 : ∀ o ∈ s, OctOk o) (r1 r2 : List Str) (hr1 : ∀ ss' : List Str, ss'.Perm (lackTo f s f.length) → sortedS ss' = true → ss' = r1) (hr2 : ∀ ss' : List Str, ss'.Perm (lackTo s f s.length) → sortedS ss' = true → ss' = r2) :
    Xs w (n + 3) F30 [.list (f.map oct), .list (s.map oct), .u, .u] [] (fnBody 30) (FnEnd (.list [.tuple [.list (r1.map .str), .list (r2.map .str)], .tuple [.list ((missL f s).reverse.map .str), .list ((leftL f s).map .str)]])) := by
  refine Xs.cons (X1.assignComp (out := (missL f s).map .str) (Lc.of [.list (f.map oct), .list (s.map oct)] (rangeL 0 1 f.length) (fun d => match d with | .int k => missP f s k.toNat | _ => false) (fun d => match d with | .int k => .str (bits (f.getD k.toNat [])) | _ => .none) (by rfl) (by decide +kernel) (Nat.le_refl _) ?a1 (by rw [rangeL_len]; omega) ?a2 ?a3 ?a4) (by rfl) (by decide +kernel) ?a5 (swaps_comp (by decide +kernel) (by rfl) (by decide +kernel)))
  case a1 =>
    refine Ei.call (rs := [.int f.length]) (f := .type "range") ?c1 (.cons (Ev.call (rs := [.list (f.map oct)]) (f := .builtin "len") ?c2 (.cons (Ev.nm (by rfl) rfl) .nil) ?c3 (Callee.builtin _)) .nil) (Ci.range1 _ (by omega) (by omega) (by omega)) (Callee.type _)
    case c3 =>
      have := Cs.lenL (w := w) (n := n + 3) (l := f.map oct) (by simp; omega)
      rwa [List.length_map] at this
    all_goals walk_at "mine_ev"
  case a4 => exact lcFS (fun i hi => by simp) (fun i hi => by simp)
  case a2 =>
    intro d hd
    obtain ⟨k, hk, rfl⟩ := List.mem_map.mp hd
    have hk := List.mem_range.mp hk
    rw [show (0 + (k : Int) * 1) = k by omega]
    obtain ⟨o, ho⟩ : ∃ o, f[k]? = some o := ⟨_, List.getElem?_eq_getElem hk⟩
    have hgd : f.getD k [] = o := by rw [List.getD_eq_getElem?_getD, ho]; rfl
    show Ifs _ _ _ _ _ (missP f s k)
    unfold missP
    rw [hgd]
    refine .one (Tr.cmp (ev_count (by rw [← pickL_map]; exact Ev.slice (Ev.nm (by rfl) rfl) (Pt.yes (Ev.nm (by rfl) rfl)) Pt.no (.list (by simp; omega))) ?d1) (ev_count (Ev.nm (by rfl) rfl) ?d2) .gtI)
    case d1 => exact Ev.item (Ev.nm (by rfl) rfl) (Ev.nm (by rfl) rfl) (Is.list (by omega) (by simp [ho]) (by simp; omega))
    case d2 => exact Ev.item (Ev.nm (by rfl) rfl) (Ev.nm (by rfl) rfl) (Is.list (by omega) (by simp [ho]) (by simp; omega))
  case a3 =>
    intro d hd _
    obtain ⟨k, hk, rfl⟩ := List.mem_map.mp hd
    have hk := List.mem_range.mp hk
    rw [show (0 + (k : Int) * 1) = k by omega]
    obtain ⟨o, ho⟩ : ∃ o, f[k]? = some o := ⟨_, List.getElem?_eq_getElem hk⟩
    have hgd : f.getD k [] = o := by rw [List.getD_eq_getElem?_getD, ho]; rfl
    show Ev w (n + 3) _ _ _ (.str (bits (f.getD k [])))
    rw [hgd]
    exact ev_bits (by decide +kernel) (o1 o (List.mem_of_getElem? ho)) (Ev.item (Ev.nm (by rfl) rfl) (Ev.nm (by rfl) rfl) (Is.list (by omega) (by simp [ho]) (by simp; omega)))
  case a5 =>
    simp only [List.set_cons_succ, List.set_cons_zero]
    refine Xs.cons (X1.assignComp (out := (leftL f s).map .str) (Lc.of [.list (f.map oct), .list (s.map oct)] (rangeL 0 1 s.length) (fun d => match d with | .int k => leftP f s k.toNat | _ => false) (fun d => match d with | .int k => .str (bits (s.getD k.toNat [])) | _ => .none) (by rfl) (by decide +kernel) (Nat.le_refl _) ?b1 (by rw [rangeL_len]; omega) ?b2 ?b3 ?b4) (by rfl) (by decide +kernel) ?b5 (swaps_comp (by decide +kernel) (by rfl) (by decide +kernel)))
    case b1 =>
      refine Ei.call (rs := [.int s.length]) (f := .type "range") ?c1b (.cons (Ev.call (rs := [.list (s.map oct)]) (f := .builtin "len") ?c2b (.cons (Ev.nm (by rfl) rfl) .nil) ?c3b (Callee.builtin _)) .nil) (Ci.range1 _ (by omega) (by omega) (by omega)) (Callee.type _)
      case c3b =>
        have := Cs.lenL (w := w) (n := n + 3) (l := s.map oct) (by simp; omega)
        rwa [List.length_map] at this
      all_goals walk_at "mine_ev"
    case b4 => exact lcFS (fun i hi => by simp) (fun i hi => by simp)
    case b2 =>
      intro d hd
      obtain ⟨k, hk, rfl⟩ := List.mem_map.mp hd
      have hk := List.mem_range.mp hk
      rw [show (0 + (k : Int) * 1) = k by omega]
      obtain ⟨o, ho⟩ : ∃ o, s[k]? = some o := ⟨_, List.getElem?_eq_getElem hk⟩
      have hgd : s.getD k [] = o := by rw [List.getD_eq_getElem?_getD, ho]; rfl
      show Ifs _ _ _ _ _ (leftP f s k)
      unfold leftP
      rw [hgd]
      refine .one (Tr.cmp (ev_count (by rw [← pickL_map]; exact Ev.slice (Ev.nm (by rfl) rfl) Pt.no (Pt.yes (Ev.bin (Ev.nm (by rfl) rfl) .int .add)) (.list (by simp; omega))) ?d1b) (ev_count (Ev.nm (by rfl) rfl) ?d2b) .gtI)
      case d1b => exact Ev.item (Ev.nm (by rfl) rfl) (Ev.nm (by rfl) rfl) (Is.list (by omega) (by simp [ho]) (by simp; omega))
      case d2b => exact Ev.item (Ev.nm (by rfl) rfl) (Ev.nm (by rfl) rfl) (Is.list (by omega) (by simp [ho]) (by simp; omega))
    case b3 =>
      intro d hd _
      obtain ⟨k, hk, rfl⟩ := List.mem_map.mp hd
      have hk := List.mem_range.mp hk
      rw [show (0 + (k : Int) * 1) = k by omega]
      obtain ⟨o, ho⟩ : ∃ o, s[k]? = some o := ⟨_, List.getElem?_eq_getElem hk⟩
      have hgd : s.getD k [] = o := by rw [List.getD_eq_getElem?_getD, ho]; rfl
      show Ev w (n + 3) _ _ _ (.str (bits (s.getD k [])))
      rw [hgd]
      exact ev_bits (by decide +kernel) (o2 o (List.mem_of_getElem? ho)) (Ev.item (Ev.nm (by rfl) rfl) (Ev.nm (by rfl) rfl) (Is.list (by omega) (by simp [ho]) (by simp; omega)))
    case b5 =>
      simp only [List.set_cons_succ, List.set_cons_zero]
      have hlm : (missL f s).length ≤ 60 := by
        unfold missL
        rw [List.length_map]
        exact Nat.le_trans (List.length_filter_le _ _) (by rw [List.length_range]; exact h1)
      have c1 := cs29 (w := w) (n := n) h1 h2 o1 o2 r1 hr1
      have c2 := cs29 (w := w) (n := n) h2 h1 o2 o1 r2 hr2
      refine Xs.cons (X1.ret (Em.of (Ev.ls (.cons (Ev.tp (.cons ?g1 (.cons ?g2 .nil rfl) rfl)) (.cons (Ev.tp (.cons ?g3 (.cons (Ev.nm (by rfl) rfl) .nil rfl) rfl)) .nil rfl) rfl))) rfl)
      case g1 => exact Ev.call (rs := [.list (f.map oct), .list (s.map oct)]) (f := .ref 162) (Ev.glob (by decide +kernel) (by rfl) (by decide +kernel)) (.cons (Ev.nm (by rfl) rfl) (.cons (Ev.nm (by rfl) rfl) .nil)) c1 (Callee.fn (i := 29) (by decide +kernel))
      case g2 => exact Ev.call (rs := [.list (s.map oct), .list (f.map oct)]) (f := .ref 162) (Ev.glob (by decide +kernel) (by rfl) (by decide +kernel)) (.cons (Ev.nm (by rfl) rfl) (.cons (Ev.nm (by rfl) rfl) .nil)) c2 (Callee.fn (i := 29) (by decide +kernel))
      case g3 =>
        rw [List.map_reverse]
        exact Ev.rev (Ev.nm (by rfl) rfl) (Pt.yes (Ev.neg .int)) (by simp; omega)
theorem cs30 {f s : List (List Int)} (h1 : f.length ≤ 60) (h2 : s.length ≤ 60) (o1 : ∀ o ∈ f, OctOk o) (o2 : ∀ o ∈ s, OctOk o) (r1 r2 : List Str) (hr1 : ∀ ss' : List Str, ss'.Perm (lackTo f s f.length) → sortedS ss' = true → ss' = r1) (hr2 : ∀ ss' : List Str, ss'.Perm (lackTo s f s.length) → sortedS ss' = true → ss' = r2) :
    Cs w (n + 4) (.ref 167) [.list (f.map oct), .list (s.map oct)] (.list [.tuple [.list (r1.map .str), .list (r2.map .str)], .tuple [.list ((missL f s).reverse.map .str), .list ((leftL f s).map .str)]]) :=
  Cs.def (F := F30) (k := 2) (FnAt.def (i := 30) (P := ["first", "second"]) (by decide) rfl (fun pm cd doc vs hv => by
    obtain ⟨a, b, rfl⟩ := len2 hv
    with_unfolding_all rfl)) rfl rfl rfl F30_ok F30_plain (body30 h1 h2 o1 o2 r1 r2 hr1 hr2)
end
end
section
open PySem PySem.W PyProof.Rows PySem.Calls
set_option maxRecDepth 100000
set_option maxHeartbeats 1000000
section
variable {w : World} {n : Nat} {F : Fd} {σ : List SV} {μ : Mu} {Φ : Out → Prop}
/-- x[i] of an own list of own lists -/
theorem Em.ownItem {x : Str} {i : Nat} {a b : Addr} {rs : List SV} {jb : Nat} {kk : Nat} {xp cp pos : Pos} (hx : lookSV x F.vars F.kinds σ = some (.v (.ref b))) (hj : μ[jb]? = some (b, rs)) (hi : rs[i]? = some (.v (.ref a))) (hl : rs.length ≤ 1000) :
    Em w n F σ μ (.Subscript (.Name x xp) (.Constant (.int i) kk cp) pos) (.v (.ref a)) := .mk fun s₀ G₀ env A s G Q E I Ro T O q =>
  Subscript_ ((Ev.nm hx rfl).run env A s G _ _ I Ro T.grow.bare T.rel fun v s1 G1 g1 r1 => Ev.int.run env A s1 G1 _ _ I Ro g1.bare (T.rel.grow g1) fun y s2 G2 g2 r2 => by
    cases r1
    obtain ⟨t, rfl⟩ := Rd.int_inv r2
    have O2 := (O.grow g1).grow g2
    obtain ⟨ys, p, ra⟩ := (O2.at_ _ (List.mem_of_getElem? hj)).pl
    obtain ⟨v, hv, rv⟩ := ra.get hi
    cases rv
    have hlt : i < rs.length := by
      rcases Nat.lt_or_ge i rs.length with h | h
      · exact h
      · rw [List.getElem?_eq_none h] at hi; cases hi
    refine tail_any (TypeIs.plain p) slot_list_getitem.lookup ?_ rfl
    exact wpAny_getItem_list p.isList (by omega) (by omega) (by simpa using hv) (q _ _ _ (g1.trans g2) rfl))
/-- e0.append(e), e0 an own list -/
theorem X1.appendE {e0 e : Expr} {r : SV} {rs : List SV} {a : Addr} (j : Nat) {apos cpos pos : Pos} (h0e : Em w n F σ μ e0 (.v (.ref a))) (hj : μ[j]? = some (a, rs)) (h : Em w n F σ μ e r) (hlen : rs.length ≤ 1000000) (hΦ : Φ (.next σ (μ.set j (a, rs ++ [r]))))
    (h0 : notStar e = true := by rfl) (hline : (apos.endLine == cpos.line) = true := by rfl) (hbase : ∀ env, attributeBase e0 "append" env (eval e0 env) = eval e0 env := by intro _; rfl) : X1 w n F σ μ (.Expr (.Call (.Attribute e0 "append" apos) [e] [] cpos) pos) Φ := .mk fun s₀ G₀ env A s G Q E I Fr Ro T O q => by
  refine wpAny_Expr ?_ I.inter rfl
  refine wpAny_Call_method (hbase env) ?_ hline PySem.F.plainAttrs_list PySem.F.slot_list_append PySem.F.type_list_append ?_
  · rw [backTo_few (by simp [h0])]; rfl
  · refine h0e.run s₀ G₀ env A s G _ E I Ro T O fun v s1 G1 g1 r1 => ?_
    cases r1
    have T1 := T.step g1
    have O1 := O.grow g1
    obtain ⟨ys, p1, _⟩ := (O1.at_ _ (List.mem_of_getElem? hj)).pl
    refine ⟨TypeIs.plain p1, fun b q => ?_, ?_⟩
    · cases q; obtain ⟨k, e⟩ := p1; exact ⟨_, e, rfl⟩
    · refine callWith_of_args (.inl ⟨_, rfl⟩) (starEach_any (by simp [h0])) (evalArgs_es (by simp [h0]) ?_)
      rw [starEach_cons h0]
      refine spliced_cons (h.run s₀ G₀ env A s1 G1 _ E I Ro T1 O1 fun v s2 G2 g2 r2 => spliced_nil ⟨g2.wd, ?_⟩)
      have T2 := T1.step g2
      have O2 := O1.grow g2
      obtain ⟨ys2, p2, ra2⟩ := (O2.at_ _ (List.mem_of_getElem? hj)).pl
      have hsz : ys2.size ≤ sizeLine := by
        have := ra2.length
        simp only [Array.length_toList] at this
        rw [sizeLine_eq]; omega
      refine wpAny_list_append_plain (hsz := hsz) p2 fun h5 pl5 sb5 => ?_
      obtain ⟨T3, O3, f3⟩ := T2.mut O2 hj sb5 pl5 (rs' := rs ++ [r]) (by rw [Array.toList_push]; exact ra2.snoc r2) s2.toks
      exact q (.next _ _) _ _ hΦ ⟨rfl, _, T3, O3, ((Frm.grow g1).trans (Frm.grow g2)).trans f3⟩
end
end
section
open PySem PySem.W PyProof.Rows PySem.Calls
set_option maxRecDepth 100000
set_option maxHeartbeats 1000000
section
variable {w : World} {n : Nat} {F : Fd} {σ : List SV} {μ : Mu} {Φ : Out → Prop}
theorem RvA.set {G : GH} : ∀ {rs : List SV} {vs : List Value} {i : Nat} {r : SV} {v : Value}, RvA G rs vs → vs[i]? = some v → Rv G r v → RvA G (rs.set i r) vs
  | _ :: _, _ :: _, 0, _, _, ⟨_, b⟩, e, h => by cases e; exact ⟨h, b⟩
  | _ :: _, _ :: _, i + 1, _, _, ⟨a, b⟩, e, h => ⟨a, RvA.set b (by simpa using e) h⟩
  | [], [], _, _, _, _, e, _ => by simp at e
  | [], _ :: _, _, _, _, z, _, _ => z.elim
  | _ :: _, [], _, _, _, z, _, _ => z.elim
/-- an own list becomes part of what stands: no slot need hold it -/
theorem St.put0 {s₀ : Shared} {G₀ : GH} {env : Env} {s : Shared} {G : GH} {j : Nat} {a : Addr} {ds : List PyData} (T : St s₀ G₀ F σ env s G) (O : Own s₀ env s.heap G μ) (hj : μ[j]? = some (a, dts ds)) :
    ∃ o, G a = Option.none ∧ s₀.heap.objs.size ≤ a ∧ a < s.heap.objs.size ∧ Rd (G.put a o) (.ref a) (.list ds) ∧ St s₀ G₀ F σ env s (G.put a o) ∧ Own s₀ env s.heap (G.put a o) (μ.eraseIdx j) ∧ Frm env μ.ad s G (Mu.ad (μ.eraseIdx j)) s (G.put a o) := by
  have hm : (a, dts ds) ∈ μ := List.mem_of_getElem? hj
  obtain ⟨h1, h2, h3, ⟨ys, ⟨nn, h4⟩, h5⟩, h6, h7⟩ := O.at_ _ hm
  dsimp only at h1 h2 h3 h4 h5 h6 h7
  have hle : G.Le (G.put a { cls := .type "list", data := .seq ys nn }) := GH.put_le h1
  have hin : (G.put a { cls := .type "list", data := .seq ys nn }).In s.heap := fun b o e => by
    unfold GH.put at e
    by_cases q : b = a
    · rw [if_pos q] at e; cases e; subst q; exact h4
    · rw [if_neg q] at e; exact T.grow.sub b o e
  have hother : ∀ b, b ≠ a → (G.put a { cls := .type "list", data := .seq ys nn }) b = G b := fun b q => by unfold GH.put; rw [if_neg q]
  obtain ⟨m, N, S⟩ := T.rel.slots
  have hrd : Rd (G.put a { cls := .type "list", data := .seq ys nn }) (.ref a) (.list ds) := .list GH.put_self rfl rfl rfl (RdA.ext h5.data hle)
  refine ⟨_, h1, h2, Heap.lt_size h4, hrd, ⟨⟨T.grow.os, T.grow.bare.put (Nat.ne_of_gt (Nat.lt_of_lt_of_le (by decide) h3)), T.grow.keep, T.grow.wd, hin, T.grow.le.trans hle, fun b o e => ?_, T.grow.size, T.grow.toks⟩, ⟨T.rel.wd, hin, m, N, S.keep T.rel.wd (Keep.refl _) hle⟩, T.fl, ?_, fun p hp => ?_⟩, ⟨?_, fun p hp => ?_⟩, ⟨fun _ _ _ _ _ _ e => e, hle, fun x hx => .inl ?_, fun _ e => e, fun b h hb _ => (hother b fun q => ?_).trans h⟩⟩
  · by_cases q : b = a
    · exact .inr (q ▸ h2)
    · rw [hother b q] at e; exact T.grow.new b o e
  · rw [hother _ h6]
    exact T.pL
  · rw [hother _ (h7 p hp)]
    exact T.pC p hp
  · exact O.nd.sublist ((List.eraseIdx_sublist ..).map _)
  · have hpm : p ∈ μ := List.mem_of_mem_eraseIdx hp
    obtain ⟨z1, z2, z3, ⟨ys', z4, z5⟩, z6, z7⟩ := O.at_ p hpm
    exact ⟨(hother _ (nodup_erase O.nd hj hp)).trans z1, z2, z3, ⟨ys', z4, z5.ext hle⟩, z6, z7⟩
  · exact (List.Sublist.map _ (List.eraseIdx_sublist μ j)).subset hx
  · exact hb (q ▸ List.mem_map_of_mem (f := (·.1)) hm)
theorem set_own {μ : Mu} {jb : Nat} {b : Addr} {rs rs' : List SV} {s₀ : Shared} {env : Env} {h : Heap} {G : GH} (O : Own s₀ env h G μ) (hb : μ[jb]? = some (b, rs)) (hr : ∀ ys, RvA G rs ys → RvA G rs' ys) : Own s₀ env h G (μ.set jb (b, rs')) := by
  refine ⟨by rw [ad_set hb]; exact O.nd, fun p hp => ?_⟩
  rcases List.mem_or_eq_of_mem_set hp with z | z
  · exact O.at_ p z
  · subst z
    obtain ⟨z1, z2, z3, ⟨ys, d, e⟩, z4, z5⟩ := O.at_ _ (List.mem_of_getElem? hb)
    exact ⟨z1, z2, z3, ⟨ys, d, hr _ e⟩, z4, z5⟩
theorem RvA.see {G : GH} {a : Addr} {d : SV} (hd : Rv G d (.ref a)) : ∀ {rs : List SV} {vs : List Value} {i : Nat}, rs[i]? = some (.v (.ref a)) → RvA G rs vs → RvA G (rs.set i d) vs
  | _ :: _, _ :: _, 0, e, ⟨x, b⟩ => by cases e; cases x; exact ⟨hd, b⟩
  | _ :: _, _ :: _, i + 1, e, ⟨x, b⟩ => ⟨x, RvA.see hd (by simpa using e) b⟩
  | [], [], _, e, _ => by simp at e
  | [], _ :: _, _, _, z => z.elim
  | _ :: _, [], _, _, z => z.elim
/-- an own list, an item of another own list, is frozen there -/
theorem Xs.freezeIn {sts : List Stmt} (j jb i : Nat) {a b : Addr} {ds : List PyData} {rs : List SV} (hj : μ[j]? = some (a, dts ds)) (hb : (μ.eraseIdx j)[jb]? = some (b, rs)) (hi : rs[i]? = some (.v (.ref a))) (h : Xs w n F σ ((μ.eraseIdx j).set jb (b, rs.set i (.d (.list ds)))) sts Φ) : Xs w n F σ μ sts Φ :=
  .mk fun s₀ G₀ env A s G Q E I Fr Ro T O q => by
    obtain ⟨o, h1, h2, h3, hrd, T', O', fr⟩ := T.put0 O hj
    have O'' := set_own (rs' := rs.set i (.d (.list ds))) O' hb fun ys hy => RvA.see (d := .d (.list ds)) hrd hi hy
    refine h.run s₀ G₀ env A s _ Q E I Fr Ro T' O'' fun o fl s' a b => q o fl s' a (b.trans ?_)
    rw [ad_set hb]
    exact fr
end
end
section
open PySem PySem.W PyProof.Rows PySem.Calls
set_option maxRecDepth 100000
set_option maxHeartbeats 1000000
section
variable {w : World} {n : Nat} {F : Fd} {σ : List SV} {μ : Mu} {Φ : Out → Prop}
/-- a fresh list of one's own -/
theorem St.fresh {s₀ : Shared} {G₀ : GH} {env : Env} {s : Shared} {G : GH} (T : St s₀ G₀ F σ env s G) (O : Own s₀ env s.heap G μ) (vs : List Value) (rs : List SV) (hr : RvA G rs vs) (t : Nat) (ht : s.toks ≤ t := by omega) :
    St s₀ G₀ F σ env { s with heap := s.heap.push { cls := .type "list", data := .seq vs.toArray }, toks := t } G ∧ Own s₀ env (s.heap.push { cls := .type "list", data := .seq vs.toArray }) G ((s.heap.objs.size, rs) :: μ) ∧
      Frm env μ.ad s G (Mu.ad ((s.heap.objs.size, rs) :: μ)) { s with heap := s.heap.push { cls := .type "list", data := .seq vs.toArray }, toks := t } G := by
  have g2 := Grow.push0 (s := s) T.grow.bare T.rel.wd T.rel.sub { cls := .type "list", data := .seq vs.toArray } t
  have hno : G s.heap.objs.size = Option.none := T.rel.sub.none (Nat.le_refl _)
  obtain ⟨m1, N1, _⟩ := T.rel.slots
  refine ⟨T.step g2, ⟨List.nodup_cons.mpr ⟨fun q => ?_, O.nd⟩, fun p hp => ?_⟩, ⟨fun b o h1 _ _ _ e => g2.keep b o h1 e, .refl _, fun a h => ?_, g2.live, fun _ h _ _ => h⟩⟩
  · obtain ⟨p, hp, e⟩ := List.mem_map.mp q
    obtain ⟨ys, d, _⟩ := (O.at_ p hp).pl
    exact Nat.lt_irrefl _ (e ▸ PlainList_lt d)
  · rcases List.mem_cons.mp hp with rfl | hp
    · exact ⟨hno, T.grow.size, T.rel.wd.size, ⟨vs.toArray, ⟨_, Heap.get?_push_size _ rfl⟩, by simpa using hr⟩, Nat.ne_of_lt N1.lt, fun q hq => Nat.ne_of_lt (T.ltC hq)⟩
    · exact (O.grow g2).at_ p hp
  · rcases List.mem_cons.mp h with rfl | h
    · exact .inr (get_none (Nat.le_refl _))
    · exact .inl h
/-- x = [[], []] -/
theorem X1.newLists2 {i : Nat} {x : Str} {p p1 p2 p' pos : Pos} (hx : ixOf x F.vars = some i) (hk : storable x F.vars F.kinds = true) (hΦ : ∀ a1 a2 b, Φ (.next (σ.set i (.v (.ref b))) ((b, [.v (.ref a1), .v (.ref a2)]) :: (a2, []) :: (a1, []) :: μ)))
    (hs : ∀ env : Env, EnvIs F env → swapsWith (.List [.List [] p1, .List [] p2] p') (some (.Name x p)) pos.line env = pure false := by intro _ _; rfl) : X1 w n F σ μ (.Assign [.Name x p] (.List [.List [] p1, .List [] p2] p') pos) Φ := .mk fun s₀ G₀ env A s G Q E I Fr Ro T O q => by
  refine wpAny_Assign_Name (List_ ?_) (hs env I)
  show wpAny _ _ (spliced [(false, _), (false, _)]) _ _ _
  refine spliced_cons (List_ (spliced_nil (wpAny_newObj_type ?_ (by show 0 ≤ sizeLine; exact Nat.zero_le _))))
  obtain ⟨T1, O1, f1⟩ := T.fresh O [] [] trivial s.toks
  refine spliced_cons (List_ (spliced_nil (wpAny_newObj_type ?_ (by show 0 ≤ sizeLine; exact Nat.zero_le _))))
  obtain ⟨T2, O2, f2⟩ := T1.fresh O1 [] [] trivial s.toks (Nat.le_refl _)
  refine spliced_nil (wpAny_newObj_type ?_ (by show 2 ≤ sizeLine; rw [sizeLine_eq]; decide))
  obtain ⟨T3, O3, f3⟩ := T2.fresh O2 [_, _] [.v _, .v _] ⟨rfl, rfl, trivial⟩ s.toks (Nat.le_refl _)
  exact T3.storeN I Fr O3 hx hk (r := .v (.ref _)) rfl fun s4 T4 O4 f4 => q (.next _ _) _ _ (hΦ _ _ _) ⟨rfl, _, T4, O4, f1.trans (f2.trans (f3.trans (f4 _)))⟩
end
end
section
open PySem PySem.W PyProof.Rows PySem.Calls
set_option maxRecDepth 100000
set_option maxHeartbeats 1000000
noncomputable def F24 : Fd := fdOf 24 ["script", "folders", "x", "octets"]
theorem F24_ok : F24.ok = true := by decide +kernel
theorem F24_plain : F24.plain 1 = true := by decide +kernel
noncomputable def octI (x : Int) (size : Nat) : List Int := (List.range size).map fun k => ([0, 97, 98, 255] : List Int).getD (x / 4 ^ k % 4).toNat 0
theorem octs_I (x : Int) (size : Nat) : octs x size = (octI x size).map .int := by
  unfold octs octI
  rw [List.map_map]
  refine List.map_congr_left fun k _ => ?_
  unfold oct1
  rcases mod4 (x / 4 ^ k) with h | h | h | h <;> simp [h]
noncomputable def octF (x : Int) : List Int := octI (x / 5) (x % 5).toNat
noncomputable def inF (t : Int) (xs : List Int) : List (List Int) := (xs.filter fun x => x / 1280 % 3 != t).map octF
noncomputable def scrIn (xs : List Int) : List Int := pickL xs (some 1) (some 11) ++ [6, 1287, 1568, 2571, 67, 67, 2560]
section
variable {w : World} {n : Nat}
theorem body24 {xs : List Int} (hl : xs.length ≤ 63) : Xs w (n + 2) F24 [.list (xs.map .int), .u, .u, .u] [] (fnBody 24) (FnEnd (.list [.list ((inF 1 (scrIn xs)).map oct), .list ((inF 0 (scrIn xs)).map oct)])) := by
  refine Xs.cons (X1.newLists2 (by rfl) (by decide +kernel) (fun a1 a2 b => ?a1))
  show Xs w (n + 2) F24 [.list (xs.map .int), .v (.ref b), .u, .u] [(b, [.v (.ref a1), .v (.ref a2)]), (a2, []), (a1, [])] _ _
  refine Xs.cons ?b0
  refine X1.for (xs := (scrIn xs).map .int) ?b1 (fun j σ μ => ∃ c d, σ = [.list (xs.map .int), .v (.ref b), c, d] ∧ μ = [(b, [.v (.ref a1), .v (.ref a2)]), (a2, (inF 0 ((scrIn xs).take j)).map fun o => .d (oct o)), (a1, (inF 1 ((scrIn xs).take j)).map fun o => .d (oct o))]) ⟨.u, .u, rfl, rfl⟩ ?b2 ?b3 (fun _ _ => rfl) Lg.name
  case b1 =>
    refine Ei.list ?_
    unfold scrIn
    rw [List.map_append, ← pickL_map]
    refine Ev.bin (Ev.slice (Ev.nm (by rfl) rfl) (Pt.yes .int) (Pt.yes .int) (.list (by simp; omega))) (Ev.ls (.cons .int (.cons .int (.cons .int (.cons .int (.cons .int (.cons .int (.cons .int .nil rfl) rfl) rfl) rfl) rfl) rfl) rfl)) (Bs.catL ?c1)
    have := pickL_len_le (xs.map PyData.int) (some 1) (some 11)
    simp at this ⊢
    omega
  case b3 =>
    rintro σ μ ⟨c, d, rfl, rfl⟩
    rw [List.length_map, List.take_length]
    refine Xs.freezeIn 2 0 0 (a := a1) (ds := (inF 1 (scrIn xs)).map oct) (by simp [dts]) (by rfl) (by rfl) ?d1
    refine Xs.freezeIn 1 0 1 (a := a2) (ds := (inF 0 (scrIn xs)).map oct) (by simp [dts]) (by rfl) (by rfl) ?d2
    refine Xs.freeze 1 0 (a := b) (ds := [.list ((inF 1 (scrIn xs)).map oct), .list ((inF 0 (scrIn xs)).map oct)]) (by rfl) (by rfl) ?d3
    exact Xs.cons (X1.ret (Em.of (Ev.nm (by rfl) rfl)) rfl)
  case b2 =>
    rintro j σ μ d hd ⟨c, e, rfl, rfl⟩
    obtain ⟨x, hx, rfl⟩ : ∃ x, (scrIn xs)[j]? = some x ∧ d = .int x := by
      rw [List.getElem?_map] at hd
      cases h : (scrIn xs)[j]? with
      | none => rw [h] at hd; cases hd
      | some x => rw [h] at hd; cases hd; exact ⟨x, rfl, rfl⟩
    refine ⟨_, Tg.name (by rfl) (by decide +kernel), ?_⟩
    simp only [List.set_cons_succ, List.set_cons_zero]
    refine Xs.cons (X1.assign (r := .d (oct (octF x))) (by rfl) (by decide +kernel) (Em.of ?e1) ?e2)
    case e1 =>
      have hm : (((x % 5).toNat : Nat) : Int) = x % 5 := Int.toNat_of_nonneg (Int.emod_nonneg _ (by decide))
      have hc := cs22 (w := w) (n := n) (x := x / 5) (size := (x % 5).toNat) (by omega)
      rw [hm, octs_I] at hc
      exact Ev.call (rs := [.int (x / 5), .int (x % 5)]) (f := .ref 125) (Ev.glob (by decide +kernel) (by rfl) (by decide +kernel)) (.cons (Ev.bin (Ev.nm (by rfl) rfl) .int (.fdiv (by decide) (by decide))) (.cons (Ev.bin (Ev.nm (by rfl) rfl) .int (.mod (by decide))) .nil)) hc (Callee.fn (i := 22) (by decide +kernel))
    simp only [List.set_cons_succ, List.set_cons_zero]
    have htk : (scrIn xs).take (j + 1) = (scrIn xs).take j ++ [x] := by rw [List.take_add_one, hx]; rfl
    have hlen : ∀ t, (inF t ((scrIn xs).take j)).length ≤ 1000 := fun t => by
      unfold inF
      rw [List.length_map]
      refine Nat.le_trans (List.length_filter_le _ _) ?_
      rw [List.length_take]
      have := pickL_len_le xs (some 1) (some 11)
      unfold scrIn
      simp
      omega
    have step : ∀ t, inF t ((scrIn xs).take (j + 1)) = if x / 1280 % 3 != t then inF t ((scrIn xs).take j) ++ [octF x] else inF t ((scrIn xs).take j) := fun t => by
      unfold inF
      rw [htk, List.filter_append, List.map_append]
      by_cases q : (x / 1280 % 3 != t) = true
      · simp [q]
      · simp [q]
    refine Xs.cons (X1.mono (Φ := (· = .next [.list (xs.map .int), .v (.ref b), .int x, .d (oct (octF x))] [(b, [.v (.ref a1), .v (.ref a2)]), (a2, (inF 0 ((scrIn xs).take j)).map fun o => SV.d (oct o)), (a1, (inF 1 ((scrIn xs).take (j + 1))).map fun o => SV.d (oct o))])) ?f1 ?f2)
    case f1 =>
      refine X1.ite (c := x / 1280 % 3 != 1) (Tm.of (Tr.cmp (Ev.bin (Ev.bin (Ev.nm (by rfl) rfl) .int (.fdiv (by decide) (by decide))) .int (.mod (by decide))) .int .neI)) (fun hc => ?_) (fun hc => ?_)
      · refine Xs.cons (X1.appendE (a := a1) (rs := (inF 1 ((scrIn xs).take j)).map fun o => .d (oct o)) (r := .d (oct (octF x))) 2 (Em.ownItem (jb := 0) (by rfl) (by rfl) (by rfl) (by simp)) (by rfl) (Em.of (Ev.nm (by rfl) rfl)) ?_ (Xs.nil ?_))
        · have := hlen 1; simp; omega
        · have e := step 1
          rw [if_pos hc] at e
          rw [e, List.map_append]
          rfl
      · refine Xs.nil ?_
        have e := step 1
        rw [if_neg (by simp [hc])] at e
        rw [e]
    case f2 =>
      rintro _ rfl
      refine Xs.cons (X1.mono (Φ := (· = .next [.list (xs.map .int), .v (.ref b), .int x, .d (oct (octF x))] [(b, [.v (.ref a1), .v (.ref a2)]), (a2, (inF 0 ((scrIn xs).take (j + 1))).map fun o => SV.d (oct o)), (a1, (inF 1 ((scrIn xs).take (j + 1))).map fun o => SV.d (oct o))])) ?g1 ?g2)
      case g1 =>
        refine X1.ite (c := x / 1280 % 3 != 0) (Tm.of (Tr.cmp (Ev.bin (Ev.bin (Ev.nm (by rfl) rfl) .int (.fdiv (by decide) (by decide))) .int (.mod (by decide))) .int .neI)) (fun hc => ?_) (fun hc => ?_)
        · refine Xs.cons (X1.appendE (a := a2) (rs := (inF 0 ((scrIn xs).take j)).map fun o => .d (oct o)) (r := .d (oct (octF x))) 1 (Em.ownItem (jb := 0) (by rfl) (by rfl) (by rfl) (by simp)) (by rfl) (Em.of (Ev.nm (by rfl) rfl)) ?_ (Xs.nil ?_))
          · have := hlen 0; simp; omega
          · have e := step 0
            rw [if_pos hc] at e
            rw [e, List.map_append]
            rfl
        · refine Xs.nil ?_
          have e := step 0
          rw [if_neg (by simp [hc])] at e
          rw [e]
      case g2 =>
        rintro _ rfl
        exact Xs.nil ⟨_, _, rfl, rfl⟩
theorem cs24 {xs : List Int} (hl : xs.length ≤ 63) : Cs w (n + 3) (.ref 137) [.list (xs.map .int)] (.list [.list ((inF 1 (scrIn xs)).map oct), .list ((inF 0 (scrIn xs)).map oct)]) :=
  Cs.def (F := F24) (k := 1) (FnAt.def (i := 24) (P := ["script"]) (by decide) rfl (fun pm cd doc vs hv => by
    obtain ⟨a, rfl⟩ := len1 hv
    with_unfolding_all rfl)) rfl rfl rfl F24_ok F24_plain (body24 hl)
end
end
section
open PySem PySem.W PyProof.Rows PySem.Calls
set_option maxRecDepth 100000
set_option maxHeartbeats 1000000
/-! base64 as the text reckons it -/
noncomputable def b64c (i : Int) : Int := ((b64L.getD i.toNat 0).toNat : Int)
noncomputable def w64 : Nat → List Int → Int → Int → List Int × Int
  | 0, out, lb, _ => (out, lb)
  | f + 1, out, lb, lc => if 6 ≤ lb then w64 f (out ++ [b64c (Builtin.bitAnd (lc.fdiv (2 ^ (lb - 6).toNat)) 63)]) (lb - 6) lc else (out, lb)
structure S64 where
  out : List Int
  lb : Int
  lc : Int
noncomputable def S64.step (s : S64) (b : Int) : S64 :=
  let lc := Builtin.bitAnd (Builtin.bitOr (s.lc * 2 ^ (8 : Int).toNat) b) 65535
  let r := w64 2 s.out (s.lb + 8) lc
  ⟨r.1, r.2, lc⟩
noncomputable def S64.run (bs : List Int) : S64 := bs.foldl S64.step ⟨[], 0, 0⟩
noncomputable def S64.done (s : S64) : List Int :=
  if s.lb == 2 then s.out ++ [b64c (Builtin.bitAnd s.lc 3 * 2 ^ (4 : Int).toNat)] ++ [61] ++ [61]
  else if s.lb == 4 then s.out ++ [b64c (Builtin.bitAnd s.lc 15 * 2 ^ (2 : Int).toNat)] ++ [61] else s.out
noncomputable def b64E (bs : List Int) : List Int := (S64.run bs).done
theorem b64L_len : b64L.length = 64 := by decide +kernel
theorem b64c_ok (i : Int) : 0 ≤ b64c i ∧ b64c i < 256 := by
  unfold b64c
  have := (b64L.getD i.toNat 0).toNat_lt
  omega
structure S64.Ok (s : S64) (k : Nat) : Prop where
  lb0 : 0 ≤ s.lb
  lb1 : s.lb < 6
  lc0 : 0 ≤ s.lc
  lc1 : s.lc ≤ 65535
  len : s.out.length ≤ 2 * k
  inb : ∀ i ∈ s.out, 0 ≤ i ∧ i < 256
theorem w64_ok : ∀ (f : Nat) (out : List Int) (lb lc : Int), 0 ≤ lb → lb < 6 + 6 * f → (∀ i ∈ out, 0 ≤ i ∧ i < 256) → 0 ≤ (w64 f out lb lc).2 ∧ (w64 f out lb lc).2 < 6 ∧ out.length ≤ (w64 f out lb lc).1.length ∧ (w64 f out lb lc).1.length ≤ out.length + f ∧ ∀ i ∈ (w64 f out lb lc).1, 0 ≤ i ∧ i < 256
  | 0, out, lb, lc, h0, h1, hi => ⟨h0, by show lb < 6; omega, Nat.le_refl _, Nat.le_refl _, hi⟩
  | f + 1, out, lb, lc, h0, h1, hi => by
    unfold w64
    by_cases q : 6 ≤ lb
    · rw [if_pos q]
      obtain ⟨a, b, c, d, e⟩ := w64_ok f (out ++ [b64c (Builtin.bitAnd (lc.fdiv (2 ^ (lb - 6).toNat)) 63)]) (lb - 6) lc (by omega) (by omega) (fun i hm => by
        rcases List.mem_append.mp hm with hm | hm
        · exact hi i hm
        · rw [List.mem_singleton.mp hm]; exact b64c_ok _)
      refine ⟨a, b, ?_, ?_, e⟩
      · rw [List.length_append, List.length_singleton] at c; omega
      · rw [List.length_append, List.length_singleton] at d; omega
    · rw [if_neg q]
      exact ⟨h0, by show lb < 6; omega, Nat.le_refl _, Nat.le_add_right _ _, hi⟩
theorem S64.step_ok {s : S64} {k : Nat} (h : s.Ok k) (b : Int) : (s.step b).Ok (k + 1) := by
  obtain ⟨a, b', c, d, e⟩ := w64_ok 2 s.out (s.lb + 8) (Builtin.bitAnd (Builtin.bitOr (s.lc * 2 ^ (8 : Int).toNat) b) 65535) (by have := h.lb0; omega) (by have := h.lb1; omega) h.inb
  have r := bitAnd_range (Builtin.bitOr (s.lc * 2 ^ (8 : Int).toNat) b) (y := 65535) (by decide)
  exact ⟨a, b', r.1, r.2, by have := h.len; show (w64 2 _ _ _).1.length ≤ _; omega, e⟩
theorem S64.run_ok : ∀ (bs : List Int), (S64.run bs).Ok bs.length := by
  have : ∀ (bs : List Int) (s : S64) (k : Nat), s.Ok k → (bs.foldl S64.step s).Ok (k + bs.length) := by
    intro bs
    induction bs with
    | nil => intro s k h; exact h
    | cons b bs ih =>
      intro s k h
      have := ih _ _ (S64.step_ok h b)
      rw [List.foldl_cons, List.length_cons, show k + (bs.length + 1) = k + 1 + bs.length by omega]
      exact this
  intro bs
  have h := this bs ⟨[], 0, 0⟩ 0 ⟨Int.le_refl _, by decide, Int.le_refl _, by decide, Nat.le_refl _, fun _ h => nomatch h⟩
  rwa [Nat.zero_add] at h
theorem S64.done_ok {s : S64} {k : Nat} (h : s.Ok k) : s.done.length ≤ 2 * k + 3 ∧ ∀ i ∈ s.done, 0 ≤ i ∧ i < 256 := by
  have hi := h.inb
  have hl := h.len
  unfold S64.done
  split
  · refine ⟨by simp; omega, fun i hm => ?_⟩
    simp only [List.mem_append, List.mem_singleton] at hm
    rcases hm with ((hm | rfl) | rfl) | rfl
    · exact hi i hm
    · exact b64c_ok _
    · decide
    · decide
  · split
    · refine ⟨by simp; omega, fun i hm => ?_⟩
      simp only [List.mem_append, List.mem_singleton] at hm
      rcases hm with (hm | rfl) | rfl
      · exact hi i hm
      · exact b64c_ok _
      · decide
    · exact ⟨by omega, hi⟩

section
variable {w : World} {n : Nat} {F : Fd} {σ : List SV} {μ : Mu} {Φ : Out → Prop}
theorem Ev.vb {e : Expr} {b : Array UInt8} {t : Tok} (h : Ev w n F σ e (.v (.bytes b t))) : Ev w n F σ e (.b b) := .mk fun env A s G Q E I Ro B R q =>
  h.run env A s G Q E I Ro B R fun v s' G' g r => q v s' G' g ⟨t, r⟩
theorem Is.b64 {i : Int} (h0 : 0 ≤ i) (h1 : i < 64) : Is w n (.b b64Arr) (.int i) (.int (b64c i)) := .mk fun A s G x y Q E Ro B W k r1 r2 => by
  obtain ⟨t, rfl⟩ := r1
  obtain ⟨u, rfl⟩ := Rd.int_inv r2
  refine ⟨⟨_, _, PySem.W.typeIs_bytes _ _ _, PySem.W.FB.slot_bytes_getitem.lookup⟩, fun q => ?_⟩
  exact getItem_bytes (l := b64L) (by rw [b64L_len]; decide) h0 (by rw [b64L_len]; omega) (q _ _ _ (.tok B W k _) (.int _ _))
theorem ev_b64 {e : Expr} {i : Int} {p pos : Pos} (hk : F.sc.names.lookup ("_B64" : Str) = some NameKind.globalImplicit) (h : Ev w n F σ e (.int i)) (h0 : 0 ≤ i) (h1 : i < 64) (hs : ∀ x y, subscripted e false x y = operate [x, y] (getItem x y) := by intro _ _; rfl) :
    Ev w n F σ (.Subscript (.Name "_B64" p) e pos) (.int (b64c i)) :=
  Ev.item (Ev.vb (Ev.glob (v := .bytes b64Arr 333) hk (by rfl) (by decide +kernel))) h (Is.b64 h0 h1) hs
end
end
section
open PySem PySem.W PyProof.Rows PySem.Calls
set_option maxRecDepth 100000
set_option maxHeartbeats 1000000
noncomputable def F9 : Fd := fdOf 9 ["data", "newline", "bin_data", "out", "leftbits", "leftchar", "b"]
theorem F9_ok : F9.ok = true := by decide +kernel
theorem F9_plain : F9.plain 2 = true := by decide +kernel
/-- the ints of bytes -/
noncomputable def intsB (b : Array UInt8) : List Int := b.toList.map fun c => ((c.toNat : Nat) : Int)
theorem byL_ints (b : Array UInt8) : byL b = (intsB b).map .int := by unfold byL intsB; rw [List.map_map]; rfl
theorem intsB_of {ns : List Int} (h : ∀ i ∈ ns, 0 ≤ i ∧ i < 256) : intsB (byteArr ns) = ns := by
  unfold intsB byteArr
  rw [List.map_map]
  refine (List.map_congr_left fun i hi => ?_).trans (List.map_id _)
  obtain ⟨a, b⟩ := h i hi
  show ((i.toNat.toUInt8.toNat : Nat) : Int) = i
  rw [Nat.toUInt8, UInt8.toNat_ofNat']
  omega
noncomputable abbrev dtI (l : List Int) : List SV := l.map fun i => SV.d (.int i)
theorem w64_len : ∀ (f : Nat) (out : List Int) (lb lc : Int), out.length ≤ (w64 f out lb lc).1.length
  | 0, out, lb, lc => Nat.le_refl _
  | f + 1, out, lb, lc => by
    unfold w64
    split
    · have := w64_len f (out ++ [b64c (Builtin.bitAnd (lc.fdiv (2 ^ (lb - 6).toNat)) 63)]) (lb - 6) lc
      rw [List.length_append, List.length_singleton] at this
      omega
    · exact Nat.le_refl _
section
variable {w : World} {n : Nat}
theorem body9 {b : Array UInt8} (hb : b.size ≤ 1000) : Xs w (n + 1) F9 [.b b, .d (.bool false), .u, .u, .u, .u, .u] [] (fnBody 9) (FnEnd (.b (byteArr (b64E (intsB b))))) := by
  refine Xs.cons (X1.assign (r := .b b) (by rfl) (by decide +kernel) (Em.of (Ev.call (rs := [.b b]) (f := .ref 59) (Ev.glob (by decide +kernel) (by rfl) (by decide +kernel)) (.cons (Ev.nm (by rfl) rfl) .nil) cs6 (Callee.fn (i := 6) (by decide +kernel)))) ?_)
  simp only [List.set_cons_succ, List.set_cons_zero]
  refine Xs.cons (X1.assign (r := .d (.bool false)) (by rfl) (by decide +kernel) (Em.of (Ev.call (rs := [.d (.bool false)]) (f := .ref 66) (Ev.glob (by decide +kernel) (by rfl) (by decide +kernel)) (.cons (Ev.nm (by rfl) rfl) .nil) cs7 (Callee.fn (i := 7) (by decide +kernel)))) ?_)
  simp only [List.set_cons_succ, List.set_cons_zero]
  refine Xs.cons (X1.newList (by rfl) (by decide +kernel) (fun a => ?_))
  simp only [List.set_cons_succ, List.set_cons_zero]
  refine Xs.cons (X1.assign (r := .int 0) (by rfl) (by decide +kernel) (Em.of Ev.int) ?_)
  simp only [List.set_cons_succ, List.set_cons_zero]
  refine Xs.cons (X1.assign (r := .int 0) (by rfl) (by decide +kernel) (Em.of Ev.int) ?_)
  simp only [List.set_cons_succ, List.set_cons_zero]
  refine Xs.cons ?_
  have hsz : (intsB b).length = b.size := by simp [intsB]
  refine X1.for (xs := byL b) (Ei.bytes (Ev.nm (by rfl) rfl)) (fun j σ μ => ∃ c, σ = [.b b, .d (.bool false), .b b, .v (.ref a), .int (S64.run ((intsB b).take j)).lb, .int (S64.run ((intsB b).take j)).lc, c] ∧ μ = [(a, dtI (S64.run ((intsB b).take j)).out)]) ⟨.u, rfl, rfl⟩ ?b2 ?b3 (fun _ _ => rfl) Lg.name
  case b2 =>
    rintro j σ μ d hd ⟨c, rfl, rfl⟩
    rw [byL_ints, List.getElem?_map] at hd
    obtain ⟨x, hx, rfl⟩ : ∃ x, (intsB b)[j]? = some x ∧ d = .int x := by
      cases h : (intsB b)[j]? with
      | none => rw [h] at hd; cases hd
      | some x => rw [h] at hd; cases hd; exact ⟨x, rfl, rfl⟩
    have htk : (intsB b).take (j + 1) = (intsB b).take j ++ [x] := by rw [List.take_add_one, hx]; rfl
    have hjl : j < (intsB b).length := by
      rcases Nat.lt_or_ge j (intsB b).length with h | h
      · exact h
      · rw [List.getElem?_eq_none h] at hx; cases hx
    have hst : S64.run ((intsB b).take (j + 1)) = (S64.run ((intsB b).take j)).step x := by unfold S64.run; rw [htk, List.foldl_append]; rfl
    have hok := S64.run_ok ((intsB b).take j)
    have hlj : ((intsB b).take j).length ≤ 1000 := by rw [List.length_take]; omega
    rw [hst]
    generalize S64.run ((intsB b).take j) = st at hok
    have hok1 := S64.step_ok hok x
    have hx0 : 0 ≤ x := by
      have := List.mem_of_getElem? hx
      unfold intsB at this
      obtain ⟨u, _, rfl⟩ := List.mem_map.mp this
      omega
    refine ⟨_, Tg.name (by rfl) (by decide +kernel), ?_⟩
    simp only [List.set_cons_succ, List.set_cons_zero]
    refine Xs.cons (X1.assign (r := .int (st.step x).lc) (by rfl) (by decide +kernel) (Em.of (Ev.bin (Ev.bin (Ev.bin (Ev.nm (by rfl) rfl) .int (.shl (by decide) (by decide) ?c1)) (Ev.nm (by rfl) rfl) .or) .int .and)) ?c2)
    case c1 => have := hok.lc0; have := hok.lc1; omega
    simp only [List.set_cons_succ, List.set_cons_zero]
    refine Xs.cons (X1.assign (r := .int (st.lb + 8)) (by rfl) (by decide +kernel) (Em.of (Ev.bin (Ev.nm (by rfl) rfl) .int .add)) ?_)
    simp only [List.set_cons_succ, List.set_cons_zero]
    refine Xs.cons (X1.while (fun k σ μ => ∃ out lb, σ = [.b b, .d (.bool false), .b b, .v (.ref a), .int lb, .int (st.step x).lc, .int x] ∧ μ = [(a, dtI out)] ∧ 0 ≤ lb ∧ lb < 6 + 6 * (k : Int) ∧ w64 k out lb (st.step x).lc = ((st.step x).out, (st.step x).lb)) 2 ⟨st.out, st.lb + 8, rfl, rfl, ?d1, ?d2, rfl⟩ ?d4)
    case d1 => have := hok.lb0; omega
    case d2 => have := hok.lb1; omega
    case d4 =>
      rintro k σ μ ⟨out, lb, rfl, rfl, h0, h1, hw⟩
      refine ⟨decide (6 ≤ lb), Tm.of (Tr.cmp (Ev.nm (by rfl) rfl) .int .geI), fun ht => ?_, fun ht => ?_⟩
      · have ht : 6 ≤ lb := of_decide_eq_true ht
        obtain ⟨k, rfl⟩ : ∃ k', k = k' + 1 := ⟨k - 1, by omega⟩
        have hr := bitAnd_range ((st.step x).lc.fdiv (2 ^ (lb - 6).toNat)) (y := 63) (by decide)
        refine Xs.cons (X1.append 0 (a := a) (rs := dtI out) (r := .int (b64c (Builtin.bitAnd ((st.step x).lc.fdiv (2 ^ (lb - 6).toNat)) 63))) (by rfl) (by rfl) (Em.of (ev_b64 (by decide +kernel) (Ev.bin (Ev.bin (Ev.nm (by rfl) rfl) (Ev.bin (Ev.nm (by rfl) rfl) .int .sub) (.shr (by omega))) .int .and) hr.1 (by have := hr.2; omega))) ?e1 ?e2)
        case e1 =>
          have h3 := w64_len (k + 1) out lb (st.step x).lc
          rw [hw] at h3
          have h4 := hok1.len
          simp only [dtI, List.length_map] at h3 ⊢
          omega
        refine Xs.cons (X1.assign (r := .int (lb - 6)) (by rfl) (by decide +kernel) (Em.of (Ev.bin (Ev.nm (by rfl) rfl) .int .sub)) (Xs.nil ⟨k, Nat.lt_succ_self k, out ++ [b64c (Builtin.bitAnd ((st.step x).lc.fdiv (2 ^ (lb - 6).toNat)) 63)], lb - 6, rfl, ?e3, by omega, by omega, ?e4⟩))
        case e3 => simp [dtI]
        case e4 => rw [← hw, w64, if_pos ht]
      · have ht : ¬ 6 ≤ lb := of_decide_eq_false ht
        have : (out, lb) = ((st.step x).out, (st.step x).lb) := by
          rw [← hw]
          cases k with
          | zero => rfl
          | succ k => rw [w64, if_neg ht]
        cases this
        exact Xs.nil ⟨_, rfl, rfl⟩
  case b3 =>
    rintro σ μ ⟨c, rfl, rfl⟩
    rw [byL_len, ← hsz, List.take_length]
    have hok := S64.run_ok (intsB b)
    have e0 : b64E (intsB b) = (S64.run (intsB b)).done := rfl
    rw [e0]
    have hd := S64.done_ok hok
    generalize S64.run (intsB b) = st at hok hd
    refine Xs.cons (X1.mono (Φ := (· = .next [.b b, .d (.bool false), .b b, .v (.ref a), .int st.lb, .int st.lc, c] [(a, dtI st.done)])) ?f1 ?f2)
    case f2 =>
      rintro _ rfl
      refine Xs.cons (X1.ite (c := false) (Tm.of (Tr.plain (Ev.nm (by rfl) rfl) Ts.bool)) (fun h => nomatch h) (fun _ => Xs.nil ?_))
      refine Xs.freeze 3 0 (a := a) (ds := st.done.map .int) (by rfl) (by simp [dts, dtI]) ?g1
      simp only [List.set_cons_succ, List.set_cons_zero]
      exact Xs.cons (X1.ret (Em.of (Ev.call (rs := [.list (st.done.map .int)]) (f := .type "bytes") (Ev.blt (by decide +kernel) (by rfl) (by decide +kernel)) (.cons (Ev.nm (by rfl) rfl) .nil) (Cs.bytesOf hd.2 (by have := hd.1; omega)) (Callee.type _))) rfl)
    case f1 =>
      have hlen := hok.len
      refine X1.ite (c := st.lb == 2) (Tm.of (Tr.cmp (Ev.nm (by rfl) rfl) .int .eqI)) (fun hc => ?_) (fun hc => ?_)
      · have hr := bitAnd_range st.lc (y := 3) (by decide)
        refine Xs.cons (X1.append 0 (a := a) (rs := dtI st.out) (r := .int (b64c (Builtin.bitAnd st.lc 3 * 2 ^ (4 : Int).toNat))) (by rfl) (by rfl) (Em.of (ev_b64 (by decide +kernel) (Ev.bin (Ev.bin (Ev.nm (by rfl) rfl) .int .and) .int (.shl (by decide) (by decide) (by omega))) (by show 0 ≤ Builtin.bitAnd st.lc 3 * 16; omega) (by have := hr.2; show _ * 16 < 64; omega))) (by simp [dtI]; omega) ?_)
        refine Xs.cons (X1.append 0 (a := a) (r := .int 61) (by rfl) (by rfl) (Em.of Ev.int) (by simp [dtI]; omega) ?_)
        refine Xs.cons (X1.append 0 (a := a) (r := .int 61) (by rfl) (by rfl) (Em.of Ev.int) (by simp [dtI]; omega) (Xs.nil ?_))
        simp [S64.done, hc, dtI]
      · refine Xs.cons (X1.ite (c := st.lb == 4) (Tm.of (Tr.cmp (Ev.nm (by rfl) rfl) .int .eqI)) (fun hc2 => ?_) (fun hc2 => Xs.nil (Xs.nil ?_)))
        · have hr := bitAnd_range st.lc (y := 15) (by decide)
          refine Xs.cons (X1.append 0 (a := a) (rs := dtI st.out) (r := .int (b64c (Builtin.bitAnd st.lc 15 * 2 ^ (2 : Int).toNat))) (by rfl) (by rfl) (Em.of (ev_b64 (by decide +kernel) (Ev.bin (Ev.bin (Ev.nm (by rfl) rfl) .int .and) .int (.shl (by decide) (by decide) (by omega))) (by show 0 ≤ Builtin.bitAnd st.lc 15 * 4; omega) (by have := hr.2; show _ * 4 < 64; omega))) (by simp [dtI]; omega) ?_)
          refine Xs.cons (X1.append 0 (a := a) (r := .int 61) (by rfl) (by rfl) (Em.of Ev.int) (by simp [dtI]; omega) (Xs.nil (Xs.nil ?_)))
          simp [S64.done, hc, hc2, dtI]
        · simp [S64.done, hc, hc2, dtI]
theorem FnD.def9 : ∀ h, Wd h → DefAt F9 74 ["data", "newline"] (fnBody 9) h 1 ["newline"] fun vs kvs => vs ++ kvs := fun h W => by
  obtain ⟨g, Bs, kk⟩ := W.base
  obtain ⟨o, pm, cd, doc, e, d, c⟩ := Bs.fn9.keeps fun p o e => (kk p o e).2.2
  refine ⟨o, _, e, d, c, rfl, rfl, rfl, rfl, rfl, (fun a e => nomatch e), fun s vs kvs _ hv hk => .of_eq ?_⟩
  obtain ⟨a, rfl⟩ := len1 hv
  obtain ⟨b, rfl⟩ := len1 hk
  with_unfolding_all rfl
theorem ck9 {b : Array UInt8} (hb : b.size ≤ 1000) : Ck w (n + 2) (.ref 74) [.b b] ["newline"] [.d (.bool false)] (.b (byteArr (b64E (intsB b)))) :=
  Ck.def (F := F9) (rs := [.b b, .d (.bool false)]) (k := 2) FnD.def9 rfl rfl rfl rfl rfl F9_ok F9_plain (fun G vs kvs h1 h2 => by
    obtain ⟨v, rfl, r⟩ := h1.one
    obtain ⟨u, rfl, r'⟩ := h2.one
    exact ⟨r, r', trivial⟩) (body9 hb)
end
end
section
open PySem PySem.W PyProof.Rows PySem.Calls
set_option maxRecDepth 100000
set_option maxHeartbeats 1000000
section
variable {w : World} {n : Nat} {F : Fd} {σ : List SV} {μ : Mu} {Φ : Out → Prop}
/-- f(e, k=x) of a def of the top -/
theorem Ev.callKw {fe e x : Expr} {kn : Str} {r rk r1 : SV} {a : Addr} {pos kp : Pos} (h1 : Ev w n F σ fe (.v (.ref a))) (h2 : Ev w n F σ e r1) (hx : Ev w n F σ x rk) (h3 : Ck w n (.ref a) [r1] [kn] [rk] r) (hf : ∀ h, Wd h → ∃ o fd, h.get? a = some o ∧ o.data = .func fd)
    (h0 : notStar e = true := by rfl)
    (ha : ∀ env, eval (.Call fe [e] [⟨some kn, x, kp⟩] pos) env = (do callWith pos (← eval fe env) [] (backTo pos (starEach [e] env)) (backToKw pos (keywordEach [⟨some kn, x, kp⟩] env))) := by intro _; rfl) :
    Ev w n F σ (.Call fe [e] [⟨some kn, x, kp⟩] pos) r := .mk fun env A s G Q E I Ro B R q => by
  rw [ha]
  refine wpAny_bind (h1.run env A s G _ _ I Ro B R fun v s1 G1 g1 e1 => ?_)
  cases e1
  obtain ⟨o, fd, ho, hd⟩ := hf _ g1.wd
  have R1 := R.grow g1
  refine callWith_function_kw (o := o) (fd := fd) ?_
  rw [starEach_cons h0]
  refine evalArgs_kw (by rfl) (spliced_cons (h2.run env A s1 G1 _ _ I Ro g1.bare R1 fun v2 s2 G2 g2 r2 => spliced_nil ?_))
  refine wpAny_evalAll_cons (wpAny_bind (hx.run env A s2 G2 _ _ I Ro g2.bare (R1.grow g2) fun v3 s3 G3 g3 r3 => wpAny_bind (wpAny_standAt (wpAny_pure (wpAny_evalAll_nil ⟨⟨?_, hd⟩, ?_⟩)))))
  · exact (g2.trans g3).keep _ _ (g1.wd.ne ho fun vs z => by rw [hd] at z; cases z) ho
  · exact h3.run A s3 G3 [v2] [v3] Q E Ro g3.bare g3.wd g3.sub ⟨r2.ext g3.le, trivial⟩ ⟨r3, trivial⟩ fun v s4 G4 g4 r4 => q v s4 G4 (g1.trans (g2.trans (g3.trans g4))) r4
theorem Ms.isNotNone : Ms w n .IsNot (.d .none) (.d .none) false := .mk fun A s G x y Q E Ro B W k h1 h2 q => by
  cases Rd.none_inv h1; cases Rd.none_inv h2
  exact wpAny_isNot_plain (by rfl) (q s G (.refl B W k))
end
noncomputable def F11 : Fd := fdOf 11 ["s", "altchars", "encoded"]
theorem F11_ok : F11.ok = true := by decide +kernel
theorem F11_plain : F11.plain 2 = true := by decide +kernel
noncomputable def F23 : Fd := fdOf 23 ["octets"]
theorem F23_ok : F23.ok = true := by decide +kernel
theorem F23_plain : F23.plain 1 = true := by decide +kernel
section
variable {w : World} {n : Nat}
theorem body11 {b : Array UInt8} (hb : b.size ≤ 1000) : Xs w (n + 2) F11 [.b b, .d .none, .u] [] (fnBody 11) (FnEnd (.b (byteArr (b64E (intsB b))))) := by
  refine Xs.cons (X1.assign (r := .b (byteArr (b64E (intsB b)))) (by rfl) (by decide +kernel) (Em.of (Ev.callKw (a := 74) (r1 := .b b) (rk := .d (.bool false)) (Ev.glob (by decide +kernel) (by rfl) (by decide +kernel)) (Ev.nm (by rfl) rfl) Ev.bool (ck9 hb) ?_)) ?_)
  · intro h W
    obtain ⟨g, Bs, kk⟩ := W.base
    obtain ⟨o, pm, cd, doc, e, d, c⟩ := Bs.fn9.keeps fun p o e => (kk p o e).2.2
    exact ⟨o, _, e, d⟩
  simp only [List.set_cons_succ, List.set_cons_zero]
  refine Xs.cons (X1.ite (c := false) (Tm.of (Tr.cmp (Ev.nm (by rfl) rfl) Ev.none Ms.isNotNone)) (fun h => nomatch h) (fun _ => Xs.nil ?_))
  exact Xs.cons (X1.ret (Em.of (Ev.nm (by rfl) rfl)) rfl)
theorem FnD.def11 : ∀ h, Wd h → DefAt F11 82 ["s", "altchars"] (fnBody 11) h 1 [] fun vs _ => vs ++ [.none] := fun h W => by
  obtain ⟨g, Bs, kk⟩ := W.base
  obtain ⟨o, pm, cd, doc, e, d, c⟩ := Bs.fn11.keeps fun p o e => (kk p o e).2.2
  obtain ⟨o75, n75, e75, d75⟩ := Bs.o75
  refine ⟨o, _, e, d, c, rfl, rfl, rfl, rfl, rfl, (fun a e => nomatch e), fun s vs kvs hs hv hk => ?_⟩
  obtain ⟨a, rfl⟩ := len1 hv
  obtain rfl := List.eq_nil_of_length_eq_zero hk
  exact BindsTo.of_defaults (T := 75) (items := #[.none]) rfl (by rw [hs]; exact (kk _ _ e75).2.2) d75 (by with_unfolding_all rfl) (by with_unfolding_all rfl)
theorem callee82 : Callee (.ref 82) := .inr (.inr ⟨82, rfl, fun h W => by
  obtain ⟨g, Bs, kk⟩ := W.base
  obtain ⟨o, pm, cd, doc, e, d, c⟩ := Bs.fn11.keeps fun p o e => (kk p o e).2.2
  exact ⟨o, _, e, d⟩⟩)
theorem cs11 {b : Array UInt8} (hb : b.size ≤ 1000) : Cs w (n + 3) (.ref 82) [.b b] (.b (byteArr (b64E (intsB b)))) := .mk fun A s G vs Q E Ro B W kG hr q =>
  (Ck.def (F := F11) (kn := []) (ks := []) (rs := [.b b, .d .none]) (args := [.b b]) (k := 2) FnD.def11 rfl rfl rfl rfl rfl F11_ok F11_plain (fun G vs kvs h1 h2 => by
    obtain ⟨v, rfl, r⟩ := h1.one
    exact ⟨r, .none, trivial⟩) (body11 hb)).run A s G vs [] Q E Ro B W kG hr trivial q
noncomputable def nameS (o : List Int) : Str := Txt.join "" ((b64E o).map fun i => ⟨#[i.toNat]⟩)
theorem b64E_ok (o : List Int) : (b64E o).length ≤ 2 * o.length + 3 ∧ ∀ i ∈ b64E o, 0 ≤ i ∧ i < 256 := S64.done_ok (S64.run_ok o)
theorem body23 {o : List Int} (hl : o.length ≤ 10) (hr : ∀ i ∈ o, 0 ≤ i ∧ i < 256) : Xs w (n + 3) F23 [.d (.list (o.map .int))] [] (fnBody 23) (FnEnd (.str (nameS o))) := by
  have he := b64E_ok o
  refine Xs.cons (X1.ret (r := .str (nameS o)) (Em.of (Ev.meth (rs := [.list (((b64E o).map fun i => (⟨#[i.toNat]⟩ : Str)).map .str)]) PySem.F.plainAttrs_str PySem.F.slot_str_join PySem.F.type_str_join .str .str (.cons (Ev.comp (Lc.of [] ((b64E o).map .int) (fun _ => true) (fun d => match d with | .int i => .str ⟨#[i.toNat]⟩ | _ => .none) (by rfl) (by decide +kernel) (Nat.le_refl _) ?a1 (by rw [List.length_map]; omega) (fun _ _ => .nil) ?a2 ?a3)) .nil) (Cs.join ?a4))) rfl)
  case a1 =>
    have hb : (byteArr o).size ≤ 1000 := by rw [byteArr_size]; omega
    have hc := cs11 (w := w) (n := n) hb
    rw [intsB_of hr] at hc
    have hq : (b64E o).map PyData.int = byL (byteArr (b64E o)) := by rw [byL_ints, intsB_of he.2]
    rw [hq]
    exact Ei.bytes (Ev.call (rs := [.b (byteArr o)]) (f := .ref 82) (Ev.glob (by decide +kernel) (by rfl) (by decide +kernel)) (.cons (Ev.call (rs := [.list (o.map .int)]) (f := .type "bytes") (Ev.blt (by decide +kernel) (by rfl) (by decide +kernel)) (.cons (Ev.nm (by rfl) rfl) .nil) (Cs.bytesOf hr (by omega)) (Callee.type _)) .nil) hc callee82)
  case a2 =>
    intro d hd _
    obtain ⟨i, hi, rfl⟩ := List.mem_map.mp hd
    have := he.2 i hi
    walk_at "mine_ev"
  case a3 =>
    rw [List.filter_eq_self.mpr (fun _ _ => rfl), List.map_map, List.map_map]
    rfl
  case a4 =>
    have e0 : ("" : Str).length = 0 := by decide
    rw [e0, List.map_map, Nat.mul_zero, Nat.add_zero]
    have : ((b64E o).map ((fun x => x.length) ∘ fun i => (⟨#[i.toNat]⟩ : Str))).sum = (b64E o).length := by
      generalize b64E o = l
      induction l with
      | nil => rfl
      | cons x l ih => rw [List.map_cons, List.sum_cons, ih, List.length_cons]; show 1 + _ = _; omega
    rw [this]; omega
theorem cs23 {o : List Int} (hl : o.length ≤ 10) (hr : ∀ i ∈ o, 0 ≤ i ∧ i < 256) : Cs w (n + 4) (.ref 130) [.d (.list (o.map .int))] (.str (nameS o)) :=
  Cs.def (F := F23) (k := 1) (FnAt.def (i := 23) (P := ["octets"]) (by decide) rfl (fun pm cd doc vs hv => by
    obtain ⟨a, rfl⟩ := len1 hv
    with_unfolding_all rfl)) rfl rfl rfl F23_ok F23_plain (body23 hl hr)
end
end
section
open PySem PySem.W PyProof.Rows PySem.Calls
set_option maxRecDepth 100000
set_option maxHeartbeats 1000000
theorem sub_list_module : isSubtype (.type "list") (.type "module") = pure false := by rw [isSubtype_type]; kernel_rfl
section
variable {M : Model} {A : Around} {E : Value → Shared → Prop} {s : Shared}
theorem check_bound_append {a : Addr} {ys : Array Value} {x : Value} {Q : Unit → Shared → Prop} (p : s.heap.PlainList a ys) (h : Q () s) : wpAny M A (checkBoundCall "list.append" ⟨[.ref a, x], []⟩) Q E s := by
  have hT : s.TypeIs (.ref a) "list" := TypeIs.plain p
  unfold checkBoundCall
  rw [show Manifest.signature? "list.append" = some ⟨.oneArg, "list.append", "append", .self, [⟨"object", .posOnly, true⟩]⟩ by
    rw [signature?_of (id := "list.append") (n := ['d', 'n', 'e', 'p', 'p', 'a']) (o := ['t', 's', 'i', 'l']) (by kernel_rfl) PySem.F.owner_list]; kernel_rfl]
  rw [show builtinKind "list.append" = some .method by rw [builtinKind_eq_fast]; kernel_rfl]
  dsimp only
  rw [if_neg (by decide +kernel)]
  refine wpAny_bind (wpAny_isInstance hT sub_list_module ?_)
  rw [if_neg (by decide +kernel)]
  obtain ⟨n, e⟩ := id p
  refine wpAny_bind (m := isType (.ref a)) ?_
  refine wpAny_bind (m := loadHead a) (wpAny_loadPart e (wpAny_pure ?_))
  dsimp only
  rw [if_neg (by decide)]
  refine wpAny_bind (m := typeOf (.ref a)) (wpAny_typeOf hT ?_)
  dsimp only
  exact wpAny_of_eq (a := ()) (by kernel_rfl) h
end
section
variable {w : World} {A : Around} {E : Value → Shared → Prop} {s : Shared}
theorem call_append {m a : Addr} {o : Obj} {ys : Array Value} {x : Value} {Q : Value → Shared → Prop} (hm : s.heap.get? m = some o) (hc : o.cls = .type "builtin_function_or_method") (hd : o.data = .fields #[.builtin "list.append", .ref a]) (p : s.heap.PlainList a ys)
    (h : ∀ h', h'.PlainList a (ys.push x) → Heap.SameBut a s.heap h' → Q .none { s with heap := h' }) (hsz : ys.size ≤ sizeLine) : wpAny (model prog w) A (call (.ref m) [x]) Q E s := by
  refine wpAny_call (codeAny_of_tree ?_)
  show wpAny _ A.in1 (callAny (.ref m) ⟨[x], []⟩) _ _ s
  simp only [callAny]
  refine wpAny_bind (wpAny_load hm ?_)
  rw [hd, hc]
  dsimp only
  rw [if_pos (by decide)]
  refine wpAny_bind (check_bound_append p ?_)
  refine wpAny_bind (wpAny_pure (wpAny_pure ?_))
  refine ⟨Code.quiet_builtin _ (by decide +kernel), codeAny_builtin entry_list_append ?_⟩
  show wpAny _ _ (updateSeq a (·.push x) >>= fun _ => ret .none) _ _ s
  obtain ⟨n, ho⟩ := p
  refine wpAny_bind (wpAny_updateSeq ho rfl (wpAny_pure (h _ ⟨n + 1, ?_⟩ (Heap.SameBut.update ..))))
  rw [Heap.get?_update_self _ ho (by rw [Obj.mapSeq_push_plain]; rfl), Obj.mapSeq_push_plain]
end
end
section
open PySem PySem.W PyProof.Rows PySem.Calls
open Builtin Builtin.ObjectAttr
set_option maxRecDepth 100000
set_option maxHeartbeats 1000000
theorem slot_md_get : PySem.Slot "method_descriptor" "__get__" "method_descriptor.__get__" :=
  .of (owner := "method_descriptor") (n := "__get__") (by rw [typeLookup_type, builtinLookup_eq_fast]; kernel_rfl) (by decide +kernel) (by decide +kernel) (by decide +kernel)
    (by first | exact .inl (by decide +kernel) | exact .inr (by decide +kernel)) (by rw [isSubtype_type]; kernel_rfl)
theorem entry_md_get : entryFor table "method_descriptor.__get__" = some Builtin.«method_descriptor.__get__» := entryFor_of_tree (by kernel_rfl)
theorem args_md_get (a b c : Value) : argsOk "method_descriptor.__get__" ⟨[a, b, c], []⟩ := by unfold argsOk; kernel_rfl
theorem lk_md_set : typeLookup (.type "method_descriptor") "__set__" = pure none := by rw [typeLookup_type, builtinLookup_eq_fast]; kernel_rfl
theorem lk_md_delete : typeLookup (.type "method_descriptor") "__delete__" = pure none := by rw [typeLookup_type, builtinLookup_eq_fast]; kernel_rfl
theorem told_append : Manifest.toldItsClass.contains "list.append" = false := by decide +kernel
theorem cut_append : "list.append".cutAt '.' = ["list", "append"] := by first | rfl | decide +kernel
theorem owner_append : (".".intercalate ("list.append".cutAt '.').dropLast) = "list" := by rw [cut_append]; decide +kernel
theorem sub_list_append : isSubtype (.type "list") (.type (".".intercalate ("list.append".cutAt '.').dropLast)) = pure true := by
  rw [owner_append, isSubtype_type]; kernel_rfl
noncomputable abbrev bmObj (a : Addr) : Obj := { cls := .type "builtin_function_or_method", data := .fields #[.builtin "list.append", .ref a] }
section
variable {w : World} {A : Around} {E : Value → Shared → Prop} {h : Heap} {g : Array GenState} {d : Drawn} {t : Nat} {os : OsState} {a : Addr} {o : Obj}
theorem append_get {R : Result → Shared → Prop} (hx : h.get? a = some o) (hc : o.cls = .type "list") (hq : R (.ok (.ret (.ref h.objs.size))) ⟨h.push (bmObj a), g, d, t, os⟩) :
    codeAny (model prog w) A (.call (.builtin "method_descriptor.__get__") ⟨[.builtin "list.append", .ref a, .type "list"], []⟩) R ⟨h, g, d, t, os⟩ := by
  have hT : (⟨h, g, d, t, os⟩ : Shared).TypeIs (.ref a) "list" := ⟨_, hx, hc⟩
  have hT5 : (⟨h, g, d, t, os⟩ : Shared).TypeIs (.builtin "list.append") "method_descriptor" := PySem.F.type_list_append
  have f8 := sub_list_append
  have f9 := told_append
  refine codeAny_call_builtin slot_md_get.plain entry_md_get (slot_md_get.check _ _ _ _ _ _ _ _ hT5 (args_md_get _ _ _) ?_)
  repeat (any_goals (first | assumption | wp_step))
theorem append_entry {xs : Array Value} {k : Nat} {tk : Tok} {Q : Fin → Shared → Prop} (hx : h.get? a = some { cls := .type "list", data := .seq xs k }) (hq : Q (.done (.ret (.ref h.objs.size))) ⟨h.push (bmObj a), g, d, t, os⟩) :
    wpAny (model prog w) A (Builtin.«object.__getattribute__» ⟨[.ref a, .str "append" tk], []⟩) Q E ⟨h, g, d, t, os⟩ := by
  have hT : (⟨h, g, d, t, os⟩ : Shared).TypeIs (.ref a) "list" := ⟨_, hx, rfl⟩
  have hT5 : (⟨h, g, d, t, os⟩ : Shared).TypeIs (.builtin "list.append") "method_descriptor" := PySem.F.type_list_append
  have f4 := PySem.F.slot_list_append.lookup
  have f5 := PySem.F.type_list_append
  have f6 := slot_md_get.lookup
  have f7 := lk_md_set
  have f8 := lk_md_delete
  repeat (any_goals (first | assumption | wp_step))
  refine append_get hx rfl ?_
  repeat (any_goals (first | assumption | wp_step))
theorem append_call {xs : Array Value} {k : Nat} {tk : Tok} {R : Result → Shared → Prop} (hx : h.get? a = some { cls := .type "list", data := .seq xs k }) (hq : R (.ok (.ret (.ref h.objs.size))) ⟨h.push (bmObj a), g, d, t, os⟩) :
    codeAny (model prog w) A (.call (.builtin "list.__getattribute__") ⟨[.ref a, .str "append" tk], []⟩) R ⟨h, g, d, t, os⟩ :=
  codeAny_call_builtin PySem.F.slot_list_getattribute.plain PySem.F.entry_list_ga (PySem.F.slot_list_getattribute.check _ _ _ _ _ _ _ _ (show (⟨h, g, d, t, os⟩ : Shared).TypeIs (.ref a) "list" from ⟨_, hx, rfl⟩) (PySem.F.args_list_getattribute_2 _ _) (append_entry hx hq))
theorem append_attr {xs : Array Value} {k : Nat} {Q : Value → Shared → Prop} (hx : h.get? a = some { cls := .type "list", data := .seq xs k }) (hq : Q (.ref h.objs.size) ⟨h.push (bmObj a), g, d, t + 1, os⟩) :
    wpAny (model prog w) A (getAttr (.ref a) "append" true) Q E ⟨h, g, d, t, os⟩ := by
  have hT : ∀ t', (⟨h, g, d, t', os⟩ : Shared).TypeIs (.ref a) "list" := fun _ => ⟨_, hx, rfl⟩
  have f2 := PySem.F.slot_list_getattribute.lookup
  have f3 := PySem.F.slot_list_getattribute.bind (.ref a)
  unfold getAttr getAttrBy
  repeat (any_goals (first | assumption | exact hT _ | wp_step))
  refine append_call hx ?_
  repeat (any_goals (first | assumption | wp_step))
end
end
section
open PySem PySem.W PyProof.Rows PySem.Calls
set_option maxRecDepth 100000
set_option maxHeartbeats 1000000
section
variable {w : World} {n : Nat} {F : Fd} {σ : List SV} {μ : Mu} {Φ : Out → Prop}
/-- x.append as a value -/
theorem Em.append {x : Str} {xp pos : Pos} {a : Addr} {rs : List SV} {j : Nat} (hx : lookSV x F.vars F.kinds σ = some (.v (.ref a))) (hj : μ[j]? = some (a, rs)) : Em w n F σ μ (.Attribute (.Name x xp) "append" pos) (.bm "list.append" a) := .mk fun s₀ G₀ env A s G Q E I Ro T O q => by
  show wpAny _ _ (do let o ← eval (.Name x xp) env; standAt pos.atName; let r ← holding [o] (getAttr o "append" true); letTemporaryGo (.Name x xp) o r; pure r) _ _ _
  refine wpAny_bind ((Ev.nm hx rfl).run env A s G _ E I Ro T.grow.bare T.rel fun v s1 G1 g1 r1 => wpAny_bind (wpAny_standAt (wpAny_bind (wpAny_holding ?_))))
  cases r1
  obtain ⟨ys, ⟨k, e⟩, _⟩ := ((O.grow g1).at_ _ (List.mem_of_getElem? hj)).pl
  obtain ⟨hp, g, d, tk, os⟩ := s1
  refine append_attr e (wpAny_bind (wpAny_pure (wpAny_pure ?_)))
  have g2 := Grow.push g1.bare g1.wd g1.sub (bmObj a) (tk + 1) rfl (Nat.le_succ _)
  exact q _ _ _ (g1.trans g2) ⟨_, _, rfl, GH.put_self, rfl, rfl⟩
/-- add(e), add the append of an own list -/
theorem X1.addE {x : Str} {e : Expr} {r : SV} {rs : List SV} {a : Addr} (j : Nat) {xp cpos pos : Pos} (hx : lookSV x F.vars F.kinds σ = some (.bm "list.append" a)) (hj : μ[j]? = some (a, rs)) (h : Em w n F σ μ e r) (hlen : rs.length ≤ 1000000) (hΦ : Φ (.next σ (μ.set j (a, rs ++ [r]))))
    (h0 : notStar e = true := by rfl) (ha : ∀ env, eval (.Call (.Name x xp) [e] [] cpos) env = (do callWith cpos (← eval (.Name x xp) env) [] (backTo cpos (starEach [e] env)) (backToKw cpos (keywordEach [] env))) := by intro _; rfl) : X1 w n F σ μ (.Expr (.Call (.Name x xp) [e] [] cpos) pos) Φ := .mk fun s₀ G₀ env A s G Q E I Fr Ro T O q => by
  refine wpAny_Expr ?_ I.inter rfl
  rw [ha]
  refine wpAny_bind ((Ev.nm hx rfl).run env A s G _ E I Ro T.grow.bare T.rel fun v s1 G1 g1 r1 => ?_)
  obtain ⟨m, o, rfl, hG, hc, hd⟩ := r1
  have T1 := T.step g1
  have O1 := O.grow g1
  have hsa : starEach [e] env = [(false, eval e env)] := by rw [starEach_cons h0]; rfl
  rw [hsa]
  unfold callWith
  refine wpAny_bind (wpAny_holding ?_)
  refine evalArgs_plain (spliced_cons (h.run s₀ G₀ env A s1 G1 _ E I Ro T1 O1 fun v s2 G2 g2 r2 => spliced_nil ?_))
  have T2 := T1.step g2
  have O2 := O1.grow g2
  have hm2 : s2.heap.get? m = some o := g2.sub _ _ (g2.le _ _ hG)
  refine wpAny_bind (wpAny_standAt ?_)
  refine wpAny_bind (m := keeperOf (.ref m)) ?_
  unfold keeperOf
  refine wpAny_bind (wpAny_load hm2 ?_)
  rw [hd, hc]
  dsimp only
  rw [if_pos (by decide), if_pos (by decide)]
  refine wpAny_pure ?_
  have hsat : ∀ {t : Sem Value} {Q' : Value → Shared → Prop}, wpAny (model prog w) A t Q' E s2 → wpAny (model prog w) A (t >>= fun r => holding [r] point >>= fun _ => pure r) Q' E s2 :=
    fun ht => wpAny_bind (wpAny_mono ht (fun r s₂ hr => wpAny_bind (wpAny_holding (wpAny_point (wpAny_pure hr)))) fun _ _ x => x)
  obtain ⟨ys2, p2, ra2⟩ := (O2.at_ _ (List.mem_of_getElem? hj)).pl
  have hsz : ys2.size ≤ sizeLine := by
    have := ra2.length
    simp only [Array.length_toList] at this
    rw [sizeLine_eq]; omega
  refine hsat (call_append hm2 hc hd p2 (fun h5 pl5 sb5 => ?_) hsz)
  obtain ⟨T3, O3, f3⟩ := T2.mut O2 hj sb5 pl5 (rs' := rs ++ [r]) (by rw [Array.toList_push]; exact ra2.snoc r2) s2.toks
  exact q (.next _ _) _ _ hΦ ⟨rfl, _, T3, O3, ((Frm.grow g1).trans (Frm.grow g2)).trans f3⟩
end
end
section
open PySem PySem.W PyProof.Rows PySem.Calls
set_option maxRecDepth 100000
set_option maxHeartbeats 1000000
/-! slots that read as data -/
noncomputable def SV.asD : SV → Option PyData
  | .d x => some x
  | .v (.str x _) => some (.str x)
  | .s x _ => some (.str x)
  | _ => Option.none
theorem Rv.asD {G : GH} {r : SV} {v : Value} {d : PyData} (h : Rv G r v) (e : r.asD = some d) : Rd G v d := by
  unfold SV.asD at e
  split at e
  · cases e; exact h
  · cases e; cases h; exact .str _ _
  · cases e; obtain ⟨t, rfl, _⟩ := h; exact .str _ _
  · cases e
noncomputable def asDs : List SV → Option (List PyData)
  | [] => some []
  | r :: rs => match r.asD with
    | Option.none => Option.none
    | some x => (asDs rs).map (x :: ·)
theorem RvA.asDs {G : GH} : ∀ {rs : List SV} {vs : List Value} {ds : List PyData}, RvA G rs vs → Mine.asDs rs = some ds → RdA G vs ds
  | [], [], ds, _, e => by cases e; exact .nil
  | r :: rs, v :: vs, ds, ⟨a, b⟩, e => by
    rw [Mine.asDs] at e
    cases h1 : r.asD with
    | none => rw [h1] at e; cases e
    | some x =>
      rw [h1] at e
      cases h2 : Mine.asDs rs with
      | none => rw [h2] at e; cases e
      | some xs => rw [h2] at e; cases e; exact .cons (a.asD h1) (RvA.asDs b h2)
  | [], _ :: _, _, x, _ => x.elim
  | _ :: _, [], _, x, _ => x.elim
theorem asDs_append : ∀ {a b : List SV} {x y : List PyData}, asDs a = some x → asDs b = some y → asDs (a ++ b) = some (x ++ y)
  | [], b, x, y, h, h' => by cases h; exact h'
  | r :: a, b, x, y, h, h' => by
    rw [asDs] at h
    rw [List.cons_append, asDs]
    cases h1 : r.asD with
    | none => rw [h1] at h; cases h
    | some x1 =>
      rw [h1] at h
      cases h2 : asDs a with
      | none => rw [h2] at h; cases h
      | some xs => rw [h2] at h; cases h; dsimp only; rw [asDs_append h2 h']; rfl
theorem asDs_s {t0 : Nat} : ∀ (xs : List Str), asDs (xs.map fun x => SV.s x t0) = some (xs.map .str)
  | [] => rfl
  | x :: xs => by rw [List.map_cons, asDs, asDs_s xs]; rfl
theorem Rv.listD {G : GH} {rs : List SV} {v : Value} {ds : List PyData} (h : Rv G (.l rs) v) (e : asDs rs = some ds) : Rd G v (.list ds) := by
  obtain ⟨a, o, vs, n, rfl, h2, h3, h4, h5, h6⟩ := h
  exact .list h2 h3 h4 h5 (h6.asDs e)
section
variable {w : World} {n : Nat} {F : Fd} {σ : List SV} {μ : Mu} {Φ : Out → Prop}
theorem Ev.listD {e : Expr} {rs : List SV} {ds : List PyData} (h : Ev w n F σ e (.l rs)) (hd : asDs rs = some ds) : Ev w n F σ e (.list ds) := .mk fun env A s G Q E I Ro B R q =>
  h.run env A s G Q E I Ro B R fun v s' G' g r => q v s' G' g (r.listD hd)
/-- an own list becomes part of what stands, whatever its items -/
theorem St.putL {s₀ : Shared} {G₀ : GH} {env : Env} {s : Shared} {G : GH} {i j : Nat} {a : Addr} {rs : List SV} (T : St s₀ G₀ F σ env s G) (O : Own s₀ env s.heap G μ) (hi : σ[i]? = some (.v (.ref a))) (hj : μ[j]? = some (a, rs)) :
    ∃ o, G a = Option.none ∧ s₀.heap.objs.size ≤ a ∧ a < s.heap.objs.size ∧ St s₀ G₀ F (σ.set i (.l rs)) env s (G.put a o) ∧ Own s₀ env s.heap (G.put a o) (μ.eraseIdx j) ∧ Frm env μ.ad s G (Mu.ad (μ.eraseIdx j)) s (G.put a o) := by
  have hm : (a, rs) ∈ μ := List.mem_of_getElem? hj
  obtain ⟨h1, h2, h3, ⟨ys, ⟨nn, h4⟩, h5⟩, h6, h7⟩ := O.at_ _ hm
  dsimp only at h1 h2 h3 h4 h5 h6 h7
  have hle : G.Le (G.put a { cls := .type "list", data := .seq ys nn }) := GH.put_le h1
  have hin : (G.put a { cls := .type "list", data := .seq ys nn }).In s.heap := fun b o e => by
    unfold GH.put at e
    by_cases q : b = a
    · rw [if_pos q] at e; cases e; subst q; exact h4
    · rw [if_neg q] at e; exact T.grow.sub b o e
  have hother : ∀ b, b ≠ a → (G.put a { cls := .type "list", data := .seq ys nn }) b = G b := fun b q => by unfold GH.put; rw [if_neg q]
  obtain ⟨m, N, S⟩ := T.rel.slots
  have hrd : Rv (G.put a { cls := .type "list", data := .seq ys nn }) (.l rs) (.ref a) := ⟨a, _, ys, nn, rfl, GH.put_self, rfl, rfl, rfl, RvA.ext hle h5⟩
  refine ⟨_, h1, h2, Heap.lt_size h4, ⟨⟨T.grow.os, T.grow.bare.put (Nat.ne_of_gt (Nat.lt_of_lt_of_le (by decide) h3)), T.grow.keep, T.grow.wd, hin, T.grow.le.trans hle, fun b o e => ?_, T.grow.size, T.grow.toks⟩, ⟨T.rel.wd, hin, m, N, Slots.see T.rel.wd hle hrd S hi⟩, T.fl, ?_, fun p hp => ?_⟩, ⟨?_, fun p hp => ?_⟩, ⟨fun _ _ _ _ _ _ e => e, hle, fun x hx => .inl ?_, fun _ e => e, fun b h hb _ => (hother b fun q => ?_).trans h⟩⟩
  · by_cases q : b = a
    · exact .inr (q ▸ h2)
    · rw [hother b q] at e; exact T.grow.new b o e
  · rw [hother _ h6]
    exact T.pL
  · rw [hother _ (h7 p hp)]
    exact T.pC p hp
  · exact O.nd.sublist ((List.eraseIdx_sublist ..).map _)
  · have hpm : p ∈ μ := List.mem_of_mem_eraseIdx hp
    obtain ⟨z1, z2, z3, ⟨ys', z4, z5⟩, z6, z7⟩ := O.at_ p hpm
    exact ⟨(hother _ (nodup_erase O.nd hj hp)).trans z1, z2, z3, ⟨ys', z4, RvA.ext hle z5⟩, z6, z7⟩
  · exact (List.Sublist.map _ (List.eraseIdx_sublist μ j)).subset hx
  · exact hb (q ▸ List.mem_map_of_mem (f := (·.1)) hm)
theorem Xs.freezeL {sts : List Stmt} (i j : Nat) {a : Addr} {rs : List SV} (hi : σ[i]? = some (.v (.ref a))) (hj : μ[j]? = some (a, rs)) (h : Xs w n F (σ.set i (.l rs)) (μ.eraseIdx j) sts Φ) : Xs w n F σ μ sts Φ :=
  .mk fun s₀ G₀ env A s G Q E I Fr Ro T O q => by
    obtain ⟨o, h1, h2, h3, T', O', fr⟩ := T.putL O hi hj
    exact h.run s₀ G₀ env A s _ Q E I Fr Ro T' O' fun o fl s' a b => q o fl s' a (b.trans fr)
theorem Is.l {rs : List SV} {k : Int} {r : SV} (h0 : 0 ≤ k) (hx : rs[k.toNat]? = some r) (hl : rs.length ≤ 1000000) : Is w n (.l rs) (.int k) r := .mk fun A s G x y Q E Ro B W k' h1 h2 => by
  obtain ⟨a, o, vs, m, rfl, e2, e3, e4, e5, e6⟩ := h1
  obtain ⟨t, rfl⟩ := Rd.int_inv h2
  have L : s.heap.IsList a vs := ⟨o, k' _ _ e2, e3, m, e5⟩
  refine ⟨⟨_, _, L.typeIs, slot_list_getitem.lookup⟩, fun q => ?_⟩
  obtain ⟨v, e, rv⟩ := e6.get hx
  have hk : k.toNat < rs.length := by
    rcases Nat.lt_or_ge k.toNat rs.length with h | h
    · exact h
    · rw [List.getElem?_eq_none h] at hx; cases hx
  exact wpAny_getItem_list L h0 (by omega) (by simpa using e) (q v s _ (.refl B W k') rv)
theorem Cs.lenl {rs : List SV} (hl : rs.length ≤ 1000000) : Cs w n (.builtin "len") [.l rs] (.int rs.length) := .mk fun A s G vs Q E Ro B W k h q => by
  obtain ⟨v, rfl, r⟩ := h.one
  obtain ⟨a, o, ws, m, rfl, e2, e3, e4, e5, e6⟩ := r
  have L : s.heap.IsList a ws := ⟨o, k _ _ e2, e3, m, e5⟩
  have hz : ws.size = rs.length := by rw [e6.length]; simp
  exact PySem.Calls.call_len_list L (by omega) (by rw [hz]; exact q _ _ _ (.tok B W k _) (.int _ _))
/-! is -/
/-- a star: a text made before the others, or an object -/
noncomputable def StarOk (v : Value) (t0 : Nat) : Prop := (v = .str "*" t0 ∧ 0 < t0) ∨ ∃ a, v = .ref a
theorem same_self {v : Value} {t0 : Nat} {A : Around} {s : Shared} {Q : Bool → Shared → Prop} {E : Value → Shared → Prop} (h : StarOk v t0) (q : Q true s) : wpAny (model prog w) A (isSame v v) Q E s := by
  rcases h with ⟨rfl, h0⟩ | ⟨a, rfl⟩
  · unfold isSame
    show wpAny _ _ (isSame.created _ _ _) _ _ _
    unfold isSame.created
    have z : (t0 == 0) = false := beq_eq_false_iff_ne.mpr (Nat.ne_of_gt h0)
    rw [if_neg (by rw [z]; decide), if_pos (by simp)]
    exact wpAny_pure q
  · unfold isSame
    dsimp only
    rw [if_pos (by simp)]
    exact wpAny_pure q
theorem same_other {v : Value} {t0 : Nat} {x : Str} {t : Nat} {A : Around} {s : Shared} {Q : Bool → Shared → Prop} {E : Value → Shared → Prop} (h : StarOk v t0) (hx : x ≠ "*") (ht : t0 < t) (q : Q false s) : wpAny (model prog w) A (isSame (.str x t) v) Q E s := by
  rcases h with ⟨rfl, h0⟩ | ⟨a, rfl⟩
  · unfold isSame
    show wpAny _ _ (isSame.created _ _ _) _ _ _
    unfold isSame.created
    have z : (t0 == 0) = false := beq_eq_false_iff_ne.mpr (Nat.ne_of_gt h0)
    have z2 : (t == 0) = false := beq_eq_false_iff_ne.mpr (Nat.ne_of_gt (Nat.lt_trans h0 ht))
    have z3 : (t == t0) = false := beq_eq_false_iff_ne.mpr (Nat.ne_of_gt ht)
    rw [if_neg (by rw [z, z2]; decide), if_neg (by rw [z3]; decide), if_pos (by simpa using hx)]
    exact wpAny_pure q
  · exact wpAny_isSame_plain (by rfl) q
theorem Ms.isSelf {v : Value} {t0 : Nat} (h : StarOk v t0) : Ms w n .Is (.v v) (.v v) true := .mk fun A s G x y Q E Ro B W k h1 h2 q => by
  cases h1; cases h2
  show wpAny _ _ (do return Value.bool (← isSame v v) : Sem Value) _ _ _
  exact wpAny_bind (same_self h (wpAny_pure (q s G (.refl B W k))))
theorem Ms.isNotSelf {v : Value} {t0 : Nat} (h : StarOk v t0) : Ms w n .IsNot (.v v) (.v v) false := .mk fun A s G x y Q E Ro B W k h1 h2 q => by
  cases h1; cases h2
  show wpAny _ _ (do return Value.bool (!(← isSame v v)) : Sem Value) _ _ _
  exact wpAny_bind (same_self h (wpAny_pure (q s G (.refl B W k))))
theorem Ms.isNotS {v : Value} {t0 : Nat} {x : Str} (h : StarOk v t0) (hx : x ≠ "*") : Ms w n .IsNot (.s x t0) (.v v) true := .mk fun A s G _ y Q E Ro B W k h1 h2 q => by
  obtain ⟨t, rfl, ht⟩ := h1
  cases h2
  show wpAny _ _ (do return Value.bool (!(← isSame (.str x t) v)) : Sem Value) _ _ _
  exact wpAny_bind (same_other h hx ht (wpAny_pure (q s G (.refl B W k))))
/-! f"{..}" between two texts -/
theorem Ev.fstr {a b x : Str} {e : Expr} {k1 k2 : Nat} {p1 p2 p3 pos : Pos} (h : Ev w n F σ e (.str x)) (hl : a.length + x.length + b.length ≤ 1000000) : Ev w n F σ (.JoinedStr [.Constant (.str a) k1 p1, .FormattedValue e (-1) Option.none p2, .Constant (.str b) k2 p3] pos) (.str (a ++ x ++ b)) := .mk fun env A s G Q E I Ro B R q => by
  have e0 : Str.empty ++ a = a := PySem.Str.empty_append a
  refine JoinedStr_many (joinParts_cons (Constant_str ⟨?_, joinParts_cons (FormattedValue_plain (h.run env A _ G _ E I Ro (B.up (Nat.le_succ _)) ⟨R.wd, R.sub, R.slots⟩ fun v s1 G1 g1 r1 => ?_))⟩))
  · rw [e0, sizeLine_eq]; omega
  obtain ⟨t, rfl⟩ := Rd.str_inv r1
  refine wpAny_toks (formatField_str (fun t' tk hle => ⟨?_, joinParts_cons (Constant_str ⟨?_, joinParts_nil ?_ ?_⟩)⟩) (by rw [sizeLine_eq]; omega))
  · rw [e0, PySem.Str.length_append, sizeLine_eq]; omega
  · rw [e0, PySem.Str.length_append, PySem.Str.length_append, sizeLine_eq]; omega
  · rw [e0]
    have hle : s1.toks ≤ tk := hle
    have ht : s.toks ≤ s1.toks := Nat.le_trans (Nat.le_succ _) g1.toks
    refine q _ _ G1 ?_ (.str _ _)
    exact ⟨g1.os, ⟨g1.bare.gens, by show 0 < tk + 1 + 1; omega, g1.bare.tb⟩, g1.keep, g1.wd, g1.sub, g1.le, g1.new, g1.size, by show s.toks ≤ tk + 1 + 1; omega⟩
  · rw [e0, PySem.Str.length_append, PySem.Str.length_append, sizeLine_eq]; omega
end
end
section
open PySem PySem.W PyProof.Rows PySem.Calls
set_option maxRecDepth 100000
set_option maxHeartbeats 1000000
noncomputable def F20 : Fd := fdOf 20 ["inp", "STAR", "res", "add", "i", "n", "fixed"]
theorem F20_ok : F20.ok = true := by decide +kernel
theorem F20_plain : F20.plain 2 = true := by decide +kernel
noncomputable def partsOf (xs : List Str) (t0 : Nat) (star : Value) : List SV := xs.map (fun x => SV.s x t0) ++ [.v star]
theorem partsOf_at {xs : List Str} {t0 : Nat} {star : Value} {j : Nat} {x : Str} (h : xs[j]? = some x) : (partsOf xs t0 star)[j]? = some (.s x t0) := by
  have hj : j < xs.length := by
    rcases Nat.lt_or_ge j xs.length with h' | h'
    · exact h'
    · rw [List.getElem?_eq_none h'] at h; cases h
  unfold partsOf
  rw [List.getElem?_append_left (by simpa using hj), List.getElem?_map, h]; rfl
theorem partsOf_last {xs : List Str} {t0 : Nat} {star : Value} : (partsOf xs t0 star)[xs.length]? = some (.v star) := by
  unfold partsOf
  rw [List.getElem?_append_right (by simp)]; simp
theorem partsOf_len {xs : List Str} {t0 : Nat} {star : Value} : (partsOf xs t0 star).length = xs.length + 1 := by simp [partsOf]
noncomputable def joinS (xs : List Str) : Str := "(?s:" ++ Txt.join "" (xs ++ [(".*" : Str)]) ++ ")\\Z"
theorem sum_le (xs : List Str) (h : ∀ x ∈ xs, x.length ≤ 1000) : (xs.map (·.length)).sum ≤ 1000 * xs.length := by
  induction xs with
  | nil => simp
  | cons x xs ih =>
    have h1 := h x List.mem_cons_self
    have h2 := ih fun y hy => h y (List.mem_cons_of_mem _ hy)
    rw [List.map_cons, List.sum_cons, List.length_cons]; omega
section
variable {w : World} {n : Nat}
theorem body20 {xs : List Str} {t0 : Nat} {star : Value} (hs : StarOk star t0) (hl : xs.length ≤ 100) (hx : ∀ x ∈ xs, x ≠ "*" ∧ x.length ≤ 1000) (hj : (Txt.join "" (xs ++ [(".*" : Str)])).length ≤ 500000) :
    Xs w (n + 1) F20 [.l (partsOf xs t0 star), .v star, .u, .u, .u, .u, .u] [] (fnBody 20) (FnEnd (.str (joinS xs))) := by
  refine Xs.cons (X1.newList (by rfl) (by decide +kernel) (fun a => ?_))
  simp only [List.set_cons_succ, List.set_cons_zero]
  refine Xs.cons (X1.assign (r := .bm "list.append" a) (by rfl) (by decide +kernel) (Em.append (j := 0) (by rfl) (by rfl)) ?_)
  simp only [List.set_cons_succ, List.set_cons_zero]
  refine Xs.cons (X1.swap2 (a := .int 0) (b := .int ((xs.length + 1 : Nat) : Int)) (by rfl) (by decide +kernel) (by rfl) (by decide +kernel) (Em.of (Ev.tp (.cons .int (.cons (Ev.call (rs := [.l (partsOf xs t0 star)]) (f := .builtin "len") (Ev.blt (by decide +kernel) (by rfl) (by decide +kernel)) (.cons (Ev.nm (by rfl) rfl) .nil) ?a1 (Callee.builtin _)) .nil rfl) rfl))) ?a2 ?a3)
  case a1 =>
    have := Cs.lenl (w := w) (n := n + 1) (rs := partsOf xs t0 star) (by rw [partsOf_len]; omega)
    rwa [partsOf_len] at this
  case a3 =>
    intro env I
    have e1 : env.kindOf "i" = some .local := by rw [I.kind]; decide +kernel
    have e2 : env.kindOf "n" = some .local := by rw [I.kind]; decide +kernel
    have e3 := I.block
    unfold swappedStores
    simp [e1, e2, e3, List.filterMap_cons, pos_name]
    rw [if_pos (by decide +kernel), if_neg (by decide +kernel), if_neg (by decide +kernel)]
  simp only [List.set_cons_succ, List.set_cons_zero]
  refine Xs.cons (X1.while (fun k σ μ => ∃ j, k + j = xs.length ∧ σ = [.l (partsOf xs t0 star), .v star, .v (.ref a), .bm "list.append" a, .int (j : Int), .int ((xs.length + 1 : Nat) : Int), .u] ∧ μ = [(a, (xs.take j).map fun x => SV.s x t0)]) xs.length ⟨0, rfl, rfl, rfl⟩ ?b1)
  rintro k σ μ ⟨j, hk, rfl, rfl⟩
  have item : ∀ {σ : List SV} {r : SV} {p1 p2 p3 : Pos}, (partsOf xs t0 star)[j]? = some r → lookSV "inp" F20.vars F20.kinds σ = some (.l (partsOf xs t0 star)) → lookSV "i" F20.vars F20.kinds σ = some (.int (j : Int)) → Ev w (n + 1) F20 σ (.Subscript (.Name "inp" p1) (.Name "i" p2) p3) r :=
    fun hr h1 h2 => Ev.item (Ev.nm h1 rfl) (Ev.nm h2 rfl) (Is.l (by omega) (by simpa using hr) (by rw [partsOf_len]; omega))
  cases k with
  | succ k =>
    have hjl : j < xs.length := by omega
    obtain ⟨x, hxj⟩ : ∃ x, xs[j]? = some x := ⟨_, List.getElem?_eq_getElem hjl⟩
    have hxm := hx x (List.mem_of_getElem? hxj)
    refine ⟨true, Tm.of (Tr.eq (Tr.and (a := true) (b := true) (Tr.eq (Tr.cmp (Ev.nm (by rfl) rfl) (Ev.nm (by rfl) rfl) .ltI) (decide_eq_true (by omega))) (fun _ => Tr.eq (Tr.and (a := true) (b := true) (Tr.cmp (item (partsOf_at hxj) (by rfl) (by rfl)) (Ev.nm (by rfl) rfl) (Ms.isNotS hs hxm.1)) (fun _ => Tr.and_nil)) rfl)) rfl), fun _ => ?_, fun h => nomatch h⟩
    refine Xs.cons (X1.addE (a := a) (r := .s x t0) 0 (by rfl) (by rfl) (Em.of (item (partsOf_at hxj) (by rfl) (by rfl))) (by simp; omega) ?_)
    refine Xs.cons (X1.aug (by rfl) (by decide +kernel) (by rfl) rfl (Em.of Ev.int) Ips.add ?_)
    refine Xs.nil ⟨k, Nat.lt_succ_self k, j + 1, by omega, rfl, ?_⟩
    rw [List.take_add_one, hxj, List.map_append]
    rfl
  | zero =>
    obtain rfl : j = xs.length := by omega
    refine ⟨false, Tm.of (Tr.eq (Tr.and (a := true) (b := false) (Tr.eq (Tr.cmp (Ev.nm (by rfl) rfl) (Ev.nm (by rfl) rfl) .ltI) (decide_eq_true (by omega))) (fun _ => Tr.and_f (Tr.cmp (item partsOf_last (by rfl) (by rfl)) (Ev.nm (by rfl) rfl) (Ms.isNotSelf hs)))) rfl), (fun h => nomatch h), fun _ => ?_⟩
    rw [List.take_length]
    refine Xs.cons (X1.while (fun k σ μ => k = 1 ∧ σ = [.l (partsOf xs t0 star), .v star, .v (.ref a), .bm "list.append" a, .int (xs.length : Int), .int ((xs.length + 1 : Nat) : Int), .u] ∧ μ = [(a, xs.map fun x => SV.s x t0)]) 1 ⟨rfl, rfl, rfl⟩ ?c1)
    rintro k σ μ ⟨_, rfl, rfl⟩
    refine ⟨true, Tm.of (Tr.eq (Tr.cmp (Ev.nm (by rfl) rfl) (Ev.nm (by rfl) rfl) .ltI) (decide_eq_true (by omega))), fun _ => ?_, fun h => nomatch h⟩
    refine Xs.cons (X1.assert (Tm.of (Tr.cmp (item partsOf_last (by rfl) (by rfl)) (Ev.nm (by rfl) rfl) (Ms.isSelf hs))) ?_)
    refine Xs.cons (X1.aug (r' := .int (xs.length + 1)) (by rfl) (by decide +kernel) (by rfl) rfl (Em.of Ev.int) Ips.add ?_)
    simp only [List.set_cons_succ, List.set_cons_zero]
    refine Xs.cons (X1.ite (c := true) (Tm.of (Tr.eq (Tr.cmp (Ev.nm (by rfl) rfl) (Ev.nm (by rfl) rfl) .eqI) (by simp))) (fun _ => ?_) (fun h => nomatch h))
    refine Xs.cons (X1.addE (a := a) (r := .str ".*") 0 (by rfl) (by rfl) (Em.of Ev.str) (by simp; omega) ?_)
    refine Xs.cons (X1.brk ?_)
    refine Xs.cons (X1.assert (Tm.of (Tr.eq (Tr.cmp (Ev.nm (by rfl) rfl) (Ev.nm (by rfl) rfl) .eqI) (by simp))) ?_)
    refine Xs.freezeL 2 0 (a := a) (by rfl) (by rfl) ?_
    simp only [List.set_cons_succ, List.set_cons_zero]
    have hd : asDs ((xs.map fun x => SV.s x t0) ++ [.str ".*"]) = some ((xs ++ [(".*" : Str)]).map .str) := by
      rw [List.map_append]; exact asDs_append (asDs_s xs) rfl
    refine Xs.cons (X1.assign (r := .str (Txt.join "" (xs ++ [(".*" : Str)]))) (by rfl) (by decide +kernel) (Em.of (Ev.meth (rs := [.list ((xs ++ [(".*" : Str)]).map .str)]) PySem.F.plainAttrs_str PySem.F.slot_str_join PySem.F.type_str_join .str .str (.cons (Ev.listD (Ev.nm (by rfl) rfl) hd) .nil) (Cs.join ?d1))) ?d2)
    case d1 =>
      have h1 := sum_le xs fun x h => (hx x h).2
      have e0 : ("" : Str).length = 0 := by decide
      have e1 : (".*" : Str).length = 2 := by decide
      simp only [List.map_append, List.sum_append, List.map_cons, List.map_nil, List.sum_cons, List.sum_nil, e0, e1]
      omega
    simp only [List.set_cons_succ, List.set_cons_zero]
    refine Xs.cons (X1.ret (Em.of (Ev.fstr (Ev.nm (by rfl) rfl) ?d3)) rfl)
    have e1 : ("(?s:" : Str).length = 4 := by decide
    have e2 : (")\\Z" : Str).length = 3 := by decide
    omega
theorem cs20 {xs : List Str} {t0 : Nat} {star : Value} (hs : StarOk star t0) (hl : xs.length ≤ 100) (hx : ∀ x ∈ xs, x ≠ "*" ∧ x.length ≤ 1000) (hj : (Txt.join "" (xs ++ [(".*" : Str)])).length ≤ 500000) :
    Cs w (n + 2) (.ref 120) [.l (partsOf xs t0 star), .v star] (.str (joinS xs)) :=
  Cs.def (F := F20) (k := 2) (FnAt.def (i := 20) (P := ["inp", "STAR"]) (by decide) rfl (fun pm cd doc vs hv => by
    obtain ⟨a, b, rfl⟩ := len2 hv
    with_unfolding_all rfl)) rfl rfl rfl F20_ok F20_plain (body20 hs hl hx hj)
end
end
section
open PySem PySem.W PyProof.Rows PySem.Calls
set_option maxRecDepth 100000
set_option maxHeartbeats 1000000
noncomputable def escS (c : Nat) : Str := match spT.lookup (c : Int) with | some y => y | Option.none => ⟨#[c]⟩
theorem spT_hash : ∀ r ∈ spT, hashInt r.1 = r.1 := by decide +kernel
theorem sp_find (i : Int) : ∀ {es : List DictEntry} {rows : List (Int × Str)}, spOk es rows → match rows.lookup i with
    | some y => ∃ t, (es.find? fun e => Value.isInt i e.key).map (·.val) = some (.str y t)
    | Option.none => (es.find? fun e => Value.isInt i e.key).map (·.val) = Option.none
  | [], [], _ => rfl
  | e :: es, r :: rows, ⟨⟨h1, ⟨t, h2⟩, ⟨u, h3⟩⟩, h⟩ => by
    rw [List.lookup_cons, List.find?_cons, h2]
    by_cases q : i = r.1
    · subst q
      have e1 : Value.isInt r.1 (.int r.1 t) = true := by simp [Value.isInt]
      rw [e1]
      simp only [beq_self_eq_true]
      exact ⟨u, by rw [Option.map_some, h3]⟩
    · have e1 : Value.isInt i (.int r.1 t) = false := by simp [Value.isInt]; exact fun z => q z.symm
      have e2 : (i == r.1) = false := by simpa using q
      rw [e1, e2]
      exact sp_find i h
  | [], _ :: _, h => h.elim
  | _ :: _, [], h => h.elim
theorem sp_keys : ∀ {es : List DictEntry} {rows : List (Int × Str)}, spOk es rows → (∀ r ∈ rows, hashInt r.1 = r.1) → ∀ e ∈ es, ∃ k, Value.isInt k e.key = true ∧ e.hash = hashInt k
  | [], [], _, _, e, h => nomatch h
  | e :: es, r :: rows, ⟨⟨h1, ⟨t, h2⟩, _⟩, h⟩, hr, e', hm => by
    rcases List.mem_cons.mp hm with rfl | hm
    · exact ⟨r.1, by rw [h2]; simp [Value.isInt], by rw [h1, hr r List.mem_cons_self]⟩
    · exact sp_keys h (fun r hr' => hr r (List.mem_cons_of_mem _ hr')) e' hm
  | [], _ :: _, h, _, _, _ => h.elim
  | _ :: _, [], h, _, _, _ => h.elim
noncomputable def spF (es : Array DictEntry) (i : Int) : Option Value := findBy Value.isInt es i
theorem Wd.sp {w : World} {h : Heap} (W : Wd h) : ∃ f, h.MapOf (intKind prog w) 96 f ∧ ∀ i : Int, match spT.lookup i with
    | some y => ∃ t, f i = some (.str y t)
    | Option.none => f i = Option.none := by
  obtain ⟨g, Bs, kk⟩ := W.base
  obtain ⟨o, es, n, e, x, d, ok⟩ := Bs.o96
  refine ⟨spF es, ⟨o, es, n, (kk _ _ e).2.2, x, d, fun e he => sp_keys ok spT_hash e (Array.mem_toList_iff.mpr he), fun _ => rfl⟩, fun i => ?_⟩
  have := sp_find i ok
  have z : spF es i = (es.toList.find? fun e => Value.isInt i e.key).map (·.val) := by unfold spF findBy; rw [← Array.find?_toList]
  rw [z]
  exact this
theorem sub_key_lookup : isSubtype (.type "KeyError") (.type "LookupError") = pure true := by rw [isSubtype_type]; kernel_rfl
section
variable {w : World} {A : Around} {E : Value → Shared → Prop} {s : Shared}
open Builtin.Str in
theorem table_hit {f : Int → Option Value} {c : Nat} {y : Str} {t : Tok} {Q : Mapped → Shared → Prop} (M : s.heap.MapOf (intKind prog w) 96 f) (hf : f c = some (.str y t)) (h : ∀ k, s.toks ≤ k → Q (.text y) { s with toks := k }) :
    wpAny (model prog w) A (tableLookup (.ref 96) c) Q E s := by
  unfold tableLookup
  refine wpAny_bind (wpAny_attempt (wpAny_bind (wpAny_mkInt (wpAny_getItem_of (knd := intKind prog w) (k := (c : Int)) (by simp [intKind, Value.isInt]) (show (({ s with toks := s.toks + 1 } : Shared).heap).MapOf _ _ _ from M) hf ?_))))
  dsimp only
  have e1 : asInt? (.str y t) = pure Option.none := by rfl
  have e2 : asStr? (.str y t) = pure (some y) := by rfl
  rw [e1, e2]
  exact wpAny_bind (wpAny_pure (wpAny_bind (wpAny_pure (wpAny_pure (h _ (by show s.toks ≤ s.toks + 1 + 1; omega))))))
open Builtin.Str in
theorem table_miss {f : Int → Option Value} {c : Nat} {Q : Mapped → Shared → Prop} (hh : A.handled = Option.none) (M : s.heap.MapOf (intKind prog w) 96 f) (hf : f c = Option.none) (h : ∀ h' k, (∀ b o, s.heap.get? b = some o → h'.get? b = some o) → Q .keep { s with heap := h', toks := k }) :
    wpAny (model prog w) A (tableLookup (.ref 96) c) Q E s := by
  unfold tableLookup
  refine wpAny_bind (wpAny_attempt (wpAny_bind (wpAny_mkInt (wpAny_getItem_missing_of (knd := intKind prog w) (k := (c : Int)) (by simp [intKind, Value.isInt]) (by decide) hh (show (({ s with toks := s.toks + 1 } : Shared).heap).MapOf _ _ _ from M) hf fun h' e hx => ?_))))
  dsimp only
  obtain ⟨ob, u, he, hc, _⟩ := hx.there
  refine wpAny_bind (wpAny_isInstance (T := "KeyError") ⟨ob, he, hc⟩ sub_key_lookup ?_)
  rw [if_pos rfl]
  exact wpAny_bind (wpAny_rule (wpAny_pure (h _ _ hx.keeps)))
end
end
section
open PySem PySem.W PyProof.Rows PySem.Calls
set_option maxRecDepth 100000
set_option maxHeartbeats 1000000
theorem lookup_mem {α β : Type} [BEq α] [LawfulBEq α] : ∀ {l : List (α × β)} {a : α} {b : β}, l.lookup a = some b → (a, b) ∈ l
  | (x, y) :: l, a, b, h => by
    rw [List.lookup_cons] at h
    by_cases q : a = x
    · subst q
      simp at h
      subst h
      exact List.mem_cons_self
    · have : (a == x) = false := by simpa using q
      rw [this] at h
      exact List.mem_cons_of_mem _ (lookup_mem h)
section
variable {w : World} {A : Around} {E : Value → Shared → Prop} {s : Shared}
theorem call_translate {f : Int → Option Value} {c : Nat} {t : Tok} {Q : Value → Shared → Prop} (hc : c < 128) (hh : A.handled = Option.none) (M : s.heap.MapOf (intKind prog w) 96 f) (hf : match spT.lookup (c : Int) with
    | some y => ∃ t, f c = some (.str y t)
    | Option.none => f c = Option.none)
    (h : ∀ h' t' k, (∀ b o, s.heap.get? b = some o → h'.get? b = some o) → s.toks ≤ t' → Q (.str (escS c) t') { s with heap := h', toks := k }) : wpAny (model prog w) A (call (.builtin "str.translate") [.str ⟨#[c]⟩ t, .ref 96]) Q E s := by
  refine wpAny_call_entry PySem.F.slot_str_translate (typeIs_str _ _ _) PySem.F.entry_str_translate ?_ (PySem.F.args_str_translate_2 _ _)
  unfold Builtin.«str.translate»
  refine wpAny_bind (m := Builtin.Str.strOneArg "translate" _) (wpAny_of_eq (a := ((Value.str ⟨#[c]⟩ t, ⟨#[c]⟩, Value.ref 96) : Value × Str × Value)) (by rfl) ?_)
  dsimp only
  rw [if_neg (by simp [PySem.Str.length])]
  rw [List.forIn_toArray, List.forIn_cons]
  refine wpAny_bind (wpAny_bind ?_)
  dsimp only
  have hall : (#[c].all fun x => decide (x < 128)) = true := by simp [hc]
  rw [if_neg (by decide), hall, if_pos rfl]
  have hlk : List.lookup c ([] : List (Nat × Option Nat)) = Option.none := rfl
  rw [hlk]
  dsimp only
  cases hq : spT.lookup (c : Int) with
  | none =>
    rw [hq] at hf
    refine wpAny_bind (wpAny_toks (table_miss (by exact hh) M hf fun h1 k1 hk1 hle => ?_))
    dsimp only
    refine wpAny_bind (wpAny_pure ?_)
    dsimp only
    refine wpAny_pure ?_
    dsimp only
    rw [List.forIn_nil]
    refine wpAny_pure ?_
    dsimp only
    rw [if_neg (by decide)]
    have e : escS c = ⟨#[c]⟩ := by unfold escS; rw [hq]
    rw [e] at h
    refine wpAny_bind (wpAny_mkStr (wpAny_pure ⟨_, rfl, ?_⟩) ?_)
    · exact h h1 _ _ hk1 hle
    · rw [sizeLine_eq]; simp [PySem.Str.length]
  | some y =>
    rw [hq] at hf
    obtain ⟨u, hu⟩ := hf
    have hy : y.length = 2 := by
      have : ∀ r ∈ spT, r.2.length = 2 := by decide +kernel
      exact this ((c : Int), y) (lookup_mem hq)
    refine wpAny_bind (table_hit M hu fun k1 hk1 => ?_)
    dsimp only
    rw [if_neg (by rw [hy]; simp)]
    dsimp only
    refine wpAny_bind (wpAny_pure ?_)
    dsimp only
    refine wpAny_bind (wpAny_rule ?_)
    rw [if_neg (by decide)]
    refine wpAny_bind (table_hit (s := { s with toks := k1 }) M hu fun k2 hk2 => ?_)
    dsimp only
    refine wpAny_pure ?_
    dsimp only
    rw [List.forIn_nil]
    refine wpAny_pure ?_
    dsimp only
    rw [if_neg (by rw [hy]; decide)]
    have e : escS c = y := by unfold escS; rw [hq]
    rw [e] at h
    refine wpAny_bind (wpAny_mkStr (wpAny_pure ⟨_, rfl, ?_⟩) ?_)
    · have e2 : (⟨[y].reverse.foldl (fun acc p => acc ++ p.cps) #[]⟩ : Str) = y := by
        show (⟨#[] ++ y.cps⟩ : Str) = y
        rw [Array.empty_append]
      rw [e2]
      exact h s.heap _ _ (fun _ _ e => e) (Nat.le_trans hk1 hk2)
    · rw [sizeLine_eq]
      show (#[] ++ y.cps).size ≤ _
      rw [Array.empty_append]
      show y.length ≤ _
      omega
end
end
section
open PySem PySem.W PyProof.Rows PySem.Calls
set_option maxRecDepth 100000
set_option maxHeartbeats 1000000
noncomputable def fdF (i : Nat) (vars : List Str) (fl : Nat) : Fd := { fdOf i vars with fl := fl }
section
variable {w : World} {n : Nat} {F : Fd} {σ : List SV} {μ : Mu} {Φ : Out → Prop}
theorem St.floor {s₀ : Shared} {G₀ : GH} {env : Env} {s : Shared} {G : GH} (T : St s₀ G₀ F σ env s G) : F.fl ≤ s.toks := Nat.le_trans T.fl T.grow.toks
/-- a call of a def that asks a floor -/
theorem Em.callF {fe : Expr} {e : Expr} {es : List Expr} {rs : List SV} {r : SV} {f : Value} {fl : Nat} {pos : Pos} (h1 : Ev w n F σ fe (.v f)) (h2 : Es w n F σ (e :: es) rs) (h3 : Ckf fl w n f rs [] [] r) (hf : Callee f) (hfl : fl ≤ F.fl)
    (h0 : ((e :: es).all notStar) = true := by rfl) (ha : ∀ env, eval (.Call fe (e :: es) [] pos) env = (do callWith pos (← eval fe env) [] (backTo pos (starEach (e :: es) env)) (backToKw pos (keywordEach [] env))) := by intro _; rfl) :
    Em w n F σ μ (.Call fe (e :: es) [] pos) r := .mk fun s₀ G₀ env A s G Q E I Ro T O q => by
  rw [ha]
  refine wpAny_bind (h1.run env A s G _ _ I Ro T.grow.bare T.rel fun v s1 G1 g1 e1 => ?_)
  cases e1
  have T1 := T.step g1
  refine callWith_of_args hf (starEach_any h0) (evalArgs_es h0 (h2.run env A s1 G1 pos _ _ I Ro g1.bare T1.rel fun vs s2 G2 g2 r2 => ⟨g2.wd, ?_⟩))
  exact h3.run A s2 G2 vs [] Q E (Nat.le_trans hfl (T1.step g2).floor) Ro g2.bare g2.wd g2.sub r2 trivial fun v s3 G3 g3 r3 => q v s3 G3 (g1.trans (g2.trans g3)) r3
theorem Em.methF {o e : Expr} {es : List Expr} {name : Str} {apos pos : Pos} {T id : String} {ro r : SV} {rs : List SV} {fl : Nat} (pa : PlainAttrs T) (slot : PySem.Slot T name id) (hty : typeOf (.builtin id) = pure (.type "method_descriptor"))
    (h1 : Ev w n F σ o ro) (ty : TyIs ro T) (h2 : Es w n F σ (e :: es) rs) (h3 : Ckf fl w n (.builtin id) (ro :: rs) [] [] r) (hfl : fl ≤ F.fl)
    (hbase : ∀ env, attributeBase o name env (eval o env) = eval o env := by intro _; rfl) (hline : (apos.endLine == pos.line) = true := by rfl) (h0 : ((e :: es).all notStar) = true := by rfl) (hlen : decide ((e :: es).length + 0 + 0 < 30) = true := by rfl) :
    Em w n F σ μ (.Call (.Attribute o name apos) (e :: es) [] pos) r := .mk fun s₀ G₀ env A s G Q E I Ro T O q => by
  refine wpAny_Call_method (hbase env) ?_ hline pa slot hty ?_
  · rw [backTo_few h0]; exact hlen
  · refine h1.run env A s G _ E I Ro T.grow.bare T.rel fun v s1 G1 g1 r1 => ?_
    obtain ⟨hT, hd⟩ := ty s1 G1 v g1.sub r1
    have T1 := T.step g1
    refine ⟨hT, hd, callWith_of_args (.inl ⟨_, rfl⟩) (starEach_any h0) (evalArgs_es h0 (h2.run env A s1 G1 pos _ E I Ro g1.bare T1.rel fun vs s2 G2 g2 r2 => ⟨g2.wd, ?_⟩))⟩
    exact h3.run A s2 G2 (v :: vs) [] Q E (Nat.le_trans hfl (T1.step g2).floor) Ro g2.bare g2.wd g2.sub ⟨r1.ext g2.le, r2⟩ trivial fun v s3 G3 g3 r3 => q v s3 G3 (g1.trans (g2.trans g3)) r3
theorem ck_translate {c t0 : Nat} (hc : c < 128) : Ckf (t0 + 1) w (n + 1) (.builtin "str.translate") [.str ⟨#[c]⟩, .v (.ref 96)] [] [] (.s (escS c) t0) := .mk fun A s G vs kvs Q E hfl Ro B W k h _ q => by
  obtain ⟨v, u, rfl, r, r'⟩ := h.two
  obtain ⟨t, rfl⟩ := Rd.str_inv r
  cases r'
  obtain ⟨f, M, hf⟩ := W.sp (w := w)
  exact wpAny_hsz (call_translate hc (Ro.hd (by omega)) M (hf c) fun h' t' kk hk hle hs => q _ _ _ (.old B W k _ hk hs.1 hs.2) ⟨t', rfl, by omega⟩)
theorem body17 {c t0 : Nat} (hc : c < 128) : Xs w (n + 1) (fdF 17 ["pattern"] (t0 + 1)) [.str ⟨#[c]⟩] [] (fnBody 17) (FnEnd (.s (escS c) t0)) := by
  refine Xs.cons (X1.ite (c := true) (Tm.of (Tr.plain (Ev.call (rs := [.str ⟨#[c]⟩, .v (.type "str")]) (f := .builtin "isinstance") (Ev.blt (by dsimp only [fdF]; decide +kernel) (by rfl) (by decide +kernel)) (.cons (Ev.nm (by rfl) rfl) (.cons (Ev.blt (by dsimp only [fdF]; decide +kernel) (by rfl) (by decide +kernel)) .nil)) Cs.isStr (Callee.builtin _)) Ts.bool)) (fun _ => ?_) (fun h => nomatch h))
  exact Xs.cons (X1.ret (Em.methF (rs := [.v (.ref 96)]) PySem.F.plainAttrs_str PySem.F.slot_str_translate PySem.F.type_str_translate (Ev.nm (by rfl) rfl) .str (.cons (Ev.glob (by dsimp only [fdF]; decide +kernel) (by rfl) (by decide +kernel)) .nil) (ck_translate hc) (Nat.le_refl _)) rfl)
theorem F17_ok {fl : Nat} : (fdF 17 ["pattern"] fl).ok = true := by
  show (fdOf 17 ["pattern"]).ok = true
  decide +kernel
theorem F17_plain {fl : Nat} : (fdF 17 ["pattern"] fl).plain 1 = true := by
  show (fdOf 17 ["pattern"]).plain 1 = true
  decide +kernel
theorem ck17 {c t0 : Nat} (hc : c < 128) : Ckf (t0 + 1) w (n + 2) (.ref 106) [.str ⟨#[c]⟩] [] [] (.s (escS c) t0) :=
  Ckf.def (F := fdF 17 ["pattern"] (t0 + 1)) (k := 1) (P := ["pattern"]) (fill := fun vs _ => vs) (FnAt.def (i := 17) (P := ["pattern"]) (by decide) rfl (fun pm cd doc vs hv => by
    obtain ⟨a, rfl⟩ := len1 hv
    with_unfolding_all rfl)) rfl rfl rfl rfl rfl F17_ok F17_plain (fun _ _ _ x _ => x) (body17 hc)
end
end
section
open PySem PySem.W PyProof.Rows PySem.Calls
set_option maxRecDepth 100000
set_option maxHeartbeats 1000000
section
open Builtin Builtin.Str
noncomputable def findB (x y : Str) (i j : Int) : Int := match occurrences x y (fromIndex x.length i) (min (fromIndex x.length j) x.length) 1 with | k :: _ => (k : Int) | [] => -1
theorem gives_find4 (x y : Str) (i j : Int) (t u v v' : Tok) : Gives («str.find» ⟨[.str x t, .str y u, .int i v, .int j v'], []⟩) (.int (findB x y i j)) := by
  unfold findB
  show Gives (match occurrences x y (fromIndex x.length i) (min (fromIndex x.length j) x.length) 1 with | k :: _ => retInt k | [] => (do rule "str.find.not-found"; retInt (-1))) _
  cases occurrences x y (fromIndex x.length i) (min (fromIndex x.length j) x.length) 1 with
  | nil => exact .rule (.of_eq rfl)
  | cons k _ => exact .of_eq rfl
end
theorem args_find4 (a b c d : Value) : argsOk "str.find" ⟨[a, b, c, d], []⟩ := by
  unfold argsOk; rw [signature?_of (id := "str.find") (n := ['d', 'n', 'i', 'f']) (o := ['r', 't', 's']) (by kernel_rfl) PySem.F.owner_str]; kernel_rfl
noncomputable def noOcc (x y : Str) : Bool := (Builtin.Str.occurrences x y 0 x.length (x.length + 1)).isEmpty
section
variable {w : World} {n : Nat} {F : Fd} {σ : List SV} {μ : Mu} {Φ : Out → Prop}
theorem RvA.four {G : GH} {a b c d : SV} {vs : List Value} (h : RvA G [a, b, c, d] vs) : ∃ v u x y, vs = [v, u, x, y] ∧ Rv G a v ∧ Rv G b u ∧ Rv G c x ∧ Rv G d y := by
  match vs, h with
  | v :: us, ⟨x, y⟩ => obtain ⟨u, z, z', rfl, p, q⟩ := RvA.three y; exact ⟨v, u, z, z', rfl, x, p, q⟩
  | [], h => exact h.elim
theorem Cs.find4 {x y : Str} {i j : Int} : Cs w n (.builtin "str.find") [.str x, .str y, .int i, .int j] (.int (findB x y i j)) := .mk fun A s G vs Q E Ro B W k h q => by
  obtain ⟨a, b, c, d, rfl, r1, r2, r3, r4⟩ := h.four
  obtain ⟨_, rfl⟩ := Rd.str_inv r1; obtain ⟨_, rfl⟩ := Rd.str_inv r2; obtain ⟨_, rfl⟩ := Rd.int_inv r3; obtain ⟨_, rfl⟩ := Rd.int_inv r4
  exact call_gives PySem.F.slot_str_find (typeIs_str _ _ _) PySem.F.entry_str_find (args_find4 _ _ _ _) (gives_find4 _ _ _ _ _ _ _ _) (q _ _ _ (.tok B W k _) (.int _ _))
theorem Cs.replaceNo {x y z : Str} (hn : noOcc x y = true) : Cs w n (.builtin "str.replace") [.str x, .str y, .str z] (.str x) := .mk fun A s G vs Q E Ro B W k h q => by
  obtain ⟨a, b, c, rfl, r1, r2, r3⟩ := h.three
  obtain ⟨t, rfl⟩ := Rd.str_inv r1; obtain ⟨u, rfl⟩ := Rd.str_inv r2; obtain ⟨v, rfl⟩ := Rd.str_inv r3
  have hc : ((Builtin.Str.occurrences x y 0 x.length (x.length + 1)).isEmpty || (y.length == 0 && z.length == 0)) = true := by
    rw [show (Builtin.Str.occurrences x y 0 x.length (x.length + 1)).isEmpty = true from hn, Bool.true_or]
  have g := gives_str_replace x y z t u v (fun h => by rw [hc] at h; cases h)
  rw [if_pos hc] at g
  exact call_gives PySem.F.slot_str_replace (typeIs_str _ _ _) PySem.F.entry_str_replace (PySem.F.args_str_replace_3 _ _ _) g (q _ _ _ (.refl B W k) (.str _ _))
/-! the code table -/
theorem Grow.tabbed {s : Shared} {G : GH} (B : Bare s G) (W : Wd s.heap) (k : G.In s.heap) {h' : Heap} (t : Nat) (hx : Heap.ExtBut TB s.heap h') (hs : s.heap.objs.size ≤ h'.objs.size) (tab : ∃ vs, h'.get? TB = some { cls := .none, data := .fields vs } ∧ TriplesOk vs.toList) (ht : s.toks ≤ t) : Grow s G { s with heap := h', toks := t } G :=
  ⟨rfl, B.up ht, fun b o nb e => hx b o nb e, ⟨Nat.le_trans W.size hs, tab, let ⟨g, a, b⟩ := W.base; ⟨g, a, fun p o e => ⟨(b p o e).1, (b p o e).2.1, hx _ _ (b p o e).2.1 (b p o e).2.2⟩⟩⟩,
    fun b o e => hx b o (fun q => by subst q; rw [B.tb] at e; cases e) (k b o e), .refl _, fun _ _ e => .inl e, hs, ht⟩
theorem Wd.code {h : Heap} (W : Wd h) : ∃ ps, h.IsCode 112 TB ps ∧ h.TableAt 112 TB ps := by
  obtain ⟨vs, e, x⟩ := W.tab
  obtain ⟨g, Bs, kk⟩ := W.base
  obtain ⟨o, fs, file, tf, flags, tg, inF, text, tt, e1, e2, e3, e4, e5, e6, e7, e8⟩ := Bs.code19
  have h11 : fs.getD 11 .none = .ref TB := by rw [Array.getD_eq_getD_getElem?, e4]; rfl
  exact ⟨vs, ⟨o, fs, file, tf, flags, tg, inF, text, tt, _, (kk _ _ e1).2.2, e3, h11, e5, e6, e7, e8, e, rfl, x, by decide⟩, ⟨⟨o, fs, (kk _ _ e1).2.2, e2, e3, e4⟩, e⟩⟩
theorem genexpr_code {env : Env} {A : Around} {s : Shared} {G : GH} {pos : Pos} {qual : Str} {scope : Scope} {Q E : Value → Shared → Prop} (hc : env.code = .ref 112) (B : Bare s G) (W : Wd s.heap) (k : G.In s.heap)
    (q : ∀ v h' t, Heap.ExtBut TB s.heap h' → Grow s G { s with heap := h', toks := t } G → Q v { s with heap := h', toks := t }) : wpAny (model prog w) A (genexprCode env pos qual scope) Q E s := by
  obtain ⟨ps, C, T⟩ := W.code
  cases hf : codeAmong pos ps.toList with
  | some c' => exact wpAny_genexprCode_hit hc C hf (q _ s.heap s.toks (fun _ _ _ e => e) (.refl B W k))
  | none =>
    refine wpAny_toks (wpAny_genexprCodeX hc C T hf fun c' h' tk hx hge hlt hcode _ htab _ hle => ?_)
    obtain ⟨o, vs, file, tf, flags, tg, inF, text, tt, op, h1, h2, h3, h4, h5, h6, h7, h8, h9, h10, h11⟩ := hcode
    refine q _ h' tk hx (.tabbed B W k tk hx (Nat.le_trans hge (Nat.le_of_lt hlt)) ⟨_, htab.2, ?_⟩ hle)
    have : op.data = .fields _ := h9
    rw [htab.2] at h8
    cases h8
    exact h10
theorem function_code {env : Env} {A : Around} {s : Shared} {G : GH} {pos : Pos} {fl : Nat} {name qual : Str} {p : Arguments} {scope : Scope} {body : FuncBody} {Q E : Value → Shared → Prop} (hc : env.code = .ref 112) (B : Bare s G) (W : Wd s.heap) (k : G.In s.heap)
    (q : ∀ v h' t, Heap.ExtBut TB s.heap h' → Grow s G { s with heap := h', toks := t } G → Q v { s with heap := h', toks := t }) : wpAny (model prog w) A (functionCode env pos fl name qual p scope body) Q E s := by
  obtain ⟨ps, C, T⟩ := W.code
  cases hf : codeAmong pos ps.toList with
  | some c' => exact wpAny_functionCode_hit hc C hf (q _ s.heap s.toks (fun _ _ _ e => e) (.refl B W k))
  | none =>
    refine wpAny_toks (wpAny_functionCodeX hc C T hf fun c' h' tk hx hge hlt hcode _ htab _ hle => ?_)
    obtain ⟨o, vs, file, tf, flags, tg, inF, text, tt, op, h1, h2, h3, h4, h5, h6, h7, h8, h9, h10, h11⟩ := hcode
    refine q _ h' tk hx (.tabbed B W k tk hx (Nat.le_trans hge (Nat.le_of_lt hlt)) ⟨_, htab.2, ?_⟩ hle)
    have : op.data = .fields _ := h9
    rw [htab.2] at h8
    cases h8
    exact h10
theorem builtins_for {A : Around} {s : Shared} {running : Addr} {Q : Addr → Shared → Prop} {E : Value → Shared → Prop} (W : Wd s.heap) (q : Q builtinsNs s) : wpAny (model prog w) A (builtinsFor mainGlobals running) Q E s := by
  obtain ⟨mg, mb, g, b, hg, hb⟩ := W.names
  obtain ⟨g0, Bs, kk⟩ := W.base
  obtain ⟨ob, e1, e2, e3, e4⟩ := Bs.bmod
  exact wpAny_builtinsFor g (hg "__builtins__" (.ref 4) (by rfl)) (by decide) (kk _ _ e1).2.2 e2 e3 e4 q
end
end
section
open PySem PySem.W PyProof.Rows PySem.Calls
set_option maxRecDepth 100000
set_option maxHeartbeats 1000000
section
variable {w : World} {n : Nat} {F : Fd} {σ : List SV} {μ : Mu} {Φ : Out → Prop}
theorem Wd.nolimit {h : Heap} (W : Wd h) : h.NoLimit := let ⟨g, Bs, kk⟩ := W.base; Bs.nolimit.keeps fun p o e => (kk p o e).2.2
/-- what an element of a generator says -/
noncomputable def EltIs (w : World) (elt : Expr) (scope : Scope) (x : Str) (chs : List Str) : Prop :=
  ∀ (env cenv : Env) (A' : Around) (E' : Value → Shared → Prop) (c : Str) (t : Tok) (s₂ : Shared) (m₂ : Str → Option Value), cenv.scope = scope → A'.handled = Option.none → c ∈ chs → s₂.heap.Ns cenv.locals m₂ → m₂ x = some (.str c t) →
    wpAny (model prog w) A' (eval elt cenv) (fun y s₃ => (∃ u, y = .str c u) ∧ Keeps s₂ s₃) E' s₂
theorem Ev.joinGen {sep x : Str} {px p1 apos gpos pos : Pos} {k1 : Nat} {elt iter : Expr} {scope : Scope} {chs : List Str} (hcode : F.code = some 112) (hit : Ev w (n + 1) F σ iter (.list (chs.map .str))) (hl : chs.length ≤ 1000)
    (hco : scope.isCoroutine = false) (hfree : ∀ y ∈ scope.names, y.2 ≠ .free) (hcell : ∀ y ∈ scope.names, y.2 ≠ .cell) (h0 : scope.names.lookup (".0" : Str) = some NameKind.local) (hx : scope.names.lookup x = some .local) (hkind : scope.kind = .function)
    (helt : EltIs w elt scope x chs) (hok : JoinOk sep chs = true)
    (hs : ∀ env x, genFold iter env x = pure x := by intro _ _; rfl) (hline : (apos.endLine == pos.line) = true := by rfl) :
    Ev w (n + 1) F σ (.Call (.Attribute (.Constant (.str sep) k1 p1) "join" apos) [.GeneratorExp elt [⟨.Name x px, iter, [], 0⟩] scope gpos] [] pos) (.str (Txt.join sep chs)) := .mk fun env A s G Q E I Ro B R q => by
  have hAh : A.handled = Option.none := Ro.hd (by omega)
  obtain ⟨m0, N0, _⟩ := R.slots
  have hLlt : env.locals < s.heap.objs.size := N0.lt
  have hz0 : 173 ≤ s.heap.objs.size := R.wd.size
  refine wpAny_hsz (wpAny_Call_method (by rfl) (by rfl) hline PySem.F.plainAttrs_str PySem.F.slot_str_join PySem.F.type_str_join ?_)
  refine (Ev.str).run env A s G _ E I Ro B R fun v s1 G1 g1 r1 => ?_
  obtain ⟨t1, rfl⟩ := Rd.str_inv r1
  refine ⟨typeIs_str _ _ _, (fun a z => nomatch z), callWith_of_args (.inl ⟨_, rfl⟩) (starEach_any (by rfl)) (evalArgs_es (by rfl) ?_)⟩
  rw [starEach_cons (by rfl)]
  have R1 := R.grow g1
  refine spliced_cons (wpAny_GeneratorExp_walksQ hAh hco (closureFor_none hfree) hcell h0 hx hkind (by have := Ro.depth; show A.depth < 1000; omega) (hit.run env A s1 G1 _ E I Ro g1.bare R1 fun xv s2 G2 g2 r2 => ?_) (hs env))
  obtain ⟨a, items, rfl, L, _, ra⟩ := Rd.list_inv g2.sub r2
  have hlt : a < s2.heap.objs.size := let ⟨_, e, _⟩ := L; Heap.lt_size e
  have haT : a ≠ TB := let ⟨_, e, _, _, d⟩ := L; g2.wd.ne e (seq_ne d)
  have hz2 : s.heap.objs.size ≤ s2.heap.objs.size := Nat.le_trans g1.size g2.size
  refine wpAny_pyIter_list L ?_
  have g3 := Grow.push0 (s := s2) g2.bare g2.wd g2.sub { cls := .type "list_iterator", data := .fields #[.ref a, .int 0 0] } s2.toks
  refine ⟨g3.wd.nolimit, genexpr_code (I.cd _ hcode) g3.bare g3.wd g3.sub fun code h4 t4 hx4 g4 => ?_⟩
  rw [I.gl]
  refine builtins_for g4.wd ?_
  have hIne : s2.heap.objs.size ≠ TB := Nat.ne_of_gt (Nat.lt_of_lt_of_le (by decide) g2.wd.size)
  have hz4 : s2.heap.objs.size + 1 ≤ h4.objs.size := by
    have := g4.size
    have e : (s2.heap.push { cls := .type "list_iterator", data := .fields #[.ref a, .int 0 0] }).objs.size = s2.heap.objs.size + 1 := Heap.size_push ..
    exact e ▸ this
  have hS := RdA.strs ra
  have hzi : items.size = chs.length := by have := hS.length; simpa using this
  refine ⟨s2.heap.objs.size, [s2.heap.objs.size, a], [s2.heap.objs.size], items.size, _, _, fun _ => true, fun i y => ∃ u, y = .str (chs.getD i "") u, rfl, fun A' hA => Walks.list hA _ _ (Nat.ne_of_lt hlt) items, ⟨⟨_, hx4 _ _ hIne (Heap.get?_push_size _ rfl), rfl, rfl⟩, ?_⟩, fun b hb => ?_, g4.wd.nolimit, ?_, fun href hh => ⟨fun A' E' i v s₂ m₂ hA hP hN hm _ => ?_, fun A' E' i v s₂ m₂ hA hP _ hN hm _ => ?_⟩, fun a5 h5 tk gs hgb hag hsz5 hk5 W5 hat => ?_⟩
  · obtain ⟨o, e, c, m, d⟩ := L
    exact ⟨o, hx4 _ _ haT (Heap.get?_push_of_some _ e), c, m, d⟩
  · show b < h4.objs.size
    rcases List.mem_cons.mp hb with rfl | hb
    · exact Nat.lt_of_lt_of_le (Nat.lt_succ_self _) hz4
    · rw [List.mem_singleton.mp hb]; exact Nat.lt_of_lt_of_le hlt (Nat.le_of_succ_le hz4)
  · intro hm
    have := List.mem_singleton.mp hm
    exact Nat.ne_of_lt (Nat.lt_of_lt_of_le (show cStatics < 173 by decide) g2.wd.size) this
  · exact wpAny_pure ⟨rfl, s₂.heap, s₂.toks, rfl, fun _ _ e => e⟩
  · have hP : items[i]? = some v := hP
    obtain ⟨t, hv, hi⟩ := strsAre_get hS (by simpa using hP)
    subst hv
    refine wpAny_mono (helt env _ A' E' (chs.getD i "") t s₂ m₂ rfl hA ?_ hN hm) (fun y s₃ h => h) fun _ _ e => e
    rw [List.getD_eq_getElem?_getD, List.getElem?_eq_getElem hi]
    exact List.getElem_mem hi
  · refine spliced_nil ⟨g4.wd.keeps hk5 (by rw [hsz5]; omega), ?_⟩
    have hnp : passing (fun _ => true) items.size 0 = List.range items.size := by
      unfold passing
      rw [List.drop_zero]
      exact List.filter_eq_self.mpr fun _ _ => rfl
    have hK : env.locals ≤ s.heap.objs.size - 1 := Nat.le_sub_one_of_lt hLlt
    have up5 : ∀ b o, b ≠ TB → s.heap.get? b = some o → h5.get? b = some o := fun b o nb e => hk5 b o ((g1.trans (g2.trans (g3.trans g4))).keep b o nb e)
    have hLT : env.locals ≠ TB := Nat.ne_of_gt (Nat.lt_of_lt_of_le (show TB < 173 by decide) I.low)
    have X : Gen prog w A (s.heap.objs.size - 1) a5 (passing (fun _ => true) items.size 0).length (fun j y => ∃ i, (passing (fun _ => true) items.size 0)[j]? = some i ∧ ∃ u, y = Value.str (chs.getD i "") u) { heap := h5, gens := s2.gens.push gs, drawn := s2.drawn, toks := tk, os := s2.os } := by
      refine ⟨_, _, _, _, W5, hat, fun i s' st => st.1.typeIs, List.mem_cons_self, fun b hb => ?_, fun b hb => ?_⟩
      · have hb := (List.mem_cons.mp hb).imp id fun q => (List.mem_cons.mp q).imp id List.mem_range.mp
        have le : b ≤ _ := hb.elim Nat.le_of_eq fun q => q.elim (fun z => Nat.le_of_lt (z ▸ hag)) fun z => Nat.le_of_lt (Nat.lt_trans z hag)
        exact Nat.lt_of_le_of_lt le (Nat.lt_of_lt_of_eq (Nat.lt_succ_self _) hsz5.symm)
      · have hs1 : s.heap.objs.size - 1 < s.heap.objs.size := Nat.sub_one_lt_of_lt (Nat.lt_of_lt_of_le (show 0 < 173 by decide) hz0)
        rcases List.mem_cons.mp hb with rfl | hb
        · exact Nat.lt_of_lt_of_le hs1 (Nat.le_trans hz2 (Nat.le_of_succ_le hz4))
        · rw [List.mem_singleton.mp hb]
          exact Nat.lt_of_lt_of_le hs1 hz2
    have hmap : (List.range (passing (fun _ => true) items.size 0).length).map (fun j => chs.getD j "") = chs := by
      rw [hnp, List.length_range, hzi]
      exact range_getD chs ""
    refine join_rowsK (h₀ := {}) (L := env.locals) (m := m0) ⟨N0.at' fun o e => up5 _ o hLT e, fun b o e => (by cases e), Nat.zero_le _⟩ (g4.bare.gens.push hgb) X hK (fun j => chs.getD j "") (fun j v hv => ?_) (by rw [hmap]; exact hok) (fun s' t' _ hb hos hk hs => ?_) (by rw [hnp, List.length_range, hzi, sizeLine_eq]; omega)
    · obtain ⟨i, hi, u, hu⟩ := hv
      rw [hnp] at hi
      have : i = j := by
        have hj := (List.getElem?_eq_some_iff.mp hi)
        obtain ⟨hj1, hj2⟩ := hj
        rw [List.getElem_range] at hj2
        exact hj2.symm
      exact ⟨u, by rw [hu, this]⟩
    · rw [hmap]
      have hle : ∀ b, b < s.heap.objs.size → b ≤ s.heap.objs.size - 1 := fun b h => Nat.le_sub_one_of_lt h
      have up' : ∀ b o, b ≠ TB → s.heap.get? b = some o → s'.heap.get? b = some o := fun b o nb e => hk b o (hle b (Heap.lt_size e)) (up5 b o nb e)
      refine q _ s' G ⟨?_, ⟨hb, Nat.lt_of_lt_of_le B.pos hs.2, B.tb⟩, up', ⟨Nat.le_trans R.wd.size hs.1, ?_, ?_⟩, fun b o e => up' b o (fun z => by subst z; rw [B.tb] at e; cases e) (R.sub b o e), .refl _, fun _ _ e => .inl e, hs.1, hs.2⟩ (.str _ _)
      · exact hos.trans (g1.trans (g2.trans (g3.trans g4))).os
      · obtain ⟨vs, e, x⟩ := g4.wd.tab
        exact ⟨vs, hk TB _ (hle TB (Nat.lt_of_lt_of_le (show TB < 173 by decide) hz0)) (hk5 _ _ e), x⟩
      · obtain ⟨g0, Bs, kk⟩ := R.wd.base
        exact ⟨g0, Bs, fun p o e => ⟨(kk p o e).1, (kk p o e).2.1, up' p o (kk p o e).2.1 (kk p o e).2.2⟩⟩
end
end
section
open PySem PySem.W PyProof.Rows PySem.Calls
set_option maxRecDepth 100000
set_option maxHeartbeats 1000000
section
variable {w : World}
theorem Keeps.rfl' (s : Shared) : Keeps s s := ⟨s.heap, s.toks, rfl, fun _ _ e => e⟩
theorem replace_call {A : Around} {E : Value → Shared → Prop} {s : Shared} {x y z : Str} {t u v : Tok} {Q : Value → Shared → Prop} (hn : noOcc x y = true) (q : Q (.str x t) s) : wpAny (model prog w) A (call (.builtin "str.replace") [.str x t, .str y u, .str z v]) Q E s := by
  have hc : ((Builtin.Str.occurrences x y 0 x.length (x.length + 1)).isEmpty || (y.length == 0 && z.length == 0)) = true := by
    rw [show (Builtin.Str.occurrences x y 0 x.length (x.length + 1)).isEmpty = true from hn, Bool.true_or]
  have g := gives_str_replace x y z t u v (fun h => by rw [hc] at h; cases h)
  rw [if_pos hc] at g
  exact call_gives PySem.F.slot_str_replace (typeIs_str _ _ _) PySem.F.entry_str_replace (PySem.F.args_str_replace_3 _ _ _) g q
theorem elt_replace {scope : Scope} {x y z : Str} {chs : List Str} {o : Expr} {k1 k2 : Nat} {p1 p2 apos pos : Pos} (h : EltIs w o scope x chs) (hn : ∀ c ∈ chs, noOcc c y = true)
    (hbase : ∀ env, attributeBase o "replace" env (eval o env) = eval o env := by intro _; rfl) (hline : (apos.endLine == pos.line) = true := by rfl) :
    EltIs w (.Call (.Attribute o "replace" apos) [.Constant (.str y) k1 p1, .Constant (.str z) k2 p2] [] pos) scope x chs := fun env cenv A' E' c t s₂ m₂ hsc hA hc hN hm => by
  refine wpAny_Call_method (hbase cenv) (by rfl) hline PySem.F.plainAttrs_str PySem.F.slot_str_replace PySem.F.type_str_replace ?_
  refine wpAny_mono (h env cenv A' E' c t s₂ m₂ hsc hA hc hN hm) (fun v s₃ h3 => ?_) fun _ _ e => e
  obtain ⟨⟨u, rfl⟩, h', tk, rfl, hk⟩ := h3
  refine ⟨typeIs_str _ _ _, (fun a z => nomatch z), callWith_builtin (by rfl) (evalArgs_plain (spliced_cons (Constant_str (k := k1) (pos := p1) (spliced_cons (Constant_str (k := k2) (pos := p2) (spliced_nil ?_))))))⟩
  exact replace_call (hn c hc) ⟨⟨u, rfl⟩, h', tk + 1 + 1, rfl, hk⟩
theorem elt_name {scope : Scope} {x : Str} {p : Pos} {chs : List Str} (hk : scope.kind = .function) (hx : scope.names.lookup x = some .local) (hd : (x == ("__debug__" : Str)) = false) : EltIs w (.Name x p) scope x chs := fun env cenv A' E' c t s₂ m₂ hsc hA hc hN hm => by
  refine wpAny_Name (wpAny_loadName_local (by rw [hsc]; exact hk) (show cenv.scope.names.lookup x = _ by rw [hsc]; exact hx) hN hm ⟨⟨t, rfl⟩, Keeps.rfl' s₂⟩) hd
end
end
section
open PySem PySem.W PyProof.Rows PySem.Calls
open Builtin Builtin.Re
set_option maxRecDepth 100000
set_option maxHeartbeats 1000000
theorem plainAttrs_re : PlainAttrs "re.Pattern" :=
  ⟨⟨"object.__getattribute__", by rw [typeLookup_type, builtinLookup_eq_fast]; kernel_rfl, by decide +kernel⟩, by rw [typeLookup_type, builtinLookup_eq_fast]; kernel_rfl⟩
theorem slot_re_sub : PySem.Slot "re.Pattern" "sub" "re.Pattern.sub" :=
  .of (owner := "re.Pattern") (n := "sub") (by rw [typeLookup_type, builtinLookup_eq_fast]; kernel_rfl) (by decide +kernel) (by decide +kernel) (by decide +kernel)
    (by first | exact .inl (by decide +kernel) | exact .inr (by decide +kernel)) (by rw [isSubtype_type]; kernel_rfl)
theorem type_re_sub : typeOf (.builtin "re.Pattern.sub") = pure (.type "method_descriptor") := by show builtinType _ = _; rw [builtinType_eq_fast]; kernel_rfl
theorem entry_re_sub : entryFor table "re.Pattern.sub" = some Builtin.«re.Pattern.sub» := entryFor_of_tree (by kernel_rfl)
theorem entry_re_loop : entryFor table "re.Pattern.sub.loop" = some Builtin.«re.Pattern.sub.loop» := entryFor_of_tree (by kernel_rfl)
theorem args_re_sub (a b c : Value) : argsOk "re.Pattern.sub" ⟨[a, b, c], []⟩ := by unfold argsOk; kernel_rfl
theorem fun_call_lookup : ∃ c, typeLookup (.type "function") "__call__" = pure (some c) := ⟨.builtin "function.__call__", by rw [typeLookup_type, builtinLookup_eq_fast]; kernel_rfl⟩
noncomputable def noMatch (x : Str) : Prop := ∀ S, peek [] S (reRunToEnd (Sre.forSearch (reT.map Int.toNat).toArray x.cps 1 0 x.cps.size false)) = some none
theorem named_three (a b : Value) : reNamed "re.Pattern.sub" "sub" ["repl", "string", "count"] 2 [a, b] [] = pure [some a, some b, none] := rfl
section
variable {w : World} {A : Around} {E : Value → Shared → Prop} {s : Shared}
theorem whole_target {h : Heap} {g : Array GenState} {d : Drawn} {t : Nat} {os : OsState} {x : Str} {tx : Tok} {o o' : Obj} {v : Value} {n : Nat} {Q : ReTarget → Shared → Prop} (e : h.get? 87 = some o) (hd : o.data = .fields #[v, .int 32 398, .int 1 0, .none, .none, .ref 86, rawInt 0])
    (e' : h.get? 86 = some o') (hd' : o'.data = .seq (reT.map fun i => rawInt i).toArray n)
    (q : Q { pattern := .ref 87, string := .str x tx, code := (reT.map Int.toNat).toArray, text := x.cps, kind := 0, groups := 1, pos := 0, lim := x.cps.size } ⟨h, g, d, t, os⟩) : wpAny (model prog w) A (reWholeTarget (.ref 87) (.str x tx)) Q E ⟨h, g, d, t, os⟩ := by
  unfold reWholeTarget
  refine wpAny_bind (wpAny_fieldsOf e hd ?_)
  refine wpAny_bind (wpAny_pure ?_)
  refine wpAny_bind (wpAny_pure ?_)
  refine wpAny_bind ?_
  unfold reRawItems
  refine wpAny_bind (wpAny_seqItems e' hd' ?_)
  refine wpAny_pure (wpAny_pure ?_)
  have hc : Array.map (fun x => x.toNat) (Array.map reRawOf ((some (List.map (fun i => rawInt i) reT).toArray).getD #[])) = (reT.map Int.toNat).toArray := by kernel_rfl
  rw [hc]
  exact q
theorem sub_loop {h : Heap} {g : Array GenState} {d : Drawn} {t : Nat} {os : OsState} {x : Str} {tx : Tok} {o o' : Obj} {v : Value} {n : Nat} {f : Value} {R : Result → Shared → Prop} (e : h.get? 87 = some o) (hd : o.data = .fields #[v, .int 32 398, .int 1 0, .none, .none, .ref 86, rawInt 0])
    (e' : h.get? 86 = some o') (hd' : o'.data = .seq (reT.map fun i => rawInt i).toArray n) (hn : noMatch x) (hx : 0 < x.cps.size) (hx2 : x.cps.size ≤ 1000) {L : Addr} (hL : h.get? L = some { cls := .type "list", data := .seq #[] })
    (q : ∀ t' t₂ h', (∀ b o, b ≠ L → h.get? b = some o → h'.get? b = some o) → h'.objs.size = h.objs.size → t ≤ t₂ → R (.ok (.ret (.str x t'))) ⟨h', g, d, t₂, os⟩) :
    codeAny (model prog w) A (.builtin "re.Pattern.sub.loop" ⟨[.ref 87, .str x tx, f, rawInt 1, rawInt 0, rawInt 0, rawInt 0, rawInt 0, .bool false, .ref L, .bool false], []⟩) R ⟨h, g, d, t, os⟩ := by
  refine codeAny_builtin entry_re_loop ?_
  unfold Builtin.«re.Pattern.sub.loop»
  refine wpAny_bind (whole_target e hd e' hd' ?_)
  refine wpAny_bind ?_
  rw [if_neg (by decide)]
  unfold reNextFound
  refine Looks.here (Looks.of_peek (K := []) (fun _ _ e => nomatch e) (hn _)) ?_
  dsimp only
  rw [if_pos (show Int.toNat 0 < x.cps.size from hx)]
  have hex : (⟨x.cps.extract 0 x.cps.size⟩ : Str) = x := by rw [Array.extract_size]
  unfold reSlice
  rw [if_pos (by decide), if_pos (by decide)]
  show wpAny _ _ (mkStr ⟨x.cps.extract 0 x.cps.size⟩ >>= _) _ _ _
  rw [hex]
  refine wpAny_bind (wpAny_mkStr' ?_ (show x.cps.size ≤ _ by have := sizeLine_eq; omega))
  refine wpAny_bind (wpAny_updateSeq hL rfl ?_)
  have he0 : (⟨x.cps.extract 0 0⟩ : Str) = ⟨#[]⟩ := by rw [Array.extract_eq_empty_of_le (Nat.zero_le _)]
  rw [he0]
  refine wpAny_bind (wpAny_mkStr' ?_)
  have hL' : (h.update L (Obj.mapSeq fun a => a.push (.str x t))).get? L = some (Obj.mapSeq (fun a => a.push (.str x t)) { cls := .type "list", data := .seq #[] }) := Heap.get?_update_self _ hL rfl
  refine wpAny_bind (wpAny_seqItems hL' rfl ?_)
  rw [if_neg (fun z => nomatch z)]
  refine wpAny_bind ?_
  refine wpAny_toks (join_list (x := ⟨#[]⟩) (ys := [x]) ⟨_, hL', rfl, _, rfl⟩ (.cons x t .nil) ?_ fun t' k' hle => ?_)
  · show (x.cps.size + 0) + 1 * 0 ≤ _; omega
  rw [if_neg (fun z => nomatch z)]
  refine wpAny_pure ?_
  have hj : Txt.join ⟨#[]⟩ [x] = x := rfl
  rw [hj]
  exact q _ _ _ (fun b o nb e => Heap.get?_update_of_ne _ (Ne.symm nb) e) (Heap.size_update ..) (by have : t + 1 + 1 ≤ k' := hle; omega)
theorem call_re_sub {G : GH} {x : Str} {tx : Tok} {f : Addr} {fo : Obj} {Q : Value → Shared → Prop} (B : Bare s G) (W : Wd s.heap) (k : G.In s.heap) (hn : noMatch x) (hx : 0 < x.cps.size) (hx2 : x.cps.size ≤ 1000)
    (hf : s.heap.get? f = some fo) (hfc : fo.cls = .type "function") (q : ∀ t' s', Grow s G s' G → Q (.str x t') s') : wpAny (model prog w) A (call (.builtin "re.Pattern.sub") [.ref 87, .ref f, .str x tx]) Q E s := by
  obtain ⟨g, Bs, kk⟩ := W.base
  obtain ⟨o7, v7, e7, c7, d7, f7⟩ := Bs.o87
  obtain ⟨o6, n6, e6, c6, f6⟩ := Bs.o86
  have e7 := (kk _ _ e7).2.2
  have e6 := (kk _ _ e6).2.2
  obtain ⟨fc, hfl⟩ := fun_call_lookup
  have hT : s.TypeIs (.ref 87) "re.Pattern" := ⟨_, e7, c7⟩
  have hTf : s.TypeIs (.ref f) "function" := ⟨_, hf, hfc⟩
  refine wpAny_call (codeAny_call_builtin slot_re_sub.plain entry_re_sub (slot_re_sub.check _ _ _ _ _ _ _ _ hT (args_re_sub _ _ _) ?_))
  unfold Builtin.«re.Pattern.sub» reSubstitute
  refine wpAny_bind (wpAny_of_eq (named_three _ _) ?_)
  refine wpAny_bind (wpAny_pure ?_)
  refine wpAny_bind (wpAny_specialOf hTf hfl ?_)
  show wpAny _ _ (do
    let literal ← pure false
    let __x ← pure (Value.ref f, (1 : Int))
    let _ ← holding [.ref f] (reWholeTarget (Value.ref 87) (Value.str x tx))
    let __r ← reNotHeld "re.Pattern.sub" (Value.str x tx)
    let __do_lift ← newList []
    again (Code.builtin "re.Pattern.sub.loop" { pos := [Value.ref 87, Value.str x tx, .ref f, rawInt 1, rawInt 0, rawInt 0, rawInt 0, rawInt 0, Value.bool false, __do_lift, Value.bool false] })) _ _ _
  refine wpAny_bind (wpAny_pure (wpAny_bind (wpAny_pure (wpAny_bind (wpAny_holding (whole_target e7 f7 e6 f6 ?_))))))
  unfold reNotHeld
  refine wpAny_bind (wpAny_bind (wpAny_isInstance_val (v := .str x tx) (T := "str") (U := "bytearray") (b := false) rfl (by rw [isSubtype_type]; kernel_rfl) ?_))
  refine wpAny_pure ?_
  refine wpAny_bind (wpAny_newList ?_)
  refine wpAny_pure ⟨plainId_quiet (by decide +kernel) _, ?_⟩
  have g1 := Grow.push0 B W k { cls := .type "list", data := .seq #[] } s.toks
  refine sub_loop (o := o7) (o' := o6) (Heap.get?_push_of_some _ e7) f7 (Heap.get?_push_of_some _ e6) f6 hn hx hx2 (Heap.get?_push_size _ rfl) fun t' t₂ h' hk hs ht => q _ _ (.old B W k t₂ (fun b o e => hk b o (Nat.ne_of_lt (Heap.lt_size e)) (Heap.get?_push_of_some _ e)) (by rw [hs, Heap.size_push]; omega) ht)
theorem eval_lambda {G : GH} {env : Env} {as : List Arg} {body : Expr} {scope : Scope} {pos : Pos} {Q : Value → Shared → Prop} (hc : env.code = .ref 112) (hgl : env.globals = mainGlobals) (hfree : ∀ y ∈ scope.names, y.2 ≠ .free) (B : Bare s G) (W : Wd s.heap) (k : G.In s.heap)
    (q : ∀ f s', Grow s G s' G → s.heap.objs.size ≤ f → (∃ fo, s'.heap.get? f = some fo ∧ fo.cls = .type "function") → Q (.ref f) s') : wpAny (model prog w) A (eval (.Lambda ⟨[], as, none, [], [], none, []⟩ body scope pos) env) Q E s := by
  rw [arm_eval_Lambda]
  refine wpAny_bind (wpAny_pure ?_)
  refine wpAny_bind (wpAny_holding (wpAny_pure ?_))
  rw [makeFunction_eq]
  refine wpAny_bind (wpAny_pure (wpAny_bind (wpAny_pure (wpAny_bind (wpAny_pure ?_)))))
  unfold makeTail
  rw [closureFor_none hfree]
  refine wpAny_bind (wpAny_pure (wpAny_bind (wpAny_pure ?_)))
  refine wpAny_bind (function_code hc B W k fun v h' t hx g => ?_)
  rw [hgl]
  refine wpAny_bind (builtins_for g.wd ?_)
  obtain ⟨mg, mb, N, _⟩ := g.wd.names
  refine wpAny_bind (wpAny_nsGet N ?_)
  refine wpAny_bind (wpAny_pure ?_)
  refine wpAny_newObj_type ?_ (by size_fits)
  exact q _ _ (g.trans (.push0 g.bare g.wd g.sub _ _)) g.size ⟨_, Heap.get?_push_size _ rfl, rfl⟩
variable {n : Nat} {F : Fd} {σ : List SV}
theorem Ev.twinSub {x : Str} {as : List Arg} {body arg : Expr} {scope : Scope} {p1 apos lpos pos : Pos} (hcode : F.code = some 112) (hk : F.sc.names.lookup ("_twin_re_1" : Str) = some .globalImplicit) (harg : Ev w (n + 1) F σ arg (.str x)) (hn : noMatch x) (hx : 0 < x.cps.size) (hx2 : x.cps.size ≤ 1000)
    (hfree : ∀ y ∈ scope.names, y.2 ≠ .free) (hs : notStar arg = true := by rfl) (hline : (apos.endLine == pos.line) = true := by rfl) :
    Ev w (n + 1) F σ (.Call (.Attribute (.Name "_twin_re_1" p1) "sub" apos) [.Lambda ⟨[], as, Option.none, [], [], Option.none, []⟩ body scope lpos, arg] [] pos) (.str x) := .mk fun env A s G Q E I Ro B R q => by
  have hall : ([Expr.Lambda ⟨[], as, Option.none, [], [], Option.none, []⟩ body scope lpos, arg].all notStar) = true := by
    show (true && (notStar arg && true)) = true
    rw [hs]; rfl
  refine wpAny_hsz (wpAny_Call_method (by rfl) (by rw [starEach_cons (by rfl), starEach_cons hs]; rfl) hline plainAttrs_re slot_re_sub type_re_sub ?_)
  refine (Ev.glob hk (v := .ref 87) (by rfl) (by decide)).run env A s G _ E I Ro B R fun v s1 G1 g1 r1 => ?_
  have r1 : v = .ref 87 := r1
  subst r1
  obtain ⟨g0, Bs, kk⟩ := g1.wd.base
  obtain ⟨o7, v7, e7, c7, d7, f7⟩ := Bs.o87
  have e7 := (kk _ _ e7).2.2
  refine ⟨⟨_, e7, c7⟩, (fun a z => by cases z; exact ⟨_, e7, d7⟩), callWith_of_args (.inl ⟨_, rfl⟩) (starEach_any hall) (evalArgs_es hall ?_)⟩
  rw [starEach_cons (by rfl), starEach_cons hs]
  have R1 := R.grow g1
  refine spliced_cons (eval_lambda (I.cd _ hcode) I.gl hfree g1.bare g1.wd g1.sub fun f s2 g2 hz hf => ?_)
  have R2 := R1.grow g2
  refine spliced_cons (harg.run env A s2 G1 _ E I Ro g2.bare R2 fun xv s3 G3 g3 r3 => ?_)
  obtain ⟨t3, rfl⟩ := Rd.str_inv r3
  refine spliced_nil ⟨g3.wd, ?_⟩
  obtain ⟨fo, ef, cf⟩ := hf
  have hfT : f ≠ TB := Nat.ne_of_gt (Nat.lt_of_lt_of_le (show TB < 173 by decide) (Nat.le_trans g1.wd.size hz))
  refine call_re_sub g3.bare g3.wd g3.sub hn hx hx2 (g3.keep _ _ hfT ef) cf fun t' s' g4 => ?_
  intro _
  exact q _ _ _ ((g1.trans (g2.trans (g3.trans g4)))) (.str _ _)
end
end
section
open PySem PySem.W PyProof.Rows PySem.Calls
set_option maxRecDepth 100000
set_option maxHeartbeats 1000000
section
variable {w : World} {n : Nat} {F : Fd} {σ : List SV} {μ : Mu} {Φ : Out → Prop}
theorem Tm.seeL {e : Expr} {r : Bool} (i j : Nat) {a : Addr} {rs : List SV} (hi : σ[i]? = some (.v (.ref a))) (hj : μ[j]? = some (a, rs)) (h : Tm w n F (σ.set i (.l rs)) (μ.eraseIdx j) e r) : Tm w n F σ μ e r :=
  .mk fun s₀ G₀ env A s G Q E I Ro T O q => by
    obtain ⟨o, h1, h2, h3, T', O', _⟩ := T.putL O hi hj
    exact h.run s₀ G₀ env A s _ Q E I Ro T' O' fun s' G' g => q s' _ (g.del h1 h3)
theorem Is.lNeg {rs : List SV} {k : Int} {r : SV} (h0 : k < 0) (h1 : -(rs.length : Int) ≤ k) (hx : rs[(k + rs.length).toNat]? = some r) (hl : rs.length ≤ 1000000) : Is w n (.l rs) (.int k) r := .mk fun A s G x y Q E Ro B W k' r1 r2 => by
  obtain ⟨a, o, vs, m, rfl, e2, e3, e4, e5, e6⟩ := r1
  obtain ⟨t, rfl⟩ := Rd.int_inv r2
  have L : s.heap.IsList a vs := ⟨o, k' _ _ e2, e3, m, e5⟩
  refine ⟨⟨_, _, L.typeIs, slot_list_getitem.lookup⟩, fun q => ?_⟩
  obtain ⟨v, e, rv⟩ := e6.get hx
  have hz : vs.size = rs.length := by rw [e6.length]; simp
  exact wpAny_getItem_list_neg L h0 (by rw [hz]; exact h1) (by omega) (by rw [hz]; simpa using e) (q v s _ (.refl B W k') rv)
theorem Ts.l {rs : List SV} (hl : rs.length ≤ 1000000) : Ts w n (.l rs) (!rs.isEmpty) := .mk fun A s G _ Q E Ro B W k h q => by
  obtain ⟨a, o, vs, m, rfl, e2, e3, e4, e5, e6⟩ := h
  have L : s.heap.IsList a vs := ⟨o, k _ _ e2, e3, m, e5⟩
  have z1 : vs.size = rs.length := by rw [e6.length]; simp
  have z2 : vs.isEmpty = rs.isEmpty := by
    rw [Array.isEmpty, z1]
    cases rs <;> rfl
  exact wpAny_truthy_list L (by omega) (by rw [z2]; exact q _ G (.tok B W k _))
theorem Ms.inTS {x : Str} {ys : List Str} (hl : ys.length ≤ 1000) : Ms w n .In (.str x) (.d (.tuple (ys.map .str))) (ys.any fun y => y == x) := .mk fun A s G _ _ Q E Ro B W k h1 h2 q => by
  obtain ⟨t, rfl⟩ := Rd.str_inv h1
  obtain ⟨a, items, rfl, L, ra⟩ := Rd.tuple_inv k h2
  exact in_tuple_strs L (RdA.strs ra) (q _ G (.refl B W k))
theorem Em.fstrS {a b x : Str} {t0 : Nat} {e : Expr} {k1 k2 : Nat} {p1 p2 p3 pos : Pos} (h : Ev w n F σ e (.str x)) (hf : t0 < F.fl) (hl : a.length + x.length + b.length ≤ 1000000) : Em w n F σ μ (.JoinedStr [.Constant (.str a) k1 p1, .FormattedValue e (-1) Option.none p2, .Constant (.str b) k2 p3] pos) (.s (a ++ x ++ b) t0) := .mk fun s₀ G₀ env A s G Q E I Ro T O q => by
  have B := T.grow.bare
  have R := T.rel
  have hfl := T.floor
  have e0 : Str.empty ++ a = a := PySem.Str.empty_append a
  refine JoinedStr_many (joinParts_cons (Constant_str ⟨?_, joinParts_cons (FormattedValue_plain (h.run env A _ G _ E I Ro (B.up (Nat.le_succ _)) ⟨R.wd, R.sub, R.slots⟩ fun v s1 G1 g1 r1 => ?_))⟩))
  · rw [e0, sizeLine_eq]; omega
  obtain ⟨t, rfl⟩ := Rd.str_inv r1
  refine wpAny_toks (formatField_str (fun t' tk hle => ⟨?_, joinParts_cons (Constant_str ⟨?_, joinParts_nil ?_ ?_⟩)⟩) (by rw [sizeLine_eq]; omega))
  · rw [e0, PySem.Str.length_append, sizeLine_eq]; omega
  · rw [e0, PySem.Str.length_append, PySem.Str.length_append, sizeLine_eq]; omega
  · rw [e0]
    have hle : s1.toks ≤ tk := hle
    have ht : s.toks ≤ s1.toks := Nat.le_trans (Nat.le_succ _) g1.toks
    refine q _ _ G1 ?_ ⟨_, rfl, ?_⟩
    · exact ⟨g1.os, ⟨g1.bare.gens, by show 0 < tk + 1 + 1; omega, g1.bare.tb⟩, g1.keep, g1.wd, g1.sub, g1.le, g1.new, g1.size, by show s.toks ≤ tk + 1 + 1; omega⟩
    · show t0 < tk + 1
      omega
  · rw [e0, PySem.Str.length_append, PySem.Str.length_append, sizeLine_eq]; omega
theorem rangeSize_down {a : Int} {k : Nat} (h : k = a.toNat) (hb : 0 ≤ a) : Builtin.Range.rangeSize a 0 (-1) = k := by
  unfold Builtin.Range.rangeSize
  rw [if_neg (by decide), show (-(-1) : Int) = 1 from rfl, Int.ediv_one]
  split <;> omega
theorem small_down {a : Int} (hb : 0 ≤ a) (hb' : a ≤ 1000000) : Builtin.Range.small a 0 (-1) = true := by
  unfold Builtin.Range.small
  rw [rangeSize_down rfl hb]
  simp only [Builtin.Range.rangeFitsLong, Bool.and_eq_true, decide_eq_true_eq, Bool.or_eq_true, beq_iff_eq]
  simp <;> (repeat' apply And.intro) <;> omega
theorem Ci.rangeDown {a : Int} (k : Nat) (hk : k = a.toNat) (h0 : 0 ≤ a) (h1 : a ≤ 1000000) : Ci w (n + 1) (.type "range") [.int a, .int 0, .int (-1)] (rangeL a (-1) k) := .mk fun A s G vs Q E Ro B W kG h q => by
  obtain ⟨v, v', v'', rfl, r, r', r''⟩ := h.three
  obtain ⟨t, rfl⟩ := Rd.int_inv r
  obtain ⟨t', rfl⟩ := Rd.int_inv r'
  obtain ⟨t'', rfl⟩ := Rd.int_inv r''
  refine call_range_3 (by decide) ?_ (.inl (PyProof.noPylong_small (by omega)))
  have g := Grow.push0 (s := s) B W kG { cls := .type "range", data := .fields #[.int a t, .int 0 t', .int (-1) t''] } s.toks
  exact range_itq Ro g.bare g.wd g.sub (IsRange.new ..) (small_down h0 h1) (rangeSize_down hk h0) (q.after g)
end
end
section
open PySem PySem.W PyProof.Rows PySem.Calls
set_option maxRecDepth 100000
set_option maxHeartbeats 1000000
noncomputable def F19 (t0 : Nat) : Fd := { fdOf 19 ["pat", "STAR", "QUESTION_MARK", "res", "add", "i", "n", "c", "j", "stuff", "chunks", "k", "chunk"] with fl := t0 + 1, code := some 112 }
theorem F19_ok {t0 : Nat} : (F19 t0).ok = true := by
  show (fdOf 19 ["pat", "STAR", "QUESTION_MARK", "res", "add", "i", "n", "c", "j", "stuff", "chunks", "k", "chunk"]).ok = true
  decide +kernel
theorem F19_plain {t0 : Nat} : (F19 t0).plain 3 = true := by
  show (fdOf 19 ["pat", "STAR", "QUESTION_MARK", "res", "add", "i", "n", "c", "j", "stuff", "chunks", "k", "chunk"]).plain 3 = true
  decide +kernel
noncomputable def v19 : List Str := ["pat", "STAR", "QUESTION_MARK", "res", "add", "i", "n", "c", "j", "stuff", "chunks", "k", "chunk"]
theorem S19 {t0 : Nat} {x : Str} (h : storable x v19 (fdOf 19 v19).kinds = true) : storable x (F19 t0).vars (F19 t0).kinds = true := h
theorem L19 {t0 : Nat} {x : Str} {k : NameKind} (h : (fnScope 19).names.lookup x = some k) : (F19 t0).sc.names.lookup x = some k := h
noncomputable def while19 : List Stmt := match fnBody 19 with | [_, _, _, Stmt.While _ b _ _, _, _] => b | _ => []
noncomputable def brk19 : List Stmt := match while19 with | [_, _, .If _ _ [.If _ _ [.If _ b _ _] _] _] => b | _ => []
noncomputable def after19 : List Stmt := match brk19 with | [_, _, _, _, .If _ _ b _] => b | _ => []
noncomputable def dash19 : List Stmt := match after19 with | _ :: .If _ _ b _ :: _ => b | _ => []
noncomputable def tail19 : List Stmt := after19.drop 2
noncomputable def chunkGo (pat : Str) (j : Int) : Nat → Int → Int → List Str → Option (Int × List Str)
  | 0, _, _, _ => none
  | f + 1, i, k, acc => if findB pat "-" k j < 0 then some (i, acc) else chunkGo pat j f (findB pat "-" k j + 1) (findB pat "-" k j + 3) (acc ++ [cutS pat (some i) (some (findB pat "-" k j))])
noncomputable def pairOk (all : List Str) (k : Int) : Bool := match all[(k - 1).toNat]?, all[k.toNat]? with
  | some u, some v => match (seqIndex? (-1) u.length).bind (u.cps[·]?), (seqIndex? 0 v.length).bind (v.cps[·]?) with
    | some x, some y => !decide ((#[y] : Array Nat).toList < (#[x] : Array Nat).toList)
    | _, _ => false
  | _, _ => false
structure DashOk (pat : Str) (i j : Int) (stuff : Str) (all : List Str) : Prop where
  lp : pat.length ≤ 1000
  i0 : -1000 ≤ i
  i1 : i ≤ 1000
  c0 : ∃ c : Nat, (seqIndex? i pat.length).bind (pat.cps[·]?) = some c ∧ (⟨#[c]⟩ : Str) ≠ "!"
  go : ∃ i' cs, chunkGo pat j 20 i (i + 1) [] = some (i', cs) ∧ cs.length ≤ 20 ∧ (cutS pat (some i') (some j)).length ≠ 0 ∧ all = cs ++ [cutS pat (some i') (some j)]
  pr : ∀ k : Nat, k < all.length - 1 → pairOk all ((all.length : Int) - 1 + (k : Int) * (-1)) = true
  jn : JoinOk "-" all = true
  st : Txt.join "-" all = stuff
  nb : ∀ c ∈ all, noOcc c "\\" = true
  nd : ∀ c ∈ all, noOcc c "-" = true
section
variable {w : World} {n : Nat}
theorem dash_part {t0 : Nat} {pat : Str} {r1 r2 r3 r4 rn rc rk r9 r10 r12 : SV} {i j : Int} {stuff : Str} {all : List Str} {μ : Mu} (h : DashOk pat i j stuff all) :
    Xs w (n + 1) (F19 t0) [.str pat, r1, r2, r3, r4, .int i, rn, rc, .int j, r9, r10, rk, r12] μ dash19 (fun o => ∃ i' r10 rk r12, o = .next [.str pat, r1, r2, r3, r4, .int i', rn, rc, .int j, .str stuff, r10, rk, r12] μ) := by
  obtain ⟨c, hc, hc1⟩ := h.c0
  obtain ⟨i', cs, hgo, hcl, hch, hall⟩ := h.go
  have hlp := h.lp
  have hi0 := h.i0
  have hi1 := h.i1
  refine Xs.cons (X1.newList (by rfl) (S19 (by decide +kernel)) fun b => ?_)
  simp only [List.set_cons_succ, List.set_cons_zero]
  refine Xs.cons (X1.assign (r := .int (i + 1)) (by rfl) (S19 (by decide +kernel)) (Em.of (Ev.ite (c := false) (Tr.eq (Tr.cmp (Ev.item (Ev.nm (by rfl) rfl) (Ev.nm (by rfl) rfl) (Is.str hc (by omega) (by omega))) Ev.str Ms.eqS) ?a1) (fun z => nomatch z) (fun _ => Ev.bin (Ev.nm (by rfl) rfl) Ev.int Bs.add))) ?_)
  case a1 => simpa using hc1
  simp only [List.set_cons_succ, List.set_cons_zero]
  refine Xs.cons (X1.mono (Φ := fun o => ∃ kk : Int, o = .next [.str pat, r1, r2, r3, r4, .int i', rn, rc, .int j, r9, .v (.ref b), .int kk, r12] ((b, dts (cs.map .str)) :: μ)) ?w1 ?w2)
  case w1 =>
    refine X1.while (fun f σ μ' => ∃ (i k : Int) (acc : List Str), chunkGo pat j f i k acc = some (i', cs) ∧ acc.length + f ≤ 20 ∧ σ = [.str pat, r1, r2, r3, r4, .int i, rn, rc, .int j, r9, .v (.ref b), .int k, r12] ∧ μ' = (b, dts (acc.map .str)) :: μ) 20 ⟨i, i + 1, [], hgo, by simp, rfl, rfl⟩ ?_
    rintro f σ μ' ⟨i, k, acc, hgo, hacc, rfl, rfl⟩
    refine ⟨true, Tm.of (Tr.plain Ev.bool Ts.bool), fun _ => ?_, fun z => nomatch z⟩
    cases f with
    | zero => cases hgo
    | succ f =>
      rw [chunkGo] at hgo
      refine Xs.cons (X1.assign (r := .int (findB pat "-" k j)) (by rfl) (S19 (by decide +kernel)) (Em.of (Ev.meth (rs := [.str "-", .int k, .int j]) PySem.F.plainAttrs_str PySem.F.slot_str_find PySem.F.type_str_find (Ev.nm (by rfl) rfl) .str (.cons Ev.str (.cons (Ev.nm (by rfl) rfl) (.cons (Ev.nm (by rfl) rfl) .nil))) Cs.find4)) ?_)
      simp only [List.set_cons_succ, List.set_cons_zero]
      by_cases hk : findB pat "-" k j < 0
      · rw [if_pos hk] at hgo
        cases hgo
        refine Xs.cons (X1.ite (c := true) (Tm.of (Tr.eq (Tr.cmp (Ev.nm (by rfl) rfl) Ev.int .ltI) (decide_eq_true hk))) (fun _ => ?_) (fun z => nomatch z))
        exact Xs.cons (X1.brk ⟨_, rfl⟩)
      · rw [if_neg hk] at hgo
        refine Xs.cons (X1.ite (c := false) (Tm.of (Tr.eq (Tr.cmp (Ev.nm (by rfl) rfl) Ev.int .ltI) (decide_eq_false hk))) (fun z => nomatch z) (fun _ => ?_))
        refine Xs.nil ?_
        refine Xs.cons (X1.append (j := 0) (by rfl) (by rfl) (Em.of (Ev.slice (Ev.nm (by rfl) rfl) (Pt.yes (Ev.nm (by rfl) rfl)) (Pt.yes (Ev.nm (by rfl) rfl)) (.str (by omega)))) ?_ ?_)
        · simp [dts]; omega
        refine Xs.cons (X1.assign (r := .int (findB pat "-" k j + 1)) (by rfl) (S19 (by decide +kernel)) (Em.of (Ev.bin (Ev.nm (by rfl) rfl) Ev.int Bs.add)) ?_)
        simp only [List.set_cons_succ, List.set_cons_zero]
        refine Xs.cons (X1.assign (r := .int (findB pat "-" k j + 3)) (by rfl) (S19 (by decide +kernel)) (Em.of (Ev.bin (Ev.nm (by rfl) rfl) Ev.int Bs.add)) ?_)
        simp only [List.set_cons_succ, List.set_cons_zero]
        refine Xs.nil ⟨f, Nat.lt_succ_self f, _, _, _, hgo, ?_, rfl, ?_⟩
        · simp; omega
        · simp [dts]
  rintro _ ⟨kk, rfl⟩
  refine Xs.cons (X1.assign (r := .str (cutS pat (some i') (some j))) (by rfl) (S19 (by decide +kernel)) (Em.of (Ev.slice (Ev.nm (by rfl) rfl) (Pt.yes (Ev.nm (by rfl) rfl)) (Pt.yes (Ev.nm (by rfl) rfl)) (.str (by omega)))) ?_)
  simp only [List.set_cons_succ, List.set_cons_zero]
  have hcl2 : (cutS pat (some i') (some j)).length ≤ 1000000 := by
    have : (cutS pat (some i') (some j)).length ≤ pat.length := by
      unfold cutS pickL PySem.Str.length
      simp only [List.size_toArray, List.length_take, List.length_drop, Array.length_toList]
      exact Nat.le_trans (Nat.min_le_right _ _) (Nat.sub_le _ _)
    omega
  refine Xs.cons (X1.ite (c := true) (Tm.of (Tr.eq (Tr.plain (Ev.nm (by rfl) rfl) (Ts.str hcl2)) ?b1)) (fun _ => ?_) (fun z => nomatch z))
  case b1 => simpa using hch
  refine Xs.cons (X1.append (j := 0) (by rfl) (by rfl) (Em.of (Ev.nm (by rfl) rfl)) ?_ ?_)
  · simp [dts]; omega
  refine Xs.nil ?_
  refine Xs.freeze 10 0 (a := b) (ds := all.map .str) (by rfl) (by rw [hall]; simp [dts]) ?_
  simp only [List.set_cons_succ, List.set_cons_zero, List.eraseIdx_cons_zero]
  have hal : all.length = cs.length + 1 := by rw [hall]; simp
  refine Xs.cons (X1.for (xs := rangeL ((all.length : Int) - 1) (-1) (all.length - 1)) ?f1 (fun k σ μ' => ∃ rk, σ = [.str pat, r1, r2, r3, r4, .int i', rn, rc, .int j, r9, .d (.list (all.map .str)), rk, .str (cutS pat (some i') (some j))] ∧ μ' = μ) ⟨_, rfl, rfl⟩ ?f2 ?f3)
  case f1 =>
    exact Ei.call (f := .type "range") (Ev.blt (L19 (by decide +kernel)) (by rfl) (by decide +kernel)) (.cons (Ev.bin (Ev.call (rs := [.list (all.map .str)]) (f := .builtin "len") (r := .int all.length) (Ev.blt (L19 (by decide +kernel)) (by rfl) (by decide +kernel)) (.cons (Ev.nm (by rfl) rfl) .nil) (by have := Cs.lenL (w := w) (n := n + 1) (l := all.map PyData.str) (by rw [List.length_map]; omega); rwa [List.length_map] at this) (Callee.builtin _)) Ev.int Bs.sub) (.cons Ev.int (.cons (Ev.neg Ev.int) .nil))) (Ci.rangeDown _ (Int.toNat_sub _ 1).symm (by omega) (by omega)) (Callee.type _)
  case f2 =>
    rintro k σ μ' d hd ⟨rk, rfl, rfl⟩
    have hkl : k < all.length - 1 := by
      rcases Nat.lt_or_ge k (all.length - 1) with z | z
      · exact z
      · rw [List.getElem?_eq_none (by rw [rangeL_len]; exact z)] at hd; cases hd
    have hd' : d = .int ((all.length : Int) - 1 + (k : Int) * (-1)) := by
      unfold rangeL at hd
      rw [List.getElem?_map, List.getElem?_range hkl] at hd
      cases hd; rfl
    subst hd'
    have hp := h.pr k hkl
    generalize hkv : (all.length : Int) - 1 + (k : Int) * (-1) = kv at hp ⊢
    have hk1 : 1 ≤ kv := by omega
    unfold pairOk at hp
    split at hp
    · rename_i u v hu hv
      split at hp
      · rename_i x y hx hy
        refine ⟨_, Tg.name (by rfl) (S19 (by decide +kernel)), ?_⟩
        simp only [List.set_cons_succ, List.set_cons_zero]
        refine Xs.cons (X1.ite (c := false) (Tm.of (Tr.eq (Tr.cmp (a := .str ⟨#[x]⟩) (b := .str ⟨#[y]⟩) (Ev.item (Ev.item (o := .list (all.map .str)) (r := .str u) (Ev.nm (by rfl) rfl) (Ev.bin (Ev.nm (by rfl) rfl) Ev.int Bs.sub) (Is.list (by omega) (by rw [List.getElem?_map, hu]; rfl) (by rw [List.length_map]; omega))) (Ev.neg Ev.int) (Is.str hx (by omega) (by omega))) (Ev.item (Ev.item (o := .list (all.map .str)) (r := .str v) (Ev.nm (by rfl) rfl) (Ev.nm (by rfl) rfl) (Is.list (by omega) (by rw [List.getElem?_map, hv]; rfl) (by rw [List.length_map]; omega))) Ev.int (Is.str hy (by omega) (by omega))) .gtS) (by simpa using hp))) (fun z => nomatch z) (fun _ => ?_))
        exact Xs.nil (Xs.nil ⟨_, rfl, rfl⟩)
      · cases hp
    · cases hp
  rintro σ μ' ⟨rk, rfl, rfl⟩
  refine Xs.cons (X1.assign (r := .str stuff) (by rfl) (S19 (by decide +kernel)) (Em.of (h.st ▸ Ev.joinGen (chs := all) (by rfl) (Ev.nm (by rfl) rfl) (by omega) (by rfl) (by decide +kernel) (by decide +kernel) (by rfl) (by rfl) (by rfl) ?g1 h.jn)) ?_)
  case g1 => exact elt_replace (elt_replace (elt_name (by rfl) (by rfl) (by rfl)) h.nb) h.nd
  exact Xs.nil ⟨_, _, _, _, rfl⟩
end
end
section
open PySem PySem.W PyProof.Rows PySem.Calls
set_option maxRecDepth 100000
set_option maxHeartbeats 1000000
structure StuffOk (stuff : Str) : Prop where
  nm : noMatch stuff
  s0 : 0 < stuff.length
  s1 : stuff.length ≤ 1000
  ne : stuff ≠ "!"
  c0 : ∃ c : Nat, (seqIndex? 0 stuff.length).bind (stuff.cps[·]?) = some c ∧ (⟨#[c]⟩ : Str) ≠ "!" ∧ ([("^" : Str), "["].any fun y => y == ⟨#[c]⟩) = false
section
variable {w : World} {n : Nat}
theorem tail_part {t0 : Nat} {pat stuff : Str} {r1 r2 r3 ri rn rc r10 r11 r12 : SV} {j : Int} {a : Addr} {rs : List SV} (h : StuffOk stuff) (hl : rs.length ≤ 1000000) :
    Xs w (n + 1) (F19 t0) [.str pat, r1, r2, r3, .bm "list.append" a, ri, rn, rc, .int j, .str stuff, r10, r11, r12] [(a, rs)] tail19 (fun o => o = .next [.str pat, r1, r2, r3, .bm "list.append" a, .int (j + 1), rn, rc, .int j, .str stuff, r10, r11, r12] [(a, rs ++ [.s ("[" ++ stuff ++ "]") t0])]) := by
  obtain ⟨c, hc, hc1, hc2⟩ := h.c0
  have h0 := h.s0
  have h1 := h.s1
  refine Xs.cons (X1.assign (r := .str stuff) (by rfl) (S19 (by decide +kernel)) (Em.of (Ev.twinSub (by rfl) (L19 (by decide +kernel)) (Ev.nm (by rfl) rfl) h.nm h.s0 h.s1 (by decide +kernel))) ?_)
  simp only [List.set_cons_succ, List.set_cons_zero]
  refine Xs.cons (X1.assign (r := .int (j + 1)) (by rfl) (S19 (by decide +kernel)) (Em.of (Ev.bin (Ev.nm (by rfl) rfl) Ev.int Bs.add)) ?_)
  simp only [List.set_cons_succ, List.set_cons_zero]
  refine Xs.cons (X1.ite (c := false) (Tm.of (Tr.eq (Tr.not (Tr.plain (Ev.nm (by rfl) rfl) (Ts.str (by omega)))) ?a1)) (fun z => nomatch z) (fun _ => ?_))
  case a1 =>
    have : ((stuff.length : Int) != 0) = true := by simp; omega
    rw [this]; rfl
  refine Xs.cons (X1.ite (c := false) (Tm.of (Tr.eq (Tr.cmp (Ev.nm (by rfl) rfl) Ev.str .eqS) ?a2)) (fun z => nomatch z) (fun _ => ?_))
  case a2 => simpa using h.ne
  refine Xs.cons (X1.ite (c := false) (Tm.of (Tr.eq (Tr.cmp (Ev.item (Ev.nm (by rfl) rfl) Ev.int (Is.str hc (by omega) (by omega))) Ev.str .eqS) ?a3)) (fun z => nomatch z) (fun _ => ?_))
  case a3 => simpa using hc1
  refine Xs.cons (X1.ite (c := false) (Tm.of (Tr.eq (Tr.cmp (Ev.item (Ev.nm (by rfl) rfl) Ev.int (Is.str hc (by omega) (by omega))) (Ev.tp (.cons Ev.str (.cons Ev.str .nil rfl) rfl)) (Ms.inTS (ys := ["^", "["]) (by decide))) hc2)) (fun z => nomatch z) (fun _ => ?_))
  refine Xs.nil (Xs.nil ?_)
  refine Xs.cons (X1.addE (a := a) (r := .s ("[" ++ stuff ++ "]") t0) 0 (by rfl) (by rfl) (Em.fstrS (Ev.nm (by rfl) rfl) (Nat.lt_succ_self t0) ?a4) hl ?_)
  case a4 =>
    have e1 : ("[" : Str).length = 1 := by decide
    have e2 : ("]" : Str).length = 1 := by decide
    omega
  exact Xs.nil (Xs.nil (Xs.nil rfl))
end
end
section
open PySem PySem.W PyProof.Rows PySem.Calls
set_option maxRecDepth 100000
set_option maxHeartbeats 1000000
noncomputable def at? (x : Str) (i : Int) : Option Nat := (seqIndex? i x.length).bind (x.cps[·]?)
structure BrkOk (pat : Str) (p : Nat) (stuff : Str) (j : Nat) : Prop where
  lp : pat.length ≤ 1000
  pj : p + 1 < j
  jn : j < pat.length
  c0 : ∃ c : Nat, at? pat ((p : Int) + 1) = some c ∧ (⟨#[c]⟩ : Str) ≠ "!" ∧ (⟨#[c]⟩ : Str) ≠ "]"
  sc : ∀ q : Nat, p + 1 ≤ q → q < j → ∃ c : Nat, at? pat q = some c ∧ (⟨#[c]⟩ : Str) ≠ "]"
  cl : at? pat j = some 93
  cut : cutS pat (some ((p : Int) + 1)) (some j) = stuff
  ds : ((Builtin.Str.occurrences stuff "-" 0 stuff.length 1).isEmpty = true ∧ noOcc stuff "\\" = true) ∨ ((Builtin.Str.occurrences stuff "-" 0 stuff.length 1).isEmpty = false ∧ ∃ all, DashOk pat ((p : Int) + 1) j stuff all)
  so : StuffOk stuff
section
variable {w : World} {n : Nat}
theorem brk_part {t0 : Nat} {pat stuff : Str} {r1 r2 r3 rc r8 r9 r10 r11 r12 : SV} {p j : Nat} {a : Addr} {rs : List SV} (h : BrkOk pat p stuff j) (hl : rs.length ≤ 1000000) :
    Xs w (n + 1) (F19 t0) [.str pat, r1, r2, r3, .bm "list.append" a, .int ((p : Int) + 1), .int pat.length, rc, r8, r9, r10, r11, r12] [(a, rs)] brk19 (fun o => ∃ r8 r9 r10 r11 r12, o = .next [.str pat, r1, r2, r3, .bm "list.append" a, .int ((j : Int) + 1), .int pat.length, rc, r8, r9, r10, r11, r12] [(a, rs ++ [.s ("[" ++ stuff ++ "]") t0])]) := by
  obtain ⟨c, hc, hc1, hc2⟩ := h.c0
  have hlp := h.lp
  have hpj := h.pj
  have hjn := h.jn
  refine Xs.cons (X1.assign (r := .int ((p : Int) + 1)) (by rfl) (S19 (by decide +kernel)) (Em.of (Ev.nm (by rfl) rfl)) ?_)
  simp only [List.set_cons_succ, List.set_cons_zero]
  refine Xs.cons (X1.ite (c := false) (Tm.of (Tr.eq (Tr.and (a := true) (b := false) (Tr.eq (Tr.cmp (Ev.nm (by rfl) rfl) (Ev.nm (by rfl) rfl) .ltI) (decide_eq_true (by omega))) (fun _ => Tr.and_f (Tr.eq (Tr.cmp (Ev.item (Ev.nm (by rfl) rfl) (Ev.nm (by rfl) rfl) (Is.str hc (by omega) (by omega))) Ev.str .eqS) ?a1))) rfl)) (fun z => nomatch z) (fun _ => ?_))
  case a1 => simpa using hc1
  refine Xs.nil ?_
  refine Xs.cons (X1.ite (c := false) (Tm.of (Tr.eq (Tr.and (a := true) (b := false) (Tr.eq (Tr.cmp (Ev.nm (by rfl) rfl) (Ev.nm (by rfl) rfl) .ltI) (decide_eq_true (by omega))) (fun _ => Tr.and_f (Tr.eq (Tr.cmp (Ev.item (Ev.nm (by rfl) rfl) (Ev.nm (by rfl) rfl) (Is.str hc (by omega) (by omega))) Ev.str .eqS) ?a2))) rfl)) (fun z => nomatch z) (fun _ => ?_))
  case a2 => simpa using hc2
  refine Xs.nil ?_
  refine Xs.cons (X1.mono (Φ := (· = .next [.str pat, r1, r2, r3, .bm "list.append" a, .int ((p : Int) + 1), .int pat.length, rc, .int j, r9, r10, r11, r12] [(a, rs)])) ?w1 ?w2)
  case w1 =>
    refine X1.while (fun k σ μ' => ∃ q : Nat, q + k = j ∧ p + 1 ≤ q ∧ σ = [.str pat, r1, r2, r3, .bm "list.append" a, .int ((p : Int) + 1), .int pat.length, rc, .int q, r9, r10, r11, r12] ∧ μ' = [(a, rs)]) (j - (p + 1)) ⟨p + 1, by omega, by omega, rfl, rfl⟩ ?_
    rintro k σ μ' ⟨q, hq, hp, rfl, rfl⟩
    cases k with
    | zero =>
      obtain rfl : q = j := by omega
      refine ⟨false, Tm.of (Tr.eq (Tr.and (a := true) (b := false) (Tr.eq (Tr.cmp (Ev.nm (by rfl) rfl) (Ev.nm (by rfl) rfl) .ltI) (decide_eq_true (by omega))) (fun _ => Tr.and_f (Tr.eq (Tr.cmp (Ev.item (Ev.nm (by rfl) rfl) (Ev.nm (by rfl) rfl) (Is.str h.cl (by omega) (by omega))) Ev.str .neS) ?b1))) rfl), (fun z => nomatch z), fun _ => rfl⟩
      decide
    | succ k =>
      obtain ⟨x, hx, hx1⟩ := h.sc q hp (by omega)
      refine ⟨true, Tm.of (Tr.eq (Tr.and (a := true) (b := true) (Tr.eq (Tr.cmp (Ev.nm (by rfl) rfl) (Ev.nm (by rfl) rfl) .ltI) (decide_eq_true (by omega))) (fun _ => Tr.eq (Tr.and (a := true) (b := true) (Tr.eq (Tr.cmp (Ev.item (Ev.nm (by rfl) rfl) (Ev.nm (by rfl) rfl) (Is.str hx (by omega) (by omega))) Ev.str .neS) ?b2) (fun _ => Tr.and_nil)) rfl)) rfl), fun _ => ?_, fun z => nomatch z⟩
      case b2 => simpa using hx1
      refine Xs.cons (X1.assign (r := .int ((q : Int) + 1)) (by rfl) (S19 (by decide +kernel)) (Em.of (Ev.bin (Ev.nm (by rfl) rfl) Ev.int Bs.add)) ?_)
      simp only [List.set_cons_succ, List.set_cons_zero]
      exact Xs.nil ⟨k, Nat.lt_succ_self k, q + 1, by omega, by omega, rfl, rfl⟩
  rintro _ rfl
  refine Xs.cons (X1.ite (c := false) (Tm.of (Tr.eq (Tr.cmp (Ev.nm (by rfl) rfl) (Ev.nm (by rfl) rfl) .geI) (decide_eq_false (by omega)))) (fun z => nomatch z) (fun _ => ?_))
  refine Xs.cons (X1.assign (r := .str stuff) (by rfl) (S19 (by decide +kernel)) (Em.of (h.cut ▸ Ev.slice (Ev.nm (by rfl) rfl) (Pt.yes (Ev.nm (by rfl) rfl)) (Pt.yes (Ev.nm (by rfl) rfl)) (.str (by omega)))) ?_)
  simp only [List.set_cons_succ, List.set_cons_zero]
  refine Xs.cons (X1.mono (Φ := fun o => ∃ ri r10 r11 r12, o = .next [.str pat, r1, r2, r3, .bm "list.append" a, ri, .int pat.length, rc, .int j, .str stuff, r10, r11, r12] [(a, rs)]) ?u1 ?u2)
  case u1 =>
    rcases h.ds with ⟨d1, d2⟩ | ⟨d1, all, d2⟩
    · refine X1.ite (c := true) (Tm.of (Tr.eq (Tr.cmp (a := .str "-") Ev.str (Ev.nm (by rfl) rfl) .notinS) (by rw [d1]; rfl))) (fun _ => ?_) (fun z => nomatch z)
      refine Xs.cons (X1.assign (r := .str stuff) (by rfl) (S19 (by decide +kernel)) (Em.of (Ev.meth (rs := [.str "\\", .str "\\\\"]) PySem.F.plainAttrs_str PySem.F.slot_str_replace PySem.F.type_str_replace (Ev.nm (by rfl) rfl) .str (.cons Ev.str (.cons Ev.str .nil)) (Cs.replaceNo d2))) ?_)
      exact Xs.nil ⟨_, _, _, _, rfl⟩
    · refine X1.ite (c := false) (Tm.of (Tr.eq (Tr.cmp (a := .str "-") Ev.str (Ev.nm (by rfl) rfl) .notinS) (by rw [d1]; rfl))) (fun z => nomatch z) (fun _ => ?_)
      refine Xs.mono (dash_part d2) ?_
      rintro _ ⟨i', r10, rk, r12, rfl⟩
      exact ⟨_, _, _, _, rfl⟩
  rintro _ ⟨ri, r10, r11, r12, rfl⟩
  refine Xs.mono (tail_part h.so hl) ?_
  rintro _ rfl
  exact Xs.nil ⟨_, _, _, _, _, rfl⟩
end
end
section
open PySem PySem.W PyProof.Rows PySem.Calls
set_option maxRecDepth 100000
set_option maxHeartbeats 1000000
inductive Tk where
  | sign (c : Nat)
  | brk (s : Str)
noncomputable def Tk.part : Tk → Str
  | .sign c => escS c
  | .brk s => "[" ++ s ++ "]"
noncomputable def TkAt (pat : Str) (p p' : Nat) : Tk → Prop
  | .sign c => c < 128 ∧ at? pat p = some c ∧ (⟨#[c]⟩ : Str) ≠ "*" ∧ (⟨#[c]⟩ : Str) ≠ "?" ∧ (⟨#[c]⟩ : Str) ≠ "[" ∧ p' = p + 1
  | .brk s => at? pat p = some 91 ∧ ∃ j, BrkOk pat p s j ∧ p' = j + 1
inductive PatAt (pat : Str) : Nat → List Tk → Prop
  | nil {p : Nat} : at? pat p = some 42 → p + 1 = pat.length → PatAt pat p []
  | cons {p p' : Nat} {tk : Tk} {tks : List Tk} : TkAt pat p p' tk → PatAt pat p' tks → PatAt pat p (tk :: tks)
theorem at?_lt {x : Str} {p c : Nat} (h : at? x p = some c) : p < x.length := by
  unfold at? seqIndex? at h
  rw [if_neg (by omega : ¬ ((p : Int) < 0))] at h
  rcases Nat.lt_or_ge p x.length with z | z
  · exact z
  · have e : (decide ((0 : Int) ≤ (p : Int)) && decide ((p : Int) < (x.length : Int))) = false := by simp; omega
    simp only [e] at h
    cases h
section
variable {w : World} {n : Nat}
noncomputable def tkS (t0 : Nat) (tks : List Tk) : List SV := tks.map fun k => SV.s k.part t0
theorem body19 {t0 : Nat} {star : Value} {pat : Str} {qm : SV} {tks : List Tk} (hs : StarOk star t0) (hp : PatAt pat 0 tks) (hl : tks.length ≤ 100) (hpl : pat.length ≤ 1000) (hx : ∀ k ∈ tks, k.part ≠ "*") :
    Xs w (n + 2) (F19 t0) [.str pat, .v star, qm, .u, .u, .u, .u, .u, .u, .u, .u, .u, .u] [] (fnBody 19) (FnEnd (.l (partsOf (tks.map Tk.part) t0 star))) := by
  refine Xs.cons (X1.newList (by rfl) (S19 (by decide +kernel)) (fun a => ?_))
  simp only [List.set_cons_succ, List.set_cons_zero]
  refine Xs.cons (X1.assign (r := .bm "list.append" a) (by rfl) (S19 (by decide +kernel)) (Em.append (j := 0) (by rfl) (by rfl)) ?_)
  simp only [List.set_cons_succ, List.set_cons_zero]
  refine Xs.cons (X1.swap2 (a := .int 0) (b := .int pat.length) (by rfl) (S19 (by decide +kernel)) (by rfl) (S19 (by decide +kernel)) (Em.of (Ev.tp (.cons .int (.cons (Ev.call (rs := [.str pat]) (f := .builtin "len") (Ev.blt (L19 (by decide +kernel)) (by rfl) (by decide +kernel)) (.cons (Ev.nm (by rfl) rfl) .nil) (Cs.lenS (by omega)) (Callee.builtin _)) .nil rfl) rfl))) ?a2 ?a3)
  case a3 =>
    intro env I
    have e1 : env.kindOf "i" = some .local := by rw [I.kind]; exact L19 (by decide +kernel)
    have e2 : env.kindOf "n" = some .local := by rw [I.kind]; exact L19 (by decide +kernel)
    have e3 := I.block
    unfold swappedStores
    simp [e1, e2, e3, List.filterMap_cons, pos_name]
    rw [if_pos (by decide +kernel), if_neg (by decide +kernel), if_neg (by decide +kernel)]
  simp only [List.set_cons_succ, List.set_cons_zero]
  refine Xs.cons (X1.mono (Φ := fun o => ∃ r7 r8 r9 r10 r11 r12, o = .next [.str pat, .v star, qm, .v (.ref a), .bm "list.append" a, .int pat.length, .int pat.length, r7, r8, r9, r10, r11, r12] [(a, partsOf (tks.map Tk.part) t0 star)]) ?w1 ?w2)
  case w1 =>
    refine X1.while (fun k σ μ' => (∃ p done todo r7 r8 r9 r10 r11 r12, PatAt pat p todo ∧ tks = done ++ todo ∧ k = todo.length + 1 ∧ σ = [.str pat, .v star, qm, .v (.ref a), .bm "list.append" a, .int (p : Int), .int pat.length, r7, r8, r9, r10, r11, r12] ∧ μ' = [(a, tkS t0 done)]) ∨
      (∃ r7 r8 r9 r10 r11 r12, k = 0 ∧ σ = [.str pat, .v star, qm, .v (.ref a), .bm "list.append" a, .int pat.length, .int pat.length, r7, r8, r9, r10, r11, r12] ∧ μ' = [(a, partsOf (tks.map Tk.part) t0 star)])) (tks.length + 1) (.inl ⟨0, [], tks, _, _, _, _, _, _, hp, rfl, rfl, rfl, rfl⟩) ?_
    rintro k σ μ' (⟨p, done, todo, r7, r8, r9, r10, r11, r12, hat, htk, rfl, rfl, rfl⟩ | ⟨r7, r8, r9, r10, r11, r12, rfl, rfl, rfl⟩)
    · have hdl : done.length ≤ 100 := by
        have := congrArg List.length htk
        rw [List.length_append] at this
        omega
      have first : ∀ {c : Nat}, at? pat p = some c → ∀ {Φ : Out → Prop}, (∀ r8 r9 r10 r11 r12, Xs w (n + 2) (F19 t0) [.str pat, .v star, qm, .v (.ref a), .bm "list.append" a, .int ((p : Int) + 1), .int pat.length, .str ⟨#[c]⟩, r8, r9, r10, r11, r12] [(a, tkS t0 done)] (while19.drop 2) Φ) →
          Xs w (n + 2) (F19 t0) [.str pat, .v star, qm, .v (.ref a), .bm "list.append" a, .int (p : Int), .int pat.length, r7, r8, r9, r10, r11, r12] [(a, tkS t0 done)] while19 Φ := fun {c} hc {Φ} h => by
        have hlt := at?_lt hc
        refine Xs.cons (X1.assign (r := .str ⟨#[c]⟩) (by rfl) (S19 (by decide +kernel)) (Em.of (Ev.item (Ev.nm (by rfl) rfl) (Ev.nm (by rfl) rfl) (Is.str hc (by omega) (by omega)))) ?_)
        simp only [List.set_cons_succ, List.set_cons_zero]
        refine Xs.cons (X1.assign (r := .int ((p : Int) + 1)) (by rfl) (S19 (by decide +kernel)) (Em.of (Ev.bin (Ev.nm (by rfl) rfl) Ev.int Bs.add)) ?_)
        simp only [List.set_cons_succ, List.set_cons_zero]
        exact h _ _ _ _ _
      cases hat with
      | nil hc he =>
        have hlt := at?_lt hc
        refine ⟨true, Tm.of (Tr.eq (Tr.cmp (Ev.nm (by rfl) rfl) (Ev.nm (by rfl) rfl) .ltI) (decide_eq_true (by omega))), fun _ => first hc fun r8 r9 r10 r11 r12 => ?_, fun z => nomatch z⟩
        obtain rfl : done = tks := by rw [htk, List.append_nil]
        refine Xs.cons (X1.ite (c := true) (Tm.of (Tr.eq (Tr.cmp (Ev.nm (by rfl) rfl) Ev.str .eqS) (by decide))) (fun _ => ?_) (fun z => nomatch z))
        refine Xs.cons (X1.ite (c := true) (Tm.seeL 3 0 (a := a) (by rfl) (by rfl) (Tm.of ?t)) (fun _ => ?_) (fun z => nomatch z))
        case t =>
          simp only [List.set_cons_succ, List.set_cons_zero]
          have hlS : (tkS t0 done).length = done.length := by simp [tkS]
          rcases List.eq_nil_or_concat done with hd | ⟨d0, k, hd⟩
          · subst hd
            exact Tr.eq (Tr.or (a := true) (b := true) (Tr.eq (Tr.not (Tr.plain (Ev.nm (by rfl) rfl) (Ts.l (by simp [tkS])))) rfl) (fun z => nomatch z)) rfl
          · have hk := hx k (by rw [hd]; simp)
            have hlast : (tkS t0 done)[((-1 : Int) + (tkS t0 done).length).toNat]? = some (.s k.part t0) := by
              rw [hlS, hd]
              simp [tkS]
              rw [show (-1 + ((d0.length : Int) + 1)).toNat = d0.length by omega]
              simp
            have hpos : 0 < done.length := by rw [hd]; simp
            refine Tr.eq (Tr.or (a := false) (b := true) (Tr.eq (Tr.not (Tr.plain (r := true) (Ev.nm (by rfl) rfl) ?tt)) rfl) (fun _ => Tr.eq (Tr.or (a := true) (b := true) (Tr.cmp (Ev.item (Ev.nm (by rfl) rfl) (Ev.neg Ev.int) (Is.lNeg (by decide) (by rw [hlS]; omega) hlast (by rw [hlS]; omega))) (Ev.nm (by rfl) rfl) (Ms.isNotS hs hk)) (fun z => nomatch z)) rfl)) rfl
            have := Ts.l (w := w) (n := n + 2) (rs := tkS t0 done) (by rw [hlS]; omega)
            have e : (!(tkS t0 done).isEmpty) = true := by
              rw [hd]; simp [tkS]
            rwa [e] at this
        refine Xs.cons (X1.addE (a := a) (r := .v star) 0 (by rfl) (by rfl) (Em.of (Ev.nm (by rfl) rfl)) (by simp [tkS]; omega) ?_)
        exact Xs.nil (Xs.nil (Xs.nil ⟨0, Nat.succ_pos _, .inr ⟨_, _, _, _, _, _, rfl, by rw [← he]; rfl, by simp [tkS, partsOf]⟩⟩))
      | @cons _ p' tk todo htk' hat' =>
        cases tk with
        | sign c =>
          obtain ⟨h1, hc, h2, h3, h4, rfl⟩ := htk'
          have hlt := at?_lt hc
          refine ⟨true, Tm.of (Tr.eq (Tr.cmp (Ev.nm (by rfl) rfl) (Ev.nm (by rfl) rfl) .ltI) (decide_eq_true (by omega))), fun _ => first hc fun r8 r9 r10 r11 r12 => ?_, fun z => nomatch z⟩
          have e1 : ((⟨#[c]⟩ : Str) == "*") = false := by simpa using h2
          have e2 : ((⟨#[c]⟩ : Str) == "?") = false := by simpa using h3
          have e3 : ((⟨#[c]⟩ : Str) == "[") = false := by simpa using h4
          refine Xs.cons (X1.ite (c := false) (Tm.of (Tr.eq (Tr.cmp (Ev.nm (by rfl) rfl) Ev.str .eqS) e1)) (fun z => nomatch z) (fun _ => ?_))
          refine Xs.cons (X1.ite (c := false) (Tm.of (Tr.eq (Tr.cmp (Ev.nm (by rfl) rfl) Ev.str .eqS) e2)) (fun z => nomatch z) (fun _ => ?_))
          refine Xs.cons (X1.ite (c := false) (Tm.of (Tr.eq (Tr.cmp (Ev.nm (by rfl) rfl) Ev.str .eqS) e3)) (fun z => nomatch z) (fun _ => ?_))
          refine Xs.cons (X1.addE (a := a) (r := .s (escS c) t0) 0 (by rfl) (by rfl) (Em.callF (rs := [.str ⟨#[c]⟩]) (Ev.glob (v := .ref 106) (L19 (by decide +kernel)) (by rfl) (by decide +kernel)) (.cons (Ev.nm (by rfl) rfl) .nil) (ck17 h1) (Callee.fn (i := 17) (by decide +kernel)) (Nat.le_refl _)) (by simp [tkS]; omega) ?_)
          exact Xs.nil (Xs.nil (Xs.nil (Xs.nil ⟨todo.length + 1, by simp, .inl ⟨p + 1, done ++ [.sign c], todo, _, _, _, _, _, _, hat', by simp [htk], rfl, rfl, by simp [tkS, Tk.part]⟩⟩)))
        | brk s =>
          obtain ⟨hc, j, hb, rfl⟩ := htk'
          have hlt := at?_lt hc
          refine ⟨true, Tm.of (Tr.eq (Tr.cmp (Ev.nm (by rfl) rfl) (Ev.nm (by rfl) rfl) .ltI) (decide_eq_true (by omega))), fun _ => first hc fun r8 r9 r10 r11 r12 => ?_, fun z => nomatch z⟩
          refine Xs.cons (X1.ite (c := false) (Tm.of (Tr.eq (Tr.cmp (Ev.nm (by rfl) rfl) Ev.str .eqS) (by decide))) (fun z => nomatch z) (fun _ => ?_))
          refine Xs.cons (X1.ite (c := false) (Tm.of (Tr.eq (Tr.cmp (Ev.nm (by rfl) rfl) Ev.str .eqS) (by decide))) (fun z => nomatch z) (fun _ => ?_))
          refine Xs.cons (X1.ite (c := true) (Tm.of (Tr.eq (Tr.cmp (Ev.nm (by rfl) rfl) Ev.str .eqS) (by decide))) (fun _ => ?_) (fun z => nomatch z))
          refine Xs.mono (brk_part hb (by simp [tkS]; omega)) ?_
          rintro _ ⟨r8, r9, r10, r11, r12, rfl⟩
          exact Xs.nil (Xs.nil (Xs.nil ⟨todo.length + 1, by simp, .inl ⟨j + 1, done ++ [.brk s], todo, _, _, _, _, _, _, hat', by simp [htk], rfl, rfl, by simp [tkS, Tk.part]⟩⟩))
    · exact ⟨false, Tm.of (Tr.eq (Tr.cmp (Ev.nm (by rfl) rfl) (Ev.nm (by rfl) rfl) .ltI) (decide_eq_false (by omega))), (fun z => nomatch z), fun _ => ⟨_, _, _, _, _, _, rfl⟩⟩
  rintro _ ⟨r7, r8, r9, r10, r11, r12, rfl⟩
  refine Xs.cons (X1.assert (Tm.of (Tr.eq (Tr.cmp (Ev.nm (by rfl) rfl) (Ev.nm (by rfl) rfl) .eqI) (by simp))) ?_)
  refine Xs.freezeL 3 0 (a := a) (by rfl) (by rfl) ?_
  simp only [List.set_cons_succ, List.set_cons_zero]
  exact Xs.cons (X1.ret (Em.of (Ev.nm (by rfl) rfl)) rfl)
end
end
section
open PySem PySem.W PyProof.Rows PySem.Calls
set_option maxRecDepth 100000
set_option maxHeartbeats 1000000
theorem made_object : Bind.madeBy (.type "object") = pure (some "object.__new__") := madeBy_type (c := .type "object") (tl := []) (by rw [mroOf_type]; kernel_rfl) (by rw [typeLookup_type, builtinLookup_eq_fast]; kernel_rfl) (by decide +kernel)
theorem called_object : TypeCalled "object" "object.__new__" "object.__init__" :=
  ⟨by decide, by decide +kernel, ⟨.type "object", [], by rw [mroOf_type]; kernel_rfl⟩, made_object, by decide +kernel, by rw [isSubtype_type]; kernel_rfl, PySem.F.slot_object_init⟩
theorem typeCall_object : checkTypeCall "object" ⟨[], []⟩ = pure () := by kernel_rfl
theorem newCall_object : checkBuiltinCall "object.__new__" ⟨[.type "object"], []⟩ = pure () := by kernel_rfl
theorem madeHere_object : Bind.madeHere "object.__new__" (.type "object") = pure () := by
  unfold Bind.madeHere
  have e : Bind.staticBase (.type "object") = pure (.type "object") := by first | rfl | kernel_rfl
  rw [e]
  simp only [pure_bind, made_object]
  first | rfl | kernel_rfl | (simp; rfl)
theorem meets_object_new : Meets (Builtin.«object.__new__» ⟨[.type "object"], []⟩) (fun _ R s => R (.ok (.ret (.ref s.heap.objs.size))) { s with heap := s.heap.push { cls := .type "object", data := .plain } }) :=
  .of_wp fun prog w A R s h => by
    have hmh := madeHere_object
    unfold Builtin.«object.__new__»
    refine wpAny_bind (wpAny_pure ?_)
    rw [if_neg (by decide)]
    refine wpAny_ite ?_
    rw [if_neg (by decide +kernel)]
    refine wpAny_bind (wpAny_of_eq hmh ?_)
    rw [if_neg (by decide)]
    show wpAny _ _ (if typeHasDict (Value.type "object") = true then _ else (do
      let d ← pure none
      let v ← newObj (Value.type "object") Data.plain d
      have __do_jp : Unit → Sem PySem.Fin := fun __r => ret v
      if diesByItsTypesDel "object" = true then
          match v with
          | Value.ref a => do
            let __r ← register a
            __do_jp __r
          | x => __do_jp ()
        else __do_jp ())) _ _ _
    rw [if_neg (by decide +kernel)]
    refine wpAny_bind (wpAny_pure (wpAny_bind (wpAny_newObj_type ?_ (by size_fits))))
    dsimp only
    rw [if_neg (by decide +kernel)]
    exact wpAny_pure ⟨_, rfl, h⟩
section
variable {w : World} {A : Around} {E : Value → Shared → Prop} {s : Shared}
theorem call_object {Q : Value → Shared → Prop} (h : Q (.ref s.heap.objs.size) { s with heap := s.heap.push { cls := .type "object", data := .plain } }) : wpAny (model prog w) A (call (.type "object") []) Q E s :=
  callType_meets (Q₁ := fun v s' => v = .ref s.heap.objs.size ∧ s' = { s with heap := s.heap.push { cls := .type "object", data := .plain } }) called_object typeCall_object newCall_object PySem.F.entry_object_new PySem.F.entry_object_init meets_object_new ⟨rfl, rfl⟩ fun obj s₁ hq => by
    obtain ⟨rfl, rfl⟩ := hq
    exact ⟨⟨_, Heap.get?_push_size _ rfl, rfl⟩, PySem.F.args_object_init_1 _, _, Meets.of_wp (S := fun _ R s => R (.ok (.ret .none)) s) fun prog w A R s hs => wpAny_pure ⟨_, rfl, hs⟩, ⟨rfl, h⟩⟩
end
end
section
open PySem PySem.W PyProof.Rows PySem.Calls
set_option maxRecDepth 100000
set_option maxHeartbeats 1000000
theorem def19 {t0 : Nat} : ∀ h, Wd h → DefAt (F19 t0) 113 ["pat", "STAR", "QUESTION_MARK"] (fnBody 19) h 3 [] fun vs _ => vs := fun h W => by
  obtain ⟨g, Bs, kk⟩ := W.base
  obtain ⟨o, pm, doc, e, d, c⟩ := Bs.fn19
  refine ⟨o, _, (kk _ _ e).2.2, d, c.keeps fun p o e => (kk p o e).2.2, rfl, rfl, rfl, rfl, rfl, (fun a e => by cases e; rfl), fun s vs kvs _ hv hk => ?_⟩
  cases kvs with
  | cons _ _ => cases hk
  | nil =>
    refine .of_eq ?_
    obtain ⟨a, b, c, rfl⟩ := len3 hv
    with_unfolding_all rfl
theorem callee19 : Callee (.ref 113) := .inr (.inr ⟨113, rfl, fun h W => by
  obtain ⟨g, Bs, kk⟩ := W.base
  obtain ⟨o, pm, doc, e, d, c⟩ := Bs.fn19
  exact ⟨o, _, (kk _ _ e).2.2, d⟩⟩)
section
variable {w : World} {n : Nat} {F : Fd} {σ : List SV} {μ : Mu} {Φ : Out → Prop}
theorem ck19 {t0 : Nat} {star : Value} {pat : Str} {qm : SV} {tks : List Tk} (hs : StarOk star t0) (hp : PatAt pat 0 tks) (hl : tks.length ≤ 100) (hpl : pat.length ≤ 1000) (hx : ∀ k ∈ tks, k.part ≠ "*") :
    Ckf (t0 + 1) w (n + 3) (.ref 113) [.str pat, .v star, qm] [] [] (.l (partsOf (tks.map Tk.part) t0 star)) :=
  Ckf.def (F := F19 t0) (k := 3) (P := ["pat", "STAR", "QUESTION_MARK"]) (fill := fun vs _ => vs) def19 rfl rfl rfl rfl rfl F19_ok F19_plain (fun _ _ _ x _ => x) (body19 hs hp hl hpl hx)
theorem Ckf.cs {f : Value} {args : List SV} {r : SV} (h : Ckf 1 w n f args [] [] r) : Cs w n f args r := .mk fun A s G vs Q E Ro B W k hr q => h.run A s G vs [] Q E B.pos Ro B W k hr trivial q
theorem X1.assignObj {i : Nat} {x : Str} {p p' p1 pos : Pos} (hx : ixOf x F.vars = some i) (hk : storable x F.vars F.kinds = true) (ho : F.sc.names.lookup ("object" : Str) = some .globalImplicit) (hΦ : ∀ a, Φ (.next (σ.set i (.v (.ref a))) μ))
    (hs : ∀ env : Env, EnvIs F env → swapsWith (.Call (.Name "object" p1) [] [] p') (some (.Name x p)) pos.line env = pure false := by intro _ _; rfl) : X1 w n F σ μ (.Assign [.Name x p] (.Call (.Name "object" p1) [] [] p') pos) Φ := .mk fun s₀ G₀ env A s G Q E I Fr Ro T O q => by
  refine wpAny_Assign_Name ?_ (hs env I)
  have ha : eval (.Call (.Name "object" p1) [] [] p') env = (do callWith p' (← eval (.Name "object" p1) env) [] (backTo p' (starEach [] env)) (backToKw p' (keywordEach [] env))) := rfl
  rw [ha]
  refine wpAny_bind ((Ev.blt ho (v := .type "object") (by rfl) (by decide)).run env A s G _ _ I Ro T.grow.bare T.rel fun v s1 G1 g1 e1 => ?_)
  cases e1
  refine callWith_of_args (Callee.type _) rfl (evalArgs_nil3 ⟨g1.wd, ?_⟩)
  refine call_object ?_
  have g2 := Grow.push0 g1.bare g1.wd g1.sub { cls := .type "object", data := .plain } s1.toks
  have g := g1.trans g2
  refine (T.step g).storeN I Fr (O.grow g) hx hk (r := .v (.ref s1.heap.objs.size)) rfl fun s3 T3 O3 f3 => q (.next _ _) _ _ (hΦ _) ⟨rfl, _, T3, O3, (Frm.grow g).trans (f3 _)⟩
end
end
section
open PySem PySem.W PyProof.Rows PySem.Calls
set_option maxRecDepth 100000
set_option maxHeartbeats 1000000
structure PatOk (pat : Str) (tks : List Tk) : Prop where
  at0 : PatAt pat 0 tks
  tl : tks.length ≤ 100
  pl : pat.length ≤ 1000
  px : ∀ x ∈ tks.map Tk.part, x ≠ "*" ∧ x.length ≤ 1000
  pj : (Txt.join "" (tks.map Tk.part ++ [(".*" : Str)])).length ≤ 500000
section
variable {w : World} {n : Nat}
theorem PatOk.ck19 {pat : Str} {tks : List Tk} (h : PatOk pat tks) {t0 : Nat} {star : Value} {qm : SV} (hs : StarOk star t0) : Ckf (t0 + 1) w (n + 3) (.ref 113) [.str pat, .v star, qm] [] [] (.l (partsOf (tks.map Tk.part) t0 star)) :=
  Mine.ck19 hs h.at0 h.tl h.pl fun k hk => (h.px _ (List.mem_map_of_mem hk)).1
theorem PatOk.cs20 {pat : Str} {tks : List Tk} (h : PatOk pat tks) {t0 : Nat} {star : Value} (hs : StarOk star t0) : Cs w (n + 2) (.ref 120) [.l (partsOf (tks.map Tk.part) t0 star), .v star] (.str (joinS (tks.map Tk.part))) :=
  Mine.cs20 hs (by rw [List.length_map]; exact h.tl) h.px h.pj
theorem body14 {pat : Str} {tks : List Tk} (h : PatOk pat tks) : Xs w (n + 3) (fdF 14 ["pat", "STAR", "parts"] 1) [.str pat, .u, .u] [] (fnBody 14) (FnEnd (.str (joinS (tks.map Tk.part)))) := by
  refine Xs.cons (X1.assignObj (by rfl) (by dsimp only [fdF]; decide +kernel) (by dsimp only [fdF]; decide +kernel) fun a => ?_)
  simp only [List.set_cons_succ, List.set_cons_zero]
  refine Xs.cons (X1.assign (r := .l (partsOf (tks.map Tk.part) 0 (.ref a))) (by rfl) (by dsimp only [fdF]; decide +kernel) (Em.callF (rs := [.str pat, .v (.ref a), .str "."]) (Ev.glob (v := .ref 113) (by dsimp only [fdF]; decide +kernel) (by rfl) (by decide +kernel)) (.cons (Ev.nm (by rfl) rfl) (.cons (Ev.nm (by rfl) rfl) (.cons Ev.str .nil))) (h.ck19 (.inr ⟨a, rfl⟩)) callee19 (Nat.le_refl _)) ?_)
  simp only [List.set_cons_succ, List.set_cons_zero]
  exact Xs.cons (X1.ret (Em.of (Ev.call (rs := [.l (partsOf (tks.map Tk.part) 0 (.ref a)), .v (.ref a)]) (f := .ref 120) (Ev.glob (by dsimp only [fdF]; decide +kernel) (by rfl) (by decide +kernel)) (.cons (Ev.nm (by rfl) rfl) (.cons (Ev.nm (by rfl) rfl) .nil)) (h.cs20 (.inr ⟨a, rfl⟩)) (Callee.fn (i := 20) (by decide +kernel)))) rfl)
theorem F14_ok {fl : Nat} : (fdF 14 ["pat", "STAR", "parts"] fl).ok = true := by
  show (fdOf 14 ["pat", "STAR", "parts"]).ok = true
  decide +kernel
theorem F14_plain {fl : Nat} : (fdF 14 ["pat", "STAR", "parts"] fl).plain 1 = true := by
  show (fdOf 14 ["pat", "STAR", "parts"]).plain 1 = true
  decide +kernel
theorem cs14 {pat : Str} {tks : List Tk} (h : PatOk pat tks) : Cs w (n + 4) (.ref 94) [.str pat] (.str (joinS (tks.map Tk.part))) :=
  Ckf.cs (Ckf.def (F := fdF 14 ["pat", "STAR", "parts"] 1) (k := 1) (P := ["pat"]) (fill := fun vs _ => vs) (FnAt.def (i := 14) (P := ["pat"]) (by decide) rfl (fun pm cd doc vs hv => by
    obtain ⟨a, rfl⟩ := len1 hv
    with_unfolding_all rfl)) rfl rfl rfl rfl rfl F14_ok F14_plain (fun _ _ _ x _ => x) (body14 h))
end
end
section
open PySem PySem.W PyProof.Rows PySem.Calls
set_option maxRecDepth 100000
set_option maxHeartbeats 1000000
section
variable {w : World} {n : Nat} {F : Fd} {σ : List SV} {μ : Mu} {Φ : Out → Prop}
theorem Ev.vd {e : Expr} {x : Str} {t : Tok} (h : Ev w n F σ e (.v (.str x t))) : Ev w n F σ e (.str x) := .mk fun env A s G Q E I Ro B R q =>
  h.run env A s G Q E I Ro B R fun v s' G' g r => q v s' G' g (r.asD rfl)
theorem Xs.starCall {i j : Nat} {x y z : Str} {p p1 p' cpos pos pos' : Pos} {k : Nat} {fe e : Expr} {es : List Expr} {rs : Nat → List SV} {r : Nat → SV} {f : Value} {rest : List Stmt} (hx : ixOf x F.vars = some i) (hk : storable x F.vars F.kinds = true) (hy : ixOf y F.vars = some j) (hk2 : storable y F.vars F.kinds = true)
    (h1 : ∀ t0, Ev w n F (σ.set i (.v (.str z t0))) fe (.v f)) (h2 : ∀ t0, Es w n F (σ.set i (.v (.str z t0))) (e :: es) (rs t0)) (h3 : ∀ t0, 0 < t0 → Ckf (t0 + 1) w n f (rs t0) [] [] (r t0)) (hf : Callee f)
    (hΦ : ∀ t0, 0 < t0 → Xs w n F ((σ.set i (.v (.str z t0))).set j (r t0)) μ rest Φ) (h0 : ((e :: es).all notStar) = true := by rfl)
    (ha : ∀ env, eval (.Call fe (e :: es) [] cpos) env = (do callWith cpos (← eval fe env) [] (backTo cpos (starEach (e :: es) env)) (backToKw cpos (keywordEach [] env))) := by intro _; rfl)
    (hs : ∀ env : Env, EnvIs F env → swapsWith (.Call fe (e :: es) [] cpos) (some (.Name y p')) pos'.line env = pure false := by intro _ _; rfl) :
    Xs w n F σ μ (.Assign [.Name x p] (.Constant (.str z) k p1) pos :: .Assign [.Name y p'] (.Call fe (e :: es) [] cpos) pos' :: rest) Φ := .mk fun s₀ G₀ env A s G Q E I Fr Ro T O q => by
  have hpos : 0 < s.toks := T.grow.bare.pos
  have gt := Grow.tok (s := s) T.grow.bare T.rel.wd T.rel.sub (s.toks + 1)
  refine wpAny_execs_cons (wpAny_Assign_Name (Constant_str ?_) rfl)
  refine wpAny_toks ((T.step gt).storeN I Fr (O.grow gt) hx hk (r := .v (.str z s.toks)) rfl fun s1 T1 O1 f1 htk => ?_)
  have htk : s.toks + 1 ≤ s1.toks := htk
  refine wpAny_execs_cons (wpAny_Assign_Name ?_ (hs env I))
  rw [ha]
  refine wpAny_bind ((h1 s.toks).run env A s1 G _ _ I Ro T1.grow.bare T1.rel fun v s2 G2 g2 e1 => ?_)
  cases e1
  have T2 := T1.step g2
  refine callWith_of_args hf (starEach_any h0) (evalArgs_es h0 ((h2 s.toks).run env A s2 G2 cpos _ _ I Ro g2.bare T2.rel fun vs s3 G3 g3 r3 => ⟨g3.wd, ?_⟩))
  have hfl : s.toks + 1 ≤ s3.toks := Nat.le_trans htk (Nat.le_trans g2.toks g3.toks)
  refine (h3 s.toks hpos).run A s3 G3 vs [] _ E hfl Ro g3.bare g3.wd g3.sub r3 trivial fun v s4 G4 g4 r4 => ?_
  have g := g2.trans (g3.trans g4)
  refine (T1.step g).storeN I Fr (O1.grow g) hy hk2 r4 fun s5 T5 O5 f5 => ?_
  exact (hΦ s.toks hpos).run s₀ G₀ env A s5 G4 Q E I Fr Ro T5 O5 fun o fl s' a b => q o fl s' a (b.trans ((Frm.grow gt).trans ((f1 _).trans ((Frm.grow g).trans (f5 _)))))
end
end
section
open PySem PySem.W PyProof.Rows PySem.Calls
set_option maxRecDepth 100000
set_option maxHeartbeats 1000000
noncomputable def F27 : Fd := fdOf 27 ["pattern", "names", "star", "parts", "whole", "sets"]
theorem F27_ok : F27.ok = true := by decide +kernel
theorem F27_plain : F27.plain 2 = true := by decide +kernel
theorem clip1 (d k : Nat) : clipN (some (-1)) d (k + 1) = k := by
  show (max 0 (min (if (-1 : Int) < 0 then (-1 : Int) + ((k + 1 : Nat) : Int) else -1) ((k + 1 : Nat) : Int))).toNat = k
  rw [if_pos (by decide), show (-1 : Int) + ((k + 1 : Nat) : Int) = (k : Int) by omega, Int.min_eq_left (by omega), Int.max_eq_right (Int.natCast_nonneg _)]
  rfl
theorem pickL_init {α : Type} (l : List α) (a : α) : pickL (l ++ [a]) Option.none (some (-1)) = l := by
  unfold pickL
  rw [show (l ++ [a]).length = l.length + 1 by simp, clip1]
  show ((l ++ [a]).drop 0).take (l.length - 0) = l
  rw [List.drop_zero, Nat.sub_zero, List.take_append_of_le_length (Nat.le_refl _), List.take_length]
theorem pickL_last {α : Type} (l : List α) (a : α) : pickL (l ++ [a]) (some (-1)) Option.none = [a] := by
  unfold pickL
  rw [show (l ++ [a]).length = l.length + 1 by simp, clip1]
  show ((l ++ [a]).drop l.length).take (l.length + 1 - l.length) = [a]
  rw [List.drop_append_of_le_length (Nat.le_refl _), List.drop_length, show l.length + 1 - l.length = 1 by omega]
  rfl
theorem join0_snoc (a : Str) : ∀ l : List Str, Str.join "" (l ++ [a]) = Str.join "" l ++ a
  | [] => (PySem.Str.empty_append a).symm
  | [x] => by
    show x ++ Str.empty ++ a = x ++ a
    rw [PySem.Str.append_empty]
  | x :: y :: r => by
    show x ++ Str.empty ++ Str.join "" (y :: r ++ [a]) = (x ++ Str.empty ++ Str.join "" (y :: r)) ++ a
    rw [join0_snoc a (y :: r), PySem.Str.append_empty, PySem.Str.append_assoc]
theorem joinS_eq (xs : List Str) : joinS xs = ("(?s:" ++ Txt.join "" xs) ++ ".*)\\Z" := by
  unfold joinS
  have tj : ∀ l, Txt.join "" l = Str.join "" l := PySem.StrLaws.glued_eq_join ""
  have e : Txt.join "" (xs ++ [(".*" : Str)]) = Txt.join "" xs ++ ".*" := by rw [tj, tj]; exact join0_snoc ".*" xs
  rw [e, ← PySem.Str.append_assoc, PySem.Str.append_assoc, show ((".*" : Str) ++ ")\\Z") = ".*)\\Z" by decide]
noncomputable def setFn (x : Str) : Str := (setGo 100 (setIn x) "").getD "?"
noncomputable def SetOk (x : Str) : Prop := 0 < x.length ∧ (setGo 100 (setIn x) "").isSome = true
noncomputable def notin (x y : Str) : Bool := !(!(Builtin.Str.occurrences y x 0 y.length 1).isEmpty)
noncomputable def badL (sets : List Str) (nm : Str) : List Nat := (List.range sets.length).filter fun k => notin (chS nm k) (sets.getD k "")
noncomputable def takenP (sets : List Str) (nm : Str) : Bool := decide (sets.length ≤ nm.length) && (badL sets nm).isEmpty
section
variable {w : World} {n : Nat}
theorem cs26f {x : Str} (h : SetOk x) (h1 : x.length ≤ 1000) : Cs w (n + 2) (.ref 147) [.str x] (.str (setFn x)) := by
  refine cs26 h.1 h1 (f := 100) ?_
  unfold setFn
  cases hg : setGo 100 (setIn x) "" with
  | none => have := h.2; rw [hg] at this; cases this
  | some y => rfl
theorem body27 {pat : Str} {tks : List Tk} {names : List Str} (h : PatOk pat tks) (hset : ∀ x ∈ tks.map Tk.part, SetOk x) (hj : (Txt.join "" (tks.map Tk.part)).length ≤ 100000) (hn : names.length ≤ 1000) (hnl : ∀ x ∈ names, x.length ≤ 1000) (hok : (PyData.str (joinS (tks.map Tk.part))).canLay0 = true) :
    Xs w (n + 4) F27 [.str pat, .list (names.map .str), .u, .u, .u, .u] [] (fnBody 27) (FnEnd (.list ((names.filter (takenP ((tks.map Tk.part).map setFn))).map .str))) := by
  refine Xs.starCall (i := 2) (j := 3) (rs := fun t0 => [.str pat, .v (.str "*" t0), .str "."]) (r := fun t0 => .l (partsOf (tks.map Tk.part) t0 (.str "*" t0))) (f := .ref 113) (by rfl) (by decide +kernel) (by rfl) (by decide +kernel) (fun t0 => Ev.glob (by decide +kernel) (by rfl) (by decide +kernel)) (fun t0 => .cons (Ev.nm (by rfl) rfl) (.cons (Ev.nm (by rfl) rfl) (.cons Ev.str .nil))) (fun t0 hp => h.ck19 (.inl ⟨rfl, hp⟩)) callee19 (fun t0 hp => ?_)
  simp only [List.set_cons_succ, List.set_cons_zero]
  have hasd : asDs (partsOf (tks.map Tk.part) t0 (.str "*" t0)) = some (((tks.map Tk.part) ++ [("*" : Str)]).map .str) := by
    rw [List.map_append]; exact asDs_append (asDs_s _) rfl
  generalize hxs : tks.map Tk.part = xs at *
  have hxl : xs.length ≤ 100 := by rw [← hxs, List.length_map]; exact h.tl
  have hpx := h.px
  rw [hxs] at hpx
  have hinit : pickL ((xs ++ [("*" : Str)]).map PyData.str) Option.none (some (-1)) = xs.map .str := by rw [List.map_append]; exact pickL_init _ _
  have hlast : pickL ((xs ++ [("*" : Str)]).map PyData.str) (some (-1)) Option.none = [.str "*"] := by rw [List.map_append]; exact pickL_last _ _
  have evInit : ∀ {σ : List SV} {a b d e f : Pos} {c : Nat}, lookSV "parts" F27.vars F27.kinds σ = some (.l (partsOf xs t0 (.str "*" t0))) → Ev w (n + 4) F27 σ (.Subscript (.Name "parts" a) (.Slice Option.none (some (.UnaryOp .USub (.Constant (.int 1) c b) d)) Option.none e) f) (.list (xs.map .str)) :=
    fun hl => hinit ▸ Ev.slice (Ev.listD (Ev.nm hl rfl) hasd) Pt.no (Pt.yes (Ev.neg Ev.int)) (.list (by simp; omega))
  have evLast : ∀ {σ : List SV} {a b d e f : Pos} {c : Nat}, lookSV "parts" F27.vars F27.kinds σ = some (.l (partsOf xs t0 (.str "*" t0))) → Ev w (n + 4) F27 σ (.Subscript (.Name "parts" a) (.Slice (some (.UnaryOp .USub (.Constant (.int 1) c b) d)) Option.none Option.none e) f) (.list [.str "*"]) :=
    fun hl => hlast ▸ Ev.slice (Ev.listD (Ev.nm hl rfl) hasd) (Pt.yes (Ev.neg Ev.int)) Pt.no (.list (by simp; omega))
  have e1 : ("(?s:" : Str).length = 4 := by decide
  have e2 : (".*)\\Z" : Str).length = 5 := by decide
  have e0 : ("" : Str).length = 0 := by decide
  have hsum := sum_le xs fun x h => (hpx x h).2
  have hcat : ("(?s:" ++ Txt.join "" xs : Str).length ≤ 100004 := by rw [PySem.Str.length_append]; omega
  refine Xs.cons (X1.assign (r := .str (joinS xs)) (by rfl) (by decide +kernel) (Em.of (joinS_eq xs ▸ Ev.bin (Ev.bin Ev.str (Ev.meth (rs := [.list (xs.map .str)]) PySem.F.plainAttrs_str PySem.F.slot_str_join PySem.F.type_str_join Ev.str .str (.cons (evInit (by rfl)) .nil) (Cs.join (by rw [e0]; omega))) (Bs.cat (by omega))) Ev.str (Bs.cat (by omega)))) ?_)
  simp only [List.set_cons_succ, List.set_cons_zero]
  refine Xs.cons (X1.ite (c := false) (Tm.of (Tr.eq (Tr.or (a := false) (b := false) (Tr.eq (Tr.cmp (evLast (by rfl)) (Ev.ls (.cons (Ev.vd (Ev.nm (by rfl) rfl)) .nil rfl)) (.neD (by decide +kernel) (by decide +kernel) (by decide +kernel))) (by decide +kernel)) (fun _ => Tr.eq (Tr.or (a := false) (b := false) (Tr.eq (Tr.cmp (Ev.ls (.cons (d := .str (joinS xs)) ?t1 (.cons (d := .str (joinS xs)) ?t2 .nil rfl) rfl)) (Ev.ls (.cons (Ev.nm (by rfl) rfl) (.cons (Ev.nm (by rfl) rfl) .nil rfl) rfl)) (.neD ?t3 ?t3b ?t4)) ?t5) (fun _ => Tr.or_nil)) rfl)) rfl)) (fun z => nomatch z) (fun _ => ?_))
  case t1 => exact Ev.call (rs := [.str pat]) (f := .ref 94) (Ev.glob (by decide +kernel) (by rfl) (by decide +kernel)) (.cons (Ev.nm (by rfl) rfl) .nil) (hxs ▸ cs14 h) (Callee.fn (i := 14) (by decide +kernel))
  case t2 => exact Ev.call (rs := [.l (partsOf xs t0 (.str "*" t0)), .v (.str "*" t0)]) (f := .ref 120) (Ev.glob (by decide +kernel) (by rfl) (by decide +kernel)) (.cons (Ev.nm (by rfl) rfl) (.cons (Ev.nm (by rfl) rfl) .nil)) (hxs ▸ h.cs20 (.inl ⟨rfl, hp⟩)) (Callee.fn (i := 20) (by decide +kernel))
  case t3 => rw [PyData.canLay0, PyData.canLayAll0, PyData.canLayAll0, PyData.canLayAll0, hok]; rfl
  case t3b => rw [PyData.canLay0, PyData.canLayAll0, PyData.canLayAll0, PyData.canLayAll0, hok]; rfl
  case t4 => exact Nat.le_of_ble_eq_true rfl
  case t5 => simp [PyData.eqv, PyData.eqvAll]
  refine Xs.nil ?_
  refine Xs.cons (X1.assign (r := .list ((xs.map setFn).map .str)) (by rfl) (by decide +kernel) (Em.of (Ev.comp (Lc.of [] (xs.map .str) (fun _ => true) (fun d => match d with | .str x => .str (setFn x) | _ => .none) (by rfl) (by decide +kernel) (Nat.le_refl _) ?a1 (by simp; omega) ?a2 ?a3 ?a4))) ?a5 (swaps_cell (by decide +kernel)))
  case a1 => exact Ei.list (evInit (by rfl))
  case a2 => exact fun d hd => Ifs.nil
  case a3 =>
    intro d hd _
    obtain ⟨x, hx, rfl⟩ := List.mem_map.mp hd
    exact Ev.call (rs := [.str x]) (f := .ref 147) (Ev.glob (by decide +kernel) (by rfl) (by decide +kernel)) (.cons (Ev.nm (by rfl) rfl) .nil) (cs26f (hset x hx) (hpx x hx).2) (Callee.fn (i := 26) (by decide +kernel))
  case a4 => rw [List.filter_eq_self.mpr (fun _ _ => rfl), List.map_map, List.map_map]; rfl
  case a5 =>
    simp only [List.set_cons_succ, List.set_cons_zero]
    refine Xs.cons (X1.ret (Em.of (Ev.comp (Lc.of [.list ((xs.map setFn).map .str)] (names.map .str) (fun d => match d with | .str x => takenP (xs.map setFn) x | _ => false) id (by rfl) (by decide +kernel) (Nat.le_refl _) (Ei.list (Ev.nm (by rfl) rfl)) (by simp; omega) ?b1 ?b2 ?b3))) rfl)
    case b3 =>
      rw [List.filter_map, List.map_id]; rfl
    case b2 =>
      intro d hd _
      exact Ev.nm (by rfl) rfl
    case b1 =>
      intro d hd
      obtain ⟨x, hx, rfl⟩ := List.mem_map.mp hd
      have hxl1 := hnl x hx
      show Ifs _ _ _ _ _ (takenP (xs.map setFn) x)
      unfold takenP
      generalize hse : xs.map setFn = sets
      have hsl : sets.length ≤ 100 := by rw [← hse, List.length_map]; exact hxl
      refine .one (Tr.eq (Tr.and (a := decide (sets.length ≤ x.length)) (b := (badL sets x).isEmpty) (Tr.eq (Tr.cmp (Ev.call (rs := [.str x]) (f := .builtin "len") (r := .int x.length) (Ev.blt (by decide +kernel) (by rfl) (by decide +kernel)) (.cons (Ev.nm (by rfl) rfl) .nil) (Cs.lenS (by omega)) (Callee.builtin _)) (Ev.call (rs := [.list (sets.map .str)]) (f := .builtin "len") (r := .int sets.length) (Ev.blt (by decide +kernel) (by rfl) (by decide +kernel)) (.cons (Ev.nm (by rfl) rfl) .nil) ?c1 (Callee.builtin _)) .geI) ?c2) (fun hge => Tr.eq (Tr.and (a := (badL sets x).isEmpty) (b := true) (Tr.eq (Tr.cmp (Ev.comp (out := (badL sets x).map fun (k : Nat) => PyData.int (k : Int)) (Lc.of [.str x, .list (sets.map .str)] (rangeL 0 1 sets.length) (fun d => match d with | .int k => notin (chS x k.toNat) (sets.getD k.toNat "") | _ => false) id (by rfl) (by decide +kernel) (Nat.le_refl _) ?d1 (by rw [rangeL_len]; omega) ?d2 ?d3 ?d4)) (Ev.ls .nil) (.eqD ?c3 (by rfl) ?c4)) ?c5) (fun _ => Tr.and_nil)) (Bool.and_true _))) rfl)
      case c1 =>
        have := Cs.lenL (w := w) (n := n + 4) (l := sets.map PyData.str) (by rw [List.length_map]; omega)
        rwa [List.length_map] at this
      case c2 => simp
      case d1 => exact Ei.call (rs := [.int sets.length]) (f := .type "range") (Ev.blt (by decide +kernel) (by rfl) (by decide +kernel)) (.cons (Ev.call (rs := [.list (sets.map .str)]) (f := .builtin "len") (r := .int sets.length) (Ev.blt (by decide +kernel) (by rfl) (by decide +kernel)) (.cons (Ev.nm (by rfl) rfl) .nil) (by
        have := Cs.lenL (w := w) (n := n + 4) (l := sets.map PyData.str) (by rw [List.length_map]; omega)
        rwa [List.length_map] at this) (Callee.builtin _)) .nil) (Ci.range1 _ (by omega) (by omega) (by omega)) (Callee.type _)
      case d4 =>
        unfold badL rangeL
        rw [List.map_id, List.filter_map]
        have e : (List.range sets.length).filter ((fun d : PyData => match d with | .int k => notin (chS x k.toNat) (sets.getD k.toNat "") | _ => false) ∘ fun i : Nat => PyData.int (0 + (i : Int) * 1)) = (List.range sets.length).filter fun k => notin (chS x k) (sets.getD k "") :=
          List.filter_congr fun i _ => by
            show notin (chS x (0 + (i : Int) * 1).toNat) (sets.getD (0 + (i : Int) * 1).toNat "") = _
            rw [show (0 + (i : Int) * 1).toNat = i by omega]
        rw [e]
        exact List.map_congr_left fun i _ => by rw [show (0 + (i : Int) * 1) = (i : Int) by omega]
      case d3 =>
        intro d hd _
        exact Ev.nm (by rfl) rfl
      case d2 =>
        intro d hd
        obtain ⟨k, hk, rfl⟩ := List.mem_map.mp hd
        have hk := List.mem_range.mp hk
        have hkx : k < x.length := Nat.lt_of_lt_of_le hk (of_decide_eq_true hge)
        rw [show (0 + (k : Int) * 1) = k by omega]
        show Ifs _ _ _ _ _ (notin (chS x k) (sets.getD k ""))
        obtain ⟨y, hy⟩ : ∃ y, sets[k]? = some y := ⟨_, List.getElem?_eq_getElem hk⟩
        have hgd : sets.getD k "" = y := by rw [List.getD_eq_getElem?_getD, hy]; rfl
        rw [hgd]
        exact .one (Tr.cmp (Ev.item (Ev.nm (by rfl) rfl) (Ev.nm (by rfl) rfl) (is_at hkx hxl1)) (Ev.item (r := .str y) (Ev.nm (by rfl) rfl) (Ev.nm (by rfl) rfl) (Is.list (by omega) (by simp [hy]) (by simp; omega))) .notinS)
      case c5 => cases badL sets x <;> rfl
      case c3 =>
        rw [show PyData.list ((badL sets x).map fun (k : Nat) => PyData.int (k : Int)) = oct ((badL sets x).map fun (k : Nat) => (k : Int)) by unfold oct; rw [List.map_map]; rfl]
        exact lay_oct _
      case c4 =>
        rw [show PyData.list ((badL sets x).map fun (k : Nat) => PyData.int (k : Int)) = oct ((badL sets x).map fun (k : Nat) => (k : Int)) by unfold oct; rw [List.map_map]; rfl, depth_oct]
        decide
theorem cs27 {pat : Str} {tks : List Tk} {names : List Str} (h : PatOk pat tks) (hset : ∀ x ∈ tks.map Tk.part, SetOk x) (hj : (Txt.join "" (tks.map Tk.part)).length ≤ 100000) (hn : names.length ≤ 1000) (hnl : ∀ x ∈ names, x.length ≤ 1000) (hok : (PyData.str (joinS (tks.map Tk.part))).canLay0 = true) :
    Cs w (n + 5) (.ref 152) [.str pat, .list (names.map .str)] (.list ((names.filter (takenP ((tks.map Tk.part).map setFn))).map .str)) :=
  Cs.def (F := F27) (k := 2) (FnAt.def (i := 27) (P := ["pattern", "names"]) (by decide) rfl (fun pm cd doc vs hv => by
    obtain ⟨a, b, rfl⟩ := len2 hv
    with_unfolding_all rfl)) rfl rfl rfl F27_ok F27_plain (body27 h hset hj hn hnl hok)
end
end
section
open PySem PySem.W PyProof.Rows PySem.Calls
set_option maxRecDepth 100000
set_option maxHeartbeats 1000000
/-- a call that stands on another: the base, the two frames, what the caller has (up to its slots) -/
structure Cx where
  s₀ : Shared
  G₀ : GH
  env : Env
  le : Env
  hL : Heap
  K : List Addr
  GL : GH
structure Cx.Ok (c : Cx) (F : Fd) : Prop where
  I : EnvIs F c.env
  Fr : Fresh c.s₀ c.env
  nc : c.env.cells = []
  ef : c.env.frame = some c.env.locals
  lf : c.le.frame = some c.le.locals
  lk : c.le.scope.kind ≠ .module
  w0 : Wd c.s₀.heap
  ln : c.s₀.heap.objs.size ≤ c.le.locals
  lm : c.le.locals ∈ c.K
  kk : ∀ b ∈ c.K, b ≠ c.env.locals ∧ b ≠ TB ∧ ∃ o, c.hL.get? b = some o ∧ ((∃ es ep, o.data = .dict es ep) ∨ ∃ v, o.data = .cell v)
structure At (c : Cx) (F : Fd) (σ : List SV) (μ : Mu) (s : Shared) (G : GH) : Prop where
  st : St c.s₀ c.G₀ F σ c.env s G
  ow : Own c.s₀ c.env s.heap G μ
  kp : ∀ b ∈ c.K, G b = none ∧ ∃ o sl, c.hL.get? b = some o ∧ s.heap.get? b = some { o with slots := sl }
  le : c.GL.Le G
theorem notSeq {o : Obj} (h : (∃ es ep, o.data = .dict es ep) ∨ ∃ v, o.data = .cell v) {xs : Array Value} {n : Nat} : o.data ≠ .seq xs n := fun e => by
  rcases h with ⟨es, ep, h⟩ | ⟨v, h⟩ <;> rw [h] at e <;> cases e
theorem notFields {o : Obj} (h : (∃ es ep, o.data = .dict es ep) ∨ ∃ v, o.data = .cell v) {vs : Array Value} : o.data ≠ .fields vs := fun e => by
  rcases h with ⟨es, ep, h⟩ | ⟨v, h⟩ <;> rw [h] at e <;> cases e
section
variable {c : Cx} {F : Fd} {σ : List SV} {μ : Mu} {s : Shared} {G : GH}
theorem At.notOwn (a : At c F σ μ s G) (k : c.Ok F) {b : Addr} (hb : b ∈ c.K) : b ∉ μ.ad := fun hm => by
  obtain ⟨p, hp, rfl⟩ := List.mem_map.mp hm
  obtain ⟨ys, ⟨n, e⟩, _⟩ := (a.ow.at_ p hp).pl
  obtain ⟨_, o, sl, e1, e2⟩ := a.kp _ hb
  obtain ⟨_, _, o', e1', hk⟩ := k.kk _ hb
  rw [e1] at e1'; cases e1'
  rw [e] at e2
  have := congrArg (fun x : Option Obj => x.map (·.data)) e2
  simp only [Option.map_some, Option.some.injEq] at this
  exact notSeq hk this.symm
theorem At.frm {σ' : List SV} {μ' : Mu} {s' : Shared} {G' : GH} (a : At c F σ μ s G) (k : c.Ok F) (T : St c.s₀ c.G₀ F σ' c.env s' G') (O : Own c.s₀ c.env s'.heap G' μ') (f : Frm c.env μ.ad s G μ'.ad s' G') : At c F σ' μ' s' G' := by
  refine ⟨T, O, fun b hb => ?_, a.le.trans f.le⟩
  obtain ⟨h1, o, sl, e1, e2⟩ := a.kp b hb
  obtain ⟨z1, z2, _⟩ := k.kk b hb
  have hno := a.notOwn k hb
  exact ⟨f.gn b h1 hno (by rw [e2]; exact fun q => nomatch q), o, sl, e1, f.keep b _ z2 z1 (fun p hp => by rw [k.nc] at hp; cases hp) hno e2⟩
/-- the two frames' objects may take slots, some records may change: all else stands -/
theorem At.move (a : At c F σ μ s G) (k : c.Ok F) {h' : Heap} {t : Nat} (X : List Addr) (hX : ∀ b ∈ X, c.s₀.heap.get? b = none ∧ G b = none ∧ ∀ o, s.heap.get? b = some o → ∃ vs, o.data = .fields vs)
    (h1 : ∀ b o, b ≠ c.env.locals → b ≠ c.le.locals → b ∉ X → s.heap.get? b = some o → h'.get? b = some o) (h2 : ∀ b o, b = c.env.locals ∨ b = c.le.locals → s.heap.get? b = some o → ∃ sl, h'.get? b = some { o with slots := sl }) (hs : s.heap.objs.size ≤ h'.objs.size) (ht : s.toks ≤ t) :
    At c F σ μ { s with heap := h', toks := t } G := by
  have hT := a.st
  have hEn : c.s₀.heap.objs.size ≤ c.env.locals := k.Fr.L
  have old : ∀ b o, c.s₀.heap.get? b = some o → b ≠ c.env.locals ∧ b ≠ c.le.locals ∧ b ∉ X := fun b o e =>
    ⟨Nat.ne_of_lt (Nat.lt_of_lt_of_le (Heap.lt_size e) hEn), Nat.ne_of_lt (Nat.lt_of_lt_of_le (Heap.lt_size e) k.ln), fun q => by rw [(hX b q).1] at e; cases e⟩
  have data : ∀ b o, s.heap.get? b = some o → b ∉ X → ∃ sl, h'.get? b = some { o with slots := sl } := fun b o e q => by
    by_cases z1 : b = c.env.locals
    · exact h2 b o (.inl z1) e
    · by_cases z2 : b = c.le.locals
      · exact h2 b o (.inr z2) e
      · exact ⟨o.slots, h1 b o z1 z2 q e⟩
  have keepS : Keep c.s₀.heap h' := fun b o nb e => h1 b o (old b o e).1 (old b o e).2.1 (old b o e).2.2 (hT.grow.keep b o nb e)
  have tbOk : ∃ vs, h'.get? TB = some { cls := .none, data := .fields vs } ∧ TriplesOk vs.toList := by
    obtain ⟨tv, te, tx⟩ := hT.grow.wd.tab
    obtain ⟨_, te0, _⟩ := k.w0.tab
    obtain ⟨z1, z2, z3⟩ := old _ _ te0
    exact ⟨tv, h1 _ _ z1 z2 z3 te, tx⟩
  have W' : Wd h' := by
    refine ⟨Nat.le_trans hT.grow.wd.size hs, tbOk, ?_⟩
    obtain ⟨g0, B0, kk0⟩ := k.w0.base
    exact ⟨g0, B0, fun p o e => ⟨(kk0 p o e).1, (kk0 p o e).2.1, keepS p o (kk0 p o e).2.1 (kk0 p o e).2.2⟩⟩
  have hGle : G c.le.locals = none := (a.kp _ k.lm).1
  have sub' : G.In h' := fun b o e => by
    refine h1 b o (fun q => ?_) (fun q => ?_) (fun q => ?_) (hT.grow.sub b o e)
    · subst q; rw [hT.pL] at e; cases e
    · subst q; rw [hGle] at e; cases e
    · rw [(hX b q).2.1] at e; cases e
  have g' : Grow c.s₀ c.G₀ { s with heap := h', toks := t } G := ⟨hT.grow.os, hT.grow.bare.up ht, keepS, W', sub', hT.grow.le, hT.grow.new, Nat.le_trans hT.grow.size hs, Nat.le_trans hT.grow.toks ht⟩
  obtain ⟨m, N, S⟩ := hT.rel.slots
  have N' : h'.Ns c.env.locals m := by
    obtain ⟨o, es, ep, e, d, r⟩ := N
    obtain ⟨sl, e'⟩ := h2 _ _ (.inl rfl) e
    exact ⟨_, es, ep, e', d, r⟩
  refine ⟨⟨g', ⟨W', sub', m, N', Slots.keepC (fun p hp => by rw [k.nc] at hp; cases hp) S⟩, hT.fl, hT.pL, fun p hp => by rw [k.nc] at hp; cases hp⟩, ⟨a.ow.nd, fun p hp => ?_⟩, fun b hb => ?_, a.le⟩
  · obtain ⟨z1, z2, z3, ⟨ys, ⟨n, z4⟩, z5⟩, z6, z7⟩ := a.ow.at_ p hp
    refine ⟨z1, z2, z3, ⟨ys, ⟨n, h1 _ _ (Ne.symm z6) (fun q => ?_) (fun q => ?_) z4⟩, z5⟩, z6, z7⟩
    · exact a.notOwn k k.lm (q ▸ List.mem_map_of_mem (f := (·.1)) hp)
    · obtain ⟨vs, hv⟩ := (hX _ q).2.2 _ z4
      cases hv
  · obtain ⟨z1, o, sl, e1, e2⟩ := a.kp b hb
    obtain ⟨y1, y2, o', e1', hk⟩ := k.kk b hb
    rw [e1] at e1'; cases e1'
    have hbX : b ∉ X := fun q => by
      obtain ⟨vs, hv⟩ := (hX _ q).2.2 _ e2
      exact notFields hk hv
    obtain ⟨sl', e'⟩ := data b _ e2 hbX
    exact ⟨z1, o, sl', e1, e'⟩
end
end
section
open PySem PySem.W PyProof.Rows PySem.Calls
set_option maxRecDepth 100000
set_option maxHeartbeats 1000000
theorem entry_unchain : entryFor table "proto.unchain" = some Builtin.«proto.unchain» := entryFor_of_tree (by kernel_rfl)
structure NewX (h h' : Heap) (e : Addr) (cls : String) (cn : Prop) : Prop where
  keeps : ∀ b o, h.get? b = some o → h'.get? b = some o
  new : h.get? e = none
  there : ∃ ob t c, h'.get? e = some ob ∧ ob.cls = .type cls ∧ ob.data = .fields #[t, .none, c, .none, .bool false, .none] ∧ (cn → c = .none)
  size : h.objs.size ≤ h'.objs.size
/-- what is being handled where something is raised: nothing, or what has no context -/
noncomputable def HdOk (A : Around) (h : Heap) : Prop := A.handled = none ∨ ∃ e oe vs, A.handled = some (.ref e) ∧ h.get? e = some oe ∧ oe.data = .fields vs ∧ vs[2]? = some .none
section
variable {P : Program} {w : World} {A : Around} {E : Value → Shared → Prop} {s : Shared}
/-- a plain exception is made, with its one argument -/
theorem made_words {cls msg : String} {Q : Value → Shared → Prop} (hp : PlainExc cls) (t : Tok)
    (h : ∀ h' e, (∀ b o, s.heap.get? b = some o → h'.get? b = some o) → s.heap.get? e = none → s.heap.objs.size ≤ h'.objs.size →
      (∃ a, h'.get? e = some { cls := .type cls, data := .fields #[.ref a, .none, .none, .none, .bool false, .none] }) → Q (.ref e) { s with heap := h' }) : wpAny (model P w) A (newExc (.type cls) [.str msg t]) Q E s := by
  have first : ∀ a : List Value, firstArgMember (.type cls) a = pure Value.none := fun a => by simp only [firstArgMember, hp.first]; rfl
  unfold newExc newTuple
  refine wpAny_bind (wpAny_newObj_type ?_)
  rw [first, hp.own]
  refine wpAny_bind (wpAny_pure (wpAny_newObj_type ?_))
  refine h _ _ (fun b o e => ?_) (Heap.get?_none_of_le ?_) ?_ ⟨_, Heap.get?_push_size _ rfl⟩
  · exact Heap.get?_push_of_some _ (Heap.get?_push_of_some _ e)
  · exact Nat.le_trans (Nat.le_succ _) (Nat.le_of_eq (Heap.size_push ..).symm)
  · exact Nat.le_trans (Nat.le_trans (Nat.le_succ _) (Nat.le_of_eq (Heap.size_push ..).symm)) (Nat.le_trans (Nat.le_succ _) (Nat.le_of_eq (Heap.size_push ..).symm))
theorem raise_words {α : Type} {cls msg : String} {Q : α → Shared → Prop} (hp : PlainExc cls) (hh : HdOk A s.heap)
    (h : ∀ h' tk e, NewX s.heap h' e cls (A.handled = none) → s.toks ≤ tk → E (.ref e) { s with heap := h', toks := tk }) : wpAny (model P w) A (raiseErrorWords cls msg : Sem α) Q E s := by
  unfold raiseErrorWords
  refine wpAny_bind (wpAny_toks (wpAny_mkText (fun hle => wpAny_bind (made_words (s := { s with toks := s.toks + 1 }) hp _ fun h1 e keeps new size ⟨a, there⟩ => ?_))))
  refine wpAny_bind (m := handled) (wpAny_handled ?_)
  rcases hh with none | ⟨e1, oe, vs, one, he, hd, h2⟩
  · rw [none]
    exact wpAny_throw (h _ _ _ ⟨keeps, new, ⟨_, _, _, there, rfl, rfl, fun _ => rfl⟩, size⟩ (Nat.le_succ _))
  · have other : e1 ≠ e := fun q => by subst q; rw [show s.heap.get? e1 = _ from new] at he; cases he
    have yes : (Value.ref e1 != Value.ref e) = true := bne_iff_ne.mpr fun q => other (by cases q; rfl)
    rw [one]
    dsimp only
    refine wpAny_ite ?_
    rw [if_pos yes]
    refine wpAny_bind (wpAny_holding (wpAny_runValue (codeAny_builtin entry_unchain ?_)))
    unfold Builtin.«proto.unchain»
    refine wpAny_bind (wpAny_field (keeps _ _ he) hd h2 ?_)
    rw [if_pos (by decide)]
    refine wpAny_pure (wpAny_bind ?_)
    show wpAny _ _ (setField (.ref e) 2 (.ref e1)) _ _ _
    have up := Heap.get?_update_self (Obj.mapFields (·.setIfInBounds 2 (Value.ref e1))) there rfl
    refine wpAny_setField there rfl (by show 2 < 6; decide) (wpAny_throw (h _ _ _ ⟨fun b o q => Heap.get?_update_of_ne _ (fun z => ?_) (keeps b o q), new, ⟨_, _, _, up, rfl, rfl, fun q => ?_⟩, Nat.le_trans size (Nat.le_of_eq (Heap.size_update ..).symm)⟩ (Nat.le_succ _)))
    · rw [← z, show s.heap.get? e = _ from new] at q; cases q
    · rw [one] at q; cases q
/-- an index behind a list's end -/
theorem getItem_out {l : Addr} {items : Array Value} {k : Int} {t : Tok} {Q : Value → Shared → Prop} (hA : HdOk A s.heap) (hl : s.heap.IsList l items)
    (hout : (items.size : Int) ≤ k) (hhi : k < 2 ^ 63)
    (hE : ∀ h' tk e, NewX s.heap h' e "IndexError" (A.handled = none) → s.toks ≤ tk → E (.ref e) { s with heap := h', toks := tk }) :
    wpAny (model P w) A (getItem (.ref l) (.int k t)) Q E s := by
  have fit := fitsIndex_both (k := k) (by omega) hhi
  have isL := hl.typeIs
  obtain ⟨j, kj⟩ : ∃ j : Nat, k = Int.ofNat j := ⟨k.toNat, (Int.toNat_of_nonneg (Int.le_trans (Int.natCast_nonneg _) hout)).symm⟩
  have past : items[j]? = none := Array.getElem?_eq_none (Int.ofNat_le.mp (by rw [kj] at hout; exact hout))
  obtain ⟨o, ho, _, _, hd⟩ := hl
  have stop : ∀ {α : Type} {msg : String} {R : α → Shared → Prop}, wpAny (model P w) A.in1 (raiseErrorWords "IndexError" msg : Sem α) R E s := raise_words plainExc_IndexError hA hE
  unfold getItem
  refine wpAny_holding (wpAny_bind (wpAny_sequenceKey isL (by decide) ?_))
  refine wpAny_bind (wpAny_callSpecial?_slot (name := Str.ofString "__getitem__") isL slot_list_getitem (wpAny_call_entry slot_list_getitem isL entry_list_getitem ?_ (args_list_getitem _ _)))
  show wpAny _ _ (Builtin.List.listSubscript? (.int k t) >>= _) _ _ s
  refine wpAny_bind (wpAny_listSubscript_int fit ?_)
  clear fit hhi hout
  subst kj
  refine wpAny_bind ?_
  show wpAny _ _ (seqItemAt l j >>= _) _ _ s
  refine wpAny_bind (wpAny_seqItemAt ho hd (wpAny_pure ?_))
  rw [past]
  exact wpAny_bind (wpAny_rule (wpAny_bind stop))
end
end
section
open PySem PySem.W PyProof.Rows PySem.Calls
set_option maxRecDepth 100000
set_option maxHeartbeats 1000000
/-- an exception object: its class, whether it has a context, its traceback (none yet, or with that flight) -/
noncomputable def tbIs (c : Cx) (h : Heap) (G : GH) (e : Addr) (vs : Array Value) : Option Value → Prop
  | none => vs[1]? = some .none
  | some fl => ∃ T oT ts, vs[1]? = some (.ref T) ∧ T ≠ e ∧ c.s₀.heap.get? T = none ∧ G T = none ∧ h.get? T = some oT ∧ oT.data = .fields ts ∧ ts[3]? = some fl
structure XA (c : Cx) (X : String) (cn : Bool) (h : Heap) (G : GH) (e : Addr) (tb : Option Value) : Prop where
  ex : ∃ oe vs, h.get? e = some oe ∧ oe.cls = .type X ∧ oe.data = .fields vs ∧ 2 < vs.size ∧ (cn = true → vs[2]? = some .none) ∧ tbIs c h G e vs tb
  s0 : c.s₀.heap.get? e = none
  g : G e = none
section
variable {c : Cx} {F : Fd} {σ : List SV} {μ : Mu} {s : Shared} {G : GH} {X : String} {cn : Bool} {e : Addr} {tb : Option Value}
theorem At.dict (a : At c F σ μ s G) : ∃ o es ep, s.heap.get? c.env.locals = some o ∧ o.data = .dict es ep := by
  obtain ⟨m, ⟨o, es, ep, h1, h2, _⟩, _⟩ := a.st.rel.slots
  exact ⟨o, es, ep, h1, h2⟩
theorem At.outer (a : At c F σ μ s G) (k : c.Ok F) : ∃ o, s.heap.get? c.le.locals = some o ∧ ∀ vs, o.data ≠ .fields vs := by
  obtain ⟨_, o, sl, e1, e2⟩ := a.kp _ k.lm
  obtain ⟨_, _, o', e1', hk⟩ := k.kk _ k.lm
  rw [e1] at e1'; cases e1'
  exact ⟨_, e2, fun vs => notFields hk⟩
theorem At.neX (a : At c F σ μ s G) (k : c.Ok F) {b : Addr} {o : Obj} {vs : Array Value} (e : s.heap.get? b = some o) (d : o.data = .fields vs) : b ≠ c.env.locals ∧ b ≠ c.le.locals ∧ b ∉ μ.ad := by
  refine ⟨fun q => ?_, fun q => ?_, fun q => ?_⟩
  · obtain ⟨o', es, ep, h1, h2⟩ := a.dict
    rw [← q, e] at h1; cases h1; rw [d] at h2; cases h2
  · obtain ⟨o', h1, h2⟩ := a.outer k
    rw [← q, e] at h1; cases h1; exact h2 vs d
  · obtain ⟨p, hp, rfl⟩ := List.mem_map.mp q
    obtain ⟨ys, ⟨n, h1⟩, _⟩ := (a.ow.at_ p hp).pl
    rw [e] at h1; cases h1; cases d
theorem Cx.Ok.neTB (k : c.Ok F) {b : Addr} (h : c.s₀.heap.get? b = none) : b ≠ TB := fun q => by
  obtain ⟨_, e, _⟩ := k.w0.tab
  rw [← q, h] at e; cases e
theorem XA.keep (x : XA c X cn s.heap G e tb) {h' : Heap} {G' : GH} (hk : ∀ b o vs, c.s₀.heap.get? b = none → G b = none → s.heap.get? b = some o → o.data = .fields vs → h'.get? b = some o ∧ G' b = none) : XA c X cn h' G' e tb := by
  obtain ⟨oe, vs, h1, h2, h3, h4, h5, h6⟩ := x.ex
  obtain ⟨z1, z2⟩ := hk e oe vs x.s0 x.g h1 h3
  refine ⟨⟨oe, vs, z1, h2, h3, h4, h5, ?_⟩, x.s0, z2⟩
  cases tb with
  | none => exact h6
  | some fl =>
    obtain ⟨T, oT, ts, t1, t2, t3, t4, t5, t6, t7⟩ := h6
    obtain ⟨y1, y2⟩ := hk T oT ts t3 t4 t5 t6
    exact ⟨T, oT, ts, t1, t2, t3, y2, y1, t6, t7⟩
theorem XA.frm (x : XA c X cn s.heap G e tb) (a : At c F σ μ s G) (k : c.Ok F) {μ' : List Addr} {s' : Shared} {G' : GH} (f : Frm c.env μ.ad s G μ' s' G') : XA c X cn s'.heap G' e tb :=
  x.keep fun b o vs h0 hG hb hd => by
    obtain ⟨z1, z2, z3⟩ := a.neX k hb hd
    exact ⟨f.keep b o (k.neTB h0) z1 (fun p hp => by rw [k.nc] at hp; cases hp) z3 hb, f.gn b hG z3 (by rw [hb]; exact fun q => nomatch q)⟩
theorem At.newX (a : At c F σ μ s G) (k : c.Ok F) {h' : Heap} {tk : Nat} {p : Prop} (n : NewX s.heap h' e X p) (hp : cn = true → p) (ht : s.toks ≤ tk) : At c F σ μ { s with heap := h', toks := tk } G ∧ XA c X cn h' G e none := by
  refine ⟨a.move k [] (fun b hb => nomatch hb) (fun b o _ _ _ e => n.keeps b o e) (fun b o _ e => ⟨o.slots, n.keeps b o e⟩) n.size ht, ?_, ?_, ?_⟩
  · obtain ⟨ob, t, cc, h1, h2, h3, h4⟩ := n.there
    refine ⟨ob, _, h1, h2, h3, by show 2 < 6; decide, fun q => ?_, rfl⟩
    rw [h4 (hp q)]; rfl
  · cases he : c.s₀.heap.get? e with
    | none => rfl
    | some o =>
      by_cases q : e = TB
      · obtain ⟨_, te, _⟩ := a.st.grow.wd.tab
        rw [← q, n.new] at te; cases te
      · have := a.st.grow.keep e o q he
        rw [n.new] at this; cases this
  · cases he : G e with
    | none => rfl
    | some o => have := a.st.grow.sub e o he; rw [n.new] at this; cases this
variable {w : World} {A : Around} {E : Value → Shared → Prop} {M : Model}
theorem At.frames (a : At c F σ μ s G) (k : c.Ok F) : s.heap.FunFrames {} [c.env, c.le] := by
  obtain ⟨o, es, ep, h1, h2⟩ := a.dict
  obtain ⟨o', h3, h4⟩ := a.outer k
  refine ⟨by rw [k.I.fn]; decide, ⟨_, o, k.ef, rfl, h1, fun vs q => by rw [h2] at q; cases q⟩, k.lk, ⟨_, o', k.lf, rfl, h3, h4⟩, trivial⟩
theorem note_new {Q : Unit → Shared → Prop} (a : At c F σ μ s G) (k : c.Ok F) (hfr : A.frames = some [c.env, c.le]) (x : XA c X cn s.heap G e none)
    (q : ∀ h', At c F σ μ { s with heap := h' } G → XA c X cn h' G e (some (rawInt c.env.locals)) → Q () { s with heap := h' }) : wpAny M A (noteFrame (.ref e) c.env) Q E s := by
  obtain ⟨oe, vs, h1, h2, h3, h4, h5, h6⟩ := x.ex
  obtain ⟨z1, z2, z3⟩ := a.neX k h1 h3
  unfold noteFrame
  simp only [k.ef]
  refine wpAny_bind (wpAny_field h1 h3 h6 ?_)
  rw [if_neg (by decide)]
  refine wpAny_bind (wpAny_frameOf_fun hfr (a.frames k) k.ef fun h₁ hs₁ => ?_)
  refine wpAny_bind (wpAny_entryPlaceOf fun pl hpl => ?_)
  unfold EntryCells.newEntry newFields
  refine wpAny_bind (wpAny_newObj_type ?_ (hpl.sizeOk5 _ _ _ _ _))
  have hfl : [c.env, c.le].filterMap (·.frame) = [c.env.locals, c.le.locals] := by simp [k.ef, k.lf]
  rw [hfl] at hs₁
  have he₁ : h₁.get? e = some oe := (hs₁.2.1 e (by simp [z1, z2])).trans h1
  have he₂ := Heap.get?_push_of_some (h := h₁) { cls := .type "traceback", dict := none, data := .fields ([Value.none, .ref c.env.locals, .none, rawInt c.env.locals, .none] ++ (if pl.isEmpty then List.replicate 6 Value.none else pl)).toArray } he₁
  refine wpAny_setField he₂ h3 (by omega) ?_
  have hTe : h₁.objs.size ≠ e := Nat.ne_of_gt (Heap.lt_size he₁)
  have hd₃ := Obj.data_mapFields h3 (·.setIfInBounds 1 (Value.ref h₁.objs.size))
  have he₃ := Heap.get?_update_self (Obj.mapFields (·.setIfInBounds 1 (Value.ref h₁.objs.size))) he₂ (Obj.isFreed_of_fields hd₃)
  have hT₂ := Heap.get?_push_size h₁ (o := { cls := .type "traceback", dict := none, data := .fields ([Value.none, .ref c.env.locals, .none, rawInt c.env.locals, .none] ++ (if pl.isEmpty then List.replicate 6 Value.none else pl)).toArray }) rfl
  have hT₃ := Heap.get?_update_of_ne (Obj.mapFields (·.setIfInBounds 1 (Value.ref h₁.objs.size))) (Ne.symm hTe) hT₂
  have hsz1 : h₁.objs.size = s.heap.objs.size := hs₁.1
  have hT0 : s.heap.get? h₁.objs.size = none := Heap.get?_none_of_le (by omega)
  refine q _ (a.move k [e] (fun b hb => ?_) (fun b o n1 n2 n3 hb => ?_) (fun b o n1 hb => ?_) ?_ (Nat.le_refl _)) ⟨⟨_, _, he₃, (Obj.cls_mapFields _ _).trans h2, hd₃, by simpa using h4, fun z => ?_, ?_⟩, x.s0, x.g⟩
  · rw [List.mem_singleton.mp hb]
    exact ⟨x.s0, x.g, fun o ho => by rw [h1] at ho; cases ho; exact ⟨vs, h3⟩⟩
  · exact Heap.get?_update_of_ne _ (fun z => n3 (by rw [z]; exact List.mem_singleton.mpr rfl)) (Heap.get?_push_of_some _ ((hs₁.2.1 b (by simp [n1, n2])).trans hb))
  · obtain ⟨sl, hb'⟩ := hs₁.2.2 b o hb
    refine ⟨sl, Heap.get?_update_of_ne _ (fun z => ?_) (Heap.get?_push_of_some _ hb')⟩
    rcases n1 with n1 | n1
    · exact z1 (z.trans n1)
    · exact z2 (z.trans n1)
  · show _ ≤ (Heap.update _ _ _).objs.size
    rw [Heap.size_update, Heap.size_push]
    show s.heap.objs.size ≤ h₁.objs.size + 1
    omega
  · rw [Array.getElem?_setIfInBounds_ne (by decide)]; exact h5 z
  · have hv1 : (vs.setIfInBounds 1 (Value.ref h₁.objs.size))[1]? = some (Value.ref h₁.objs.size) := by
      have : 1 < vs.size := by omega
      simp [this]
    refine ⟨h₁.objs.size, _, _, hv1, hTe, ?_, a.st.grow.sub.none (by show s.heap.objs.size ≤ h₁.objs.size; omega), hT₃, rfl, by first | (simp; done) | (rcases hpl with rfl | ⟨_, _, _, _, _, _, _, rfl⟩ <;> simp)⟩
    exact Heap.get?_none_of_le (by have := a.st.grow.size; show c.s₀.heap.objs.size ≤ h₁.objs.size; omega)
theorem note_same {Q : Unit → Shared → Prop} (k : c.Ok F) (x : XA c X cn s.heap G e (some (rawInt c.env.locals))) (q : Q () s) : wpAny M A (noteFrame (.ref e) c.env) Q E s := by
  obtain ⟨oe, vs, h1, h2, h3, h4, h5, T, oT, ts, t1, t2, t3, t4, t5, t6, t7⟩ := x.ex
  unfold noteFrame
  simp only [k.ef]
  refine wpAny_bind (wpAny_field h1 h3 t1 ?_)
  rw [if_pos (show (Value.ref T != Value.none) = true from by simp)]
  refine wpAny_bind (wpAny_field t5 t6 t7 ?_)
  rw [if_pos (show (rawInt c.env.locals == rawInt c.env.locals) = true from by simp)]
  exact wpAny_pure q
theorem flight {Q : Unit → Shared → Prop} {fl : Value} (fr : Option Addr) (a : At c F σ μ s G) (k : c.Ok F) (x : XA c X cn s.heap G e (some fl))
    (q : ∀ h', At c F σ μ { s with heap := h' } G → XA c X cn h' G e (some (fr.elim .none fun f => rawInt f)) → Q () { s with heap := h' }) : wpAny M A (setFlight (.ref e) fr) Q E s := by
  obtain ⟨oe, vs, h1, h2, h3, h4, h5, T, oT, ts, t1, t2, t3, t4, t5, t6, t7⟩ := x.ex
  obtain ⟨z1, z2, z3⟩ := a.neX k t5 t6
  unfold setFlight
  refine wpAny_bind (wpAny_field h1 h3 t1 ?_)
  rw [if_pos (show (Value.ref T != Value.none) = true from by simp)]
  have hsz3 : 3 < ts.size := (Array.getElem?_eq_some_iff.mp t7).1
  refine wpAny_setField t5 t6 hsz3 ?_
  have hd := Obj.data_mapFields t6 (·.setIfInBounds 3 (fr.elim Value.none fun f => rawInt f))
  refine q _ (a.move k [T] (fun b hb => ?_) (fun b o n1 n2 n3 hb => ?_) (fun b o n1 hb => ?_) ?_ (Nat.le_refl _)) ⟨⟨oe, vs, Heap.get?_update_of_ne _ t2 h1, h2, h3, h4, h5, T, _, _, t1, t2, t3, t4, Heap.get?_update_self _ t5 (Obj.isFreed_of_fields hd), hd, by simp [hsz3]⟩, x.s0, x.g⟩
  · rw [List.mem_singleton.mp hb]
    exact ⟨t3, t4, fun o ho => by rw [t5] at ho; cases ho; exact ⟨ts, t6⟩⟩
  · exact Heap.get?_update_of_ne _ (fun z => n3 (by rw [z]; exact List.mem_singleton.mpr rfl)) hb
  · refine ⟨o.slots, Heap.get?_update_of_ne _ (fun z => ?_) hb⟩
    rcases n1 with n1 | n1
    · exact z1 (z.trans n1)
    · exact z2 (z.trans n1)
  · show _ ≤ (Heap.update _ _ _).objs.size
    rw [Heap.size_update]; omega
end
end
section
open PySem PySem.W PyProof.Rows PySem.Calls
set_option maxRecDepth 100000
set_option maxHeartbeats 1000000
inductive Yt where
  | next (σ : List SV) (μ : Mu)
  | brk (σ : List SV) (μ : Mu)
  | exc (σ : List SV) (μ : Mu) (cn : Bool)
/-- what is handled, if anything is, has no context -/
noncomputable def Hc (c : Cx) (X : String) (A : Around) (s : Shared) (G : GH) : Prop := A.handled = none ∨ ∃ e, A.handled = some (.ref e) ∧ XA c X true s.heap G e (some .none)
noncomputable def XE (c : Cx) (X : String) (cn : Bool) (h : Heap) (G : GH) (e : Addr) : Prop := XA c X cn h G e none ∨ XA c X cn h G e (some (rawInt c.env.locals))
structure Yk (c : Cx) (F : Fd) (A : Around) : Prop where
  ok : c.Ok F
  room : Room 0 A
  fr : A.frames = some [c.env, c.le]
structure YQ (c : Cx) (F : Fd) (X : String) (A : Around) (Φ : Yt → Prop) (Q : Flow → Shared → Prop) (E : Value → Shared → Prop) : Prop where
  nx : ∀ σ μ s G, Φ (.next σ μ) → At c F σ μ s G → Hc c X A s G → Q .next s
  bk : ∀ σ μ s G, Φ (.brk σ μ) → At c F σ μ s G → Hc c X A s G → Q .brk s
  ex : ∀ σ μ cn s G e, Φ (.exc σ μ cn) → At c F σ μ s G → XE c X cn s.heap G e → E (.ref e) s
structure Y1 (w : World) (c : Cx) (F : Fd) (X : String) (A : Around) (σ : List SV) (μ : Mu) (st : Stmt) (Φ : Yt → Prop) : Prop where
  run : ∀ s G Q E, At c F σ μ s G → Hc c X A s G → YQ c F X A Φ Q E → wpAny (model prog w) A (exec st c.env) Q E s
structure Ys (w : World) (c : Cx) (F : Fd) (X : String) (A : Around) (σ : List SV) (μ : Mu) (sts : List Stmt) (Φ : Yt → Prop) : Prop where
  run : ∀ s G Q E, At c F σ μ s G → Hc c X A s G → YQ c F X A Φ Q E → wpAny (model prog w) A (execs sts c.env) Q E s
noncomputable def YThen (w : World) (c : Cx) (F : Fd) (X : String) (A : Around) (rest : List Stmt) (Φ : Yt → Prop) : Yt → Prop
  | .next σ μ => Ys w c F X A σ μ rest Φ
  | o => Φ o
noncomputable def YofOut (Φ : Yt → Prop) : Out → Prop
  | .next σ μ => Φ (.next σ μ)
  | .brk σ μ => Φ (.brk σ μ)
  | _ => False
section
variable {w : World} {c : Cx} {F : Fd} {X : String} {A : Around} {σ : List SV} {μ : Mu} {Φ Ψ : Yt → Prop} {s : Shared} {G : GH} {e : Addr} {cn : Bool}
theorem Hc.frm (h : Hc c X A s G) (a : At c F σ μ s G) (k : c.Ok F) {μ' : List Addr} {s' : Shared} {G' : GH} (f : Frm c.env μ.ad s G μ' s' G') : Hc c X A s' G' := by
  rcases h with h | ⟨e, h, x⟩
  · exact .inl h
  · exact .inr ⟨e, h, x.frm a k f⟩
theorem Hc.hd (h : Hc c X A s G) : HdOk A s.heap := by
  rcases h with h | ⟨e, h, x⟩
  · exact .inl h
  · obtain ⟨oe, vs, h1, h2, h3, h4, h5, h6⟩ := x.ex
    exact .inr ⟨e, oe, vs, h, h1, h3, h5 rfl⟩
theorem At.step (a : At c F σ μ s G) (k : c.Ok F) {s' : Shared} {G' : GH} (g : Grow s G s' G') : At c F σ μ s' G' := a.frm k (a.st.step g) (a.ow.grow g) (.grow g)
theorem Hc.step (h : Hc c X A s G) (a : At c F σ μ s G) (k : c.Ok F) {s' : Shared} {G' : GH} (g : Grow s G s' G') : Hc c X A s' G' := h.frm a k (.grow g)
theorem Ys.nil (h : Φ (.next σ μ)) : Ys w c F X A σ μ [] Φ := .mk fun s G Q E a hc q => wpAny_execs_nil (q.nx _ _ _ _ h a hc)
theorem Ys.cons {st : Stmt} {rest : List Stmt} (h : Y1 w c F X A σ μ st (YThen w c F X A rest Φ)) : Ys w c F X A σ μ (st :: rest) Φ := .mk fun s G Q E a hc q =>
  wpAny_execs_cons (h.run s G _ _ a hc ⟨fun σ' μ' s' G' hΦ a' hc' => hΦ.run s' G' Q E a' hc' q, fun σ' μ' s' G' hΦ a' hc' => q.bk _ _ _ _ hΦ a' hc', fun σ' μ' cn s' G' e hΦ a' x => q.ex _ _ _ _ _ _ hΦ a' x⟩)
theorem Y1.of (k : Yk c F A) {st : Stmt} (h : X1 w 0 F σ μ st (YofOut Φ)) : Y1 w c F X A σ μ st Φ := .mk fun s G Q E a hc q =>
  h.run c.s₀ c.G₀ c.env A s G Q E k.ok.I k.ok.Fr k.room a.st a.ow fun o fl s' ho hs => by
    cases o with
    | next σ' μ' =>
      obtain ⟨rfl, G', T, O, f⟩ := hs
      exact q.nx _ _ _ _ ho (a.frm k.ok T O f) (hc.frm a k.ok f)
    | brk σ' μ' =>
      obtain ⟨rfl, G', T, O, f⟩ := hs
      exact q.bk _ _ _ _ ho (a.frm k.ok T O f) (hc.frm a k.ok f)
    | ret r => exact ho.elim
    | cont σ' μ' => exact ho.elim
theorem Y1.ite (k : Yk c F A) {t : Expr} {body orelse : List Stmt} {pos : Pos} {b : Bool} (h : Tr w 0 F σ t b) (h1 : b = true → Ys w c F X A σ μ body Φ) (h2 : b = false → Ys w c F X A σ μ orelse Φ) : Y1 w c F X A σ μ (.If t body orelse pos) Φ := .mk fun s G Q E a hc q =>
  wpAny_If (h.run c.env A s G _ E k.ok.I k.room a.st.grow.bare a.st.rel fun s1 G1 g1 => by
    cases b with
    | true => rw [if_pos rfl]; exact (h1 rfl).run s1 G1 Q E (a.step k.ok g1) (hc.step a k.ok g1) q
    | false => rw [if_neg (by simp)]; exact (h2 rfl).run s1 G1 Q E (a.step k.ok g1) (hc.step a k.ok g1) q)
theorem note_any {M : Model} {Q : Unit → Shared → Prop} {E : Value → Shared → Prop} (a : At c F σ μ s G) (k : c.Ok F) (hfr : A.frames = some [c.env, c.le]) (x : XE c X cn s.heap G e)
    (q : ∀ h', At c F σ μ { s with heap := h' } G → XA c X cn h' G e (some (rawInt c.env.locals)) → Q () { s with heap := h' }) : wpAny M A (noteFrame (.ref e) c.env) Q E s := by
  rcases x with x | x
  · exact note_new a k hfr x q
  · exact note_same k x (q s.heap a x)
theorem came {M : Model} {E : Value → Shared → Prop} {A' : Around} (a : At c F σ μ s G) (k : c.Ok F) (hfr : A'.frames = some [c.env, c.le]) (x : XE c X cn s.heap G e)
    (q : ∀ h', At c F σ μ { s with heap := h' } G → XE c X cn h' G e → E (.ref e) { s with heap := h' }) : notedBy M A' c.env (cameBackBy M A c.env E) (.ref e) s := by
  refine note_any a k hfr x fun h' a' x' => ?_
  obtain ⟨oe, vs, h1, h2, h3, h4, h5, T, oT, ts, t1, t2, t3, t4, t5, t6, t7⟩ := x'.ex
  refine wpAny_bind (wpAny_field h1 h3 t1 ?_)
  rw [if_neg (show ¬ ((Value.ref T == Value.none) = true) from by simp)]
  rw [k.ef]
  exact flight (some c.env.locals) a' k x' fun h'' a'' x'' => q h'' a'' (.inr x'')
end
end
section
open PySem PySem.W PyProof.Rows PySem.Calls
set_option maxRecDepth 100000
set_option maxHeartbeats 1000000
/-- an expression that raises -/
structure Ee (w : World) (F : Fd) (X : String) (σ : List SV) (e : Expr) : Prop where
  run : ∀ (env : Env) (A : Around) (s : Shared) (G : GH) (Q E : Value → Shared → Prop), EnvIs F env → Room 0 A → Bare s G → Rel F σ env s.heap G → (∀ s1 G1, Grow s G s1 G1 → HdOk A s1.heap) →
    (∀ s1 G1 h' tk e, Grow s G s1 G1 → NewX s1.heap h' e X (A.handled = none) → s1.toks ≤ tk → E (.ref e) { s1 with heap := h', toks := tk }) → wpAny (model prog w) A (eval e env) Q E s
/-- a test that raises -/
structure Te (w : World) (F : Fd) (X : String) (σ : List SV) (e : Expr) : Prop where
  run : ∀ (env : Env) (A : Around) (s : Shared) (G : GH) (Q : Bool → Shared → Prop) (E : Value → Shared → Prop), EnvIs F env → Room 0 A → Bare s G → Rel F σ env s.heap G → (∀ s1 G1, Grow s G s1 G1 → HdOk A s1.heap) →
    (∀ s1 G1 h' tk e, Grow s G s1 G1 → NewX s1.heap h' e X (A.handled = none) → s1.toks ≤ tk → E (.ref e) { s1 with heap := h', toks := tk }) → wpAny (model prog w) A (isTrue e env (eval e env)) Q E s
section
variable {w : World} {c : Cx} {F : Fd} {X : String} {A : Around} {σ : List SV} {μ : Mu} {Φ Ψ : Yt → Prop} {s : Shared} {G : GH} {e : Addr} {cn : Bool}
theorem Ee.item {e1 e2 : Expr} {l : List PyData} {k : Int} {pos : Pos} (h1 : Ev w 0 F σ e1 (.list l)) (h2 : Ev w 0 F σ e2 (.int k)) (hk : (l.length : Int) ≤ k) (hk2 : k ≤ 1000000)
    (hs : ∀ x y, subscripted e2 false x y = operate [x, y] (getItem x y) := by intro _ _; rfl) : Ee w F "IndexError" σ (.Subscript e1 e2 pos) :=
  .mk fun env A s G Q E I Ro B R hd q => Subscript_ (h1.run env A s G _ _ I Ro B R fun x s1 G1 g1 r1 => h2.run env A s1 G1 _ _ I Ro g1.bare (R.grow g1) fun y s2 G2 g2 r2 => by
    obtain ⟨a, items, rfl, L, _, ra⟩ := Rd.list_inv g2.sub (r1.ext g2.le)
    obtain ⟨t, rfl⟩ := Rd.int_inv r2
    have hz : items.size = l.length := by rw [← ra.length]; simp
    refine tail_any L.typeIs slot_list_getitem.lookup (getItem_out (hd s2 G2 (g1.trans g2)) L (by omega) (by omega) fun h' tk e n hle => ?_) (hs _ _)
    exact q s2 G2 h' tk e (g1.trans g2) n hle)
theorem Te.cmp {e1 e2 : Expr} {op : CmpOp} {pos : Pos} (h1 : Ee w F X σ e1) (hm : behindInMarks op e2 = false := by rfl) : Te w F X σ (.Compare e1 [op] [e2] pos) :=
  .mk fun env A s G Q E I Ro B R hd q => wpAny_isTrue_Compare1 (h1.run env A s G _ _ I Ro B R hd q) hm
theorem Hc.hds (h : Hc c X A s G) (a : At c F σ μ s G) (k : c.Ok F) : ∀ s1 G1, Grow s G s1 G1 → HdOk A s1.heap := fun s1 G1 g => (h.step a k g).hd
theorem Y1.assignOut (k : Yk c F A) {x : Str} {ex : Expr} {p pos : Pos} (h : Ee w F X σ ex) (hcn : cn = true → A.handled = none) (hΦ : Φ (.exc σ μ cn))
    (hs : ∀ env : Env, EnvIs F env → swapsWith ex (some (.Name x p)) pos.line env = pure false := by intro _ _; rfl) : Y1 w c F X A σ μ (.Assign [.Name x p] ex pos) Φ := .mk fun s G Q E a hc q =>
  wpAny_Assign_Name (h.run c.env A s G _ E k.ok.I k.room a.st.grow.bare a.st.rel (hc.hds a k.ok) fun s1 G1 h' tk e g n hle => by
    obtain ⟨a', x'⟩ := (a.step k.ok g).newX k.ok n hcn hle
    exact q.ex _ _ _ _ _ _ hΦ a' (.inl x')) (hs c.env k.ok.I)
noncomputable def YLoop (Φ : Yt → Prop) (I : List SV → Mu → Prop) : Yt → Prop
  | .next σ μ => I σ μ
  | .brk σ μ => Φ (.next σ μ)
  | .exc σ μ cn => Φ (.exc σ μ cn)
theorem Y1.while (k : Yk c F A) {test : Expr} {body : List Stmt} {pos : Pos} (Inv : Nat → List SV → Mu → Prop) (k₀ : Nat) (h0 : Inv k₀ σ μ)
    (turn : ∀ n σ μ, Inv n σ μ → (∃ b, Tr w 0 F σ test b ∧ (b = true → Ys w c F X A σ μ body (YLoop Φ fun σ' μ' => ∃ m, m < n ∧ Inv m σ' μ')) ∧ (b = false → Φ (.next σ μ))) ∨
      (Te w F X σ test ∧ ∃ cn, (cn = true → A.handled = none) ∧ Φ (.exc σ μ cn))) : Y1 w c F X A σ μ (.While test body [] pos) Φ := .mk fun s G Q E a hc q => by
  refine wpAny_While (codeAny_whileLoop (fun n s' => ∃ σ' μ' G', Inv n σ' μ' ∧ At c F σ' μ' s' G' ∧ Hc c X A s' G') ?_ k₀ ⟨σ, μ, G, h0, a, hc⟩)
  rintro n s' ⟨σ', μ', G', hI, a', hc'⟩
  rcases turn n σ' μ' hI with ⟨b, ht, h1, h2⟩ | ⟨ht, cn, hcn, hΦ⟩
  · refine ht.run c.env A s' G' _ _ k.ok.I k.room a'.st.grow.bare a'.st.rel fun s1 G1 g1 => ?_
    have a1 := a'.step k.ok g1
    have hc1 := hc'.step a' k.ok g1
    cases b with
    | true =>
      rw [if_pos rfl]
      refine (h1 rfl).run s1 G1 _ _ a1 hc1 ⟨fun σ2 μ2 s2 G2 hΦ a2 hc2 => ?_, fun σ2 μ2 s2 G2 hΦ a2 hc2 => ?_, fun σ2 μ2 cn s2 G2 e hΦ a2 x2 => ?_⟩
      · obtain ⟨m, hm, hI2⟩ := hΦ
        exact ⟨m, hm, σ2, μ2, G2, hI2, a2, hc2⟩
      · exact q.nx _ _ _ _ hΦ a2 hc2
      · exact came a2 k.ok k.fr x2 fun h' a3 x3 => q.ex _ _ _ _ _ _ hΦ a3 x3
    | false =>
      rw [if_neg (by simp)]
      exact wpAny_execs_nil (q.nx _ _ _ _ (h2 rfl) a1 hc1)
  · refine ht.run c.env A s' G' _ _ k.ok.I k.room a'.st.grow.bare a'.st.rel (hc'.hds a' k.ok) fun s1 G1 h' tk e g n hle => ?_
    obtain ⟨a2, x2⟩ := (a'.step k.ok g).newX k.ok n hcn hle
    exact came a2 k.ok k.fr (.inl x2) fun h' a3 x3 => q.ex _ _ _ _ _ _ hΦ a3 x3
end
end
section
open PySem PySem.W PyProof.Rows PySem.Calls
set_option maxRecDepth 100000
set_option maxHeartbeats 1000000
noncomputable def YFin (Φ : Yt → Prop) : Yt → Prop
  | .next σ μ => Φ (.exc σ μ true)
  | .exc σ μ cn => Φ (.exc σ μ cn)
  | .brk _ _ => False
section
variable {w : World} {c : Cx} {F : Fd} {X : String} {A : Around} {σ : List SV} {μ : Mu} {Φ Φb : Yt → Prop} {s : Shared} {G : GH} {e : Addr} {cn : Bool}
theorem Yk.mark (k : Yk c F A) (h : Option Value) : Yk c F (A.mark h) := ⟨k.ok, ⟨fun q => absurd rfl q, k.room.depth, k.room.units⟩, k.fr⟩
theorem Hc.marked (h : Hc c X (A.mark (some (.ref e))) s G) : XA c X true s.heap G e (some .none) := by
  rcases h with h | ⟨e', h, x⟩
  · cases h
  · have : e' = e := by
      have : (some (Value.ref e) : Option Value) = some (.ref e') := h
      cases this; rfl
    exact this ▸ x
theorem Y1.tryFin (k : Yk c F A) (hA : A.handled = none) {body : List Stmt} {f₀ : Stmt} {fs : List Stmt} {pos : Pos} (hb : Ys w c F X A σ μ body Φb) (hn : ∀ σ' μ', Φb (.next σ' μ') → Ys w c F X A σ' μ' (f₀ :: fs) Φ) (hbk : ∀ σ' μ', ¬ Φb (.brk σ' μ'))
    (hx : ∀ σ' μ' cn, Φb (.exc σ' μ' cn) → cn = true ∧ ∀ A', Yk c F A' → Ys w c F X A' σ' μ' (f₀ :: fs) (YFin Φ)) : Y1 w c F X A σ μ (.Try body [] [] (f₀ :: fs) pos) Φ := .mk fun s G Q E a hc q => by
  refine wpAny_Try_finally (hb.run s G _ _ a hc ⟨fun σ1 μ1 s1 G1 hΦ a1 hc1 => ?_, fun σ1 μ1 s1 G1 hΦ a1 hc1 => (hbk _ _ hΦ).elim, fun σ1 μ1 cn s1 G1 e hΦ a1 x1 => ?_⟩)
  · refine wpAny_execs_nil ((hn _ _ hΦ).run s1 G1 _ _ a1 hc1 ⟨fun σ2 μ2 s2 G2 hΦ2 a2 hc2 => q.nx _ _ _ _ hΦ2 a2 hc2, fun σ2 μ2 s2 G2 hΦ2 a2 hc2 => q.bk _ _ _ _ hΦ2 a2 hc2, fun σ2 μ2 cn s2 G2 e hΦ2 a2 x2 => ?_⟩)
    exact came a2 k.ok k.fr x2 fun h' a3 x3 => q.ex _ _ _ _ _ _ hΦ2 a3 x3
  · obtain ⟨rfl, hf⟩ := hx _ _ _ hΦ
    refine note_any a1 k.ok k.fr x1 fun h2 a2 x2 => ⟨(by intro z; cases z), note_same k.ok x2 (flight none a2 k.ok x2 fun h3 a3 x3 => ?_)⟩
    refine (hf _ (k.mark (some (.ref e)))).run _ G1 _ _ a3 (.inr ⟨e, rfl, x3⟩) ⟨fun σ4 μ4 s4 G4 hΦ4 a4 hc4 => ?_, fun σ4 μ4 s4 G4 hΦ4 a4 hc4 => hΦ4.elim, fun σ4 μ4 cn s4 G4 e4 hΦ4 a4 x4 => ?_⟩
    · have x4 := hc4.marked
      obtain ⟨oe, vs, h1, h2, h3, h4, h5, T, oT, ts, t1, t2, t3, t4, t5, t6, t7⟩ := x4.ex
      unfold PySem.passOn
      refine wpAny_bind (wpAny_field h1 h3 t1 ?_)
      rw [if_neg (show ¬ ((Value.ref T == Value.none) = true) from by simp)]
      rw [k.ok.ef]
      exact wpAny_bind (flight (some c.env.locals) a4 k.ok x4 fun h5 a5 x5 => wpAny_throw (q.ex _ _ _ _ _ _ hΦ4 a5 (.inr x5)))
    · exact came a4 k.ok k.fr x4 fun h' a5 x5 => q.ex _ _ _ _ _ _ hΦ4 a5 x5
theorem Y1.tryExc (k : Yk c F A) (hA : A.handled = none) {body : List Stmt} {b₀ : Stmt} {suite : List Stmt} {pos hp np : Pos} {x : Str} {T : String} (hb : Ys w c F X A σ μ body Φb) (hn : ∀ σ' μ', Φb (.next σ' μ') → Φ (.next σ' μ')) (hbk : ∀ σ' μ', Φb (.brk σ' μ') → Φ (.brk σ' μ'))
    (hx : ∀ σ' μ' cn, Φb (.exc σ' μ' cn) → Xs w 0 F σ' μ' (b₀ :: suite) (YofOut Φ)) (hk : F.sc.names.lookup x = some .globalImplicit) (hv : bltT.lookup x = some (.type T)) (hd : (x == ("__debug__" : Str)) = false)
    (h1 : isSubtype (.type T) (.type "BaseException") = pure true) (h2 : isSubtype (.type ((Manifest.find? T).elim "type" fun x => x.metatype)) (.type "tuple") = pure false) (h3 : isSubtype (.type X) (.type T) = pure true) :
    Y1 w c F X A σ μ (.Try body [.ExceptHandler (some (.Name x np)) none (b₀ :: suite) hp] [] [] pos) Φ := .mk fun s G Q E a hc q => by
  refine wpAny_Try_except (hb.run s G _ _ a hc ⟨fun σ1 μ1 s1 G1 hΦ a1 hc1 => ?_, fun σ1 μ1 s1 G1 hΦ a1 hc1 => q.bk _ _ _ _ (hbk _ _ hΦ) a1 hc1, fun σ1 μ1 cn s1 G1 e hΦ a1 x1 => ?_⟩)
  · exact wpAny_execs_nil (q.nx _ _ _ _ (hn _ _ hΦ) a1 hc1)
  · refine note_any a1 k.ok k.fr x1 fun h2' a2 x2 => flight none a2 k.ok x2 fun h3' a3 x3 => ?_
    refine wpAny_handleBy_builtin (X := X) (T := T) (b := true) h1 h2 h3 ?_
    have km := k.mark (some (.ref e))
    refine (Ev.blt (w := w) (n := 0) (σ := σ1) hk hv hd).run c.env (A.mark (some (.ref e))) _ G1 _ _ k.ok.I km.room a3.st.grow.bare a3.st.rel fun v s4 G4 g4 r4 => ?_
    have a4 := a3.step k.ok g4
    have x4 := x3.frm a3 k.ok (.grow g4)
    refine ⟨r4, ?_, ?_⟩
    · obtain ⟨oe, vs, z1, z2, _⟩ := x4.ex
      exact ⟨oe, z1, z2⟩
    · rw [if_pos rfl]
      refine flight none a4 k.ok x4 fun h5 a5 x5 => ?_
      refine (hx _ _ _ hΦ).run c.s₀ c.G₀ c.env (A.mark (some (.ref e))) _ G4 _ _ k.ok.I k.ok.Fr km.room a5.st a5.ow fun o fl s' ho hs => ?_
      cases o with
      | next σ' μ' =>
        obtain ⟨rfl, G', T', O', f⟩ := hs
        exact q.nx _ _ _ _ ho (a5.frm k.ok T' O' f) (.inl hA)
      | brk σ' μ' =>
        obtain ⟨rfl, G', T', O', f⟩ := hs
        exact q.bk _ _ _ _ ho (a5.frm k.ok T' O' f) (.inl hA)
      | ret r => exact ho.elim
      | cont σ' μ' => exact ho.elim
end
end
section
open PySem PySem.W PyProof.Rows PySem.Calls
set_option maxRecDepth 100000
set_option maxHeartbeats 1000000
/-- list.extend: the other list may be of any make -/
theorem meets_extend {l b : Addr} {ys items : Array Value} (hsz : ys.size + items.size ≤ 1000000) :
    Meets (Builtin.«list.extend» ⟨[.ref l, .ref b], []⟩) (fun _ R s => s.heap.PlainList l ys ∧ s.heap.IsList b items ∧ ∀ h', h'.PlainList l (ys ++ items) → Heap.SameBut l s.heap h' → R (.ok (.ret .none)) { s with heap := h' }) := by
  rintro prog w A R s ⟨⟨n, own⟩, other, q⟩
  have kind : s.TypeIs (.ref b) "list" := other.typeIs
  obtain ⟨ob, there, _, k, seq⟩ := other
  have line : ys.size + items.size ≤ sizeLine := Nat.le_trans hsz (by rw [sizeLine_eq]; decide)
  have few : Builtin.List.listTooLong (ys.size + items.size) = false := decide_eq_false (Nat.not_lt.mpr line)
  show wpAny _ _ (Builtin.List.listExtendWith (.ref l) (.ref b) .none) _ _ s
  unfold Builtin.List.listExtendWith
  refine wpAny_bind (wpAny_typeOf kind ?_)
  rw [if_pos (by simp)]
  refine wpAny_bind (wpAny_listItems there seq (wpAny_bind (wpAny_listItems own rfl ?_)))
  rw [few, Bool.and_false, if_neg Bool.false_ne_true]
  show wpAny _ _ (updateSeq l (· ++ items) >>= fun _ => ret .none) _ _ s
  refine wpAny_bind (wpAny_updateSeq own rfl (wpAny_pure (q _ ?_ (Heap.SameBut.update ..))) (Nat.le_trans (Nat.le_add_right ..) line) (Nat.le_succ_of_le (Nat.le_trans (Nat.le_of_eq Array.size_append) line)))
  exact ⟨_, Heap.get?_update_self _ own rfl⟩
section
variable {w : World} {n : Nat} {F : Fd} {σ : List SV} {μ : Mu} {Φ : Out → Prop}
theorem RvA.app {G : GH} : ∀ {rs rs' : List SV} {vs vs' : List Value}, RvA G rs vs → RvA G rs' vs' → RvA G (rs ++ rs') (vs ++ vs')
  | [], _, [], _, _, h => h
  | _ :: _, _, _ :: _, _, ⟨a, b⟩, h => ⟨a, RvA.app b h⟩
  | [], _, _ :: _, _, x, _ => x.elim
  | _ :: _, _, [], _, x, _ => x.elim
theorem RdA.sv {G : GH} : ∀ {ds : List PyData} {vs : List Value}, RdA G vs ds → RvA G (dts ds) vs
  | _, _, .nil => trivial
  | _, _, .cons a b => ⟨a, RdA.sv b⟩
/-- x.extend(e), e a list of data -/
theorem X1.extend {x : Str} {e : Expr} {ds : List PyData} {rs : List SV} {a : Addr} (j : Nat) {xp apos cpos pos : Pos} (hx : lookSV x F.vars F.kinds σ = some (.v (.ref a))) (hj : μ[j]? = some (a, rs)) (h : Em w n F σ μ e (.d (.list ds))) (hlen : rs.length + ds.length ≤ 1000000) (hΦ : Φ (.next σ (μ.set j (a, rs ++ dts ds))))
    (h0 : notStar e = true := by rfl) (hline : (apos.endLine == cpos.line) = true := by rfl) : X1 w n F σ μ (.Expr (.Call (.Attribute (.Name x xp) "extend" apos) [e] [] cpos) pos) Φ := .mk fun s₀ G₀ env A s G Q E I Fr Ro T O q => by
  refine wpAny_Expr ?_ I.inter rfl
  refine wpAny_Call_method (by rfl) ?_ hline PySem.F.plainAttrs_list PySem.F.slot_list_extend PySem.F.type_list_extend ?_
  · rw [backTo_few (by simp [h0])]; rfl
  · refine (Ev.nm hx rfl).run env A s G _ E I Ro T.grow.bare T.rel fun v s1 G1 g1 r1 => ?_
    cases r1
    have T1 := T.step g1
    have O1 := O.grow g1
    obtain ⟨ys, p1, _⟩ := (O1.at_ _ (List.mem_of_getElem? hj)).pl
    refine ⟨TypeIs.plain p1, fun b q => ?_, ?_⟩
    · cases q; obtain ⟨k, e⟩ := p1; exact ⟨_, e, rfl⟩
    · refine callWith_of_args (.inl ⟨_, rfl⟩) (starEach_any (by simp [h0])) (evalArgs_es (by simp [h0]) ?_)
      rw [starEach_cons h0]
      refine spliced_cons (h.run s₀ G₀ env A s1 G1 _ E I Ro T1 O1 fun v s2 G2 g2 r2 => spliced_nil ⟨g2.wd, ?_⟩)
      have T2 := T1.step g2
      have O2 := O1.grow g2
      obtain ⟨ys2, p2, ra2⟩ := (O2.at_ _ (List.mem_of_getElem? hj)).pl
      obtain ⟨b, items, rfl, ⟨ob, e1, e2, k3, e3⟩, _, ra⟩ := Rd.list_inv g2.sub r2
      have hz1 : ys2.size = rs.length := by have := ra2.length; simpa using this.symm
      have hz2 : items.size = ds.length := by have := ra.length; simpa using this
      refine call_meets PySem.F.slot_list_extend (TypeIs.plain p2) PySem.F.entry_list_extend (PySem.F.args_list_extend_2 _ _) (meets_extend (by omega)) ⟨p2, ⟨_, e1, e2, k3, e3⟩, fun h' p3 sb => ?_⟩
      obtain ⟨T3, O3, f3⟩ := T2.mut O2 hj sb (ys' := ys2 ++ items) p3 (rs' := rs ++ dts ds) (by rw [Array.toList_append]; exact RvA.app ra2 (RdA.sv ra)) s2.toks
      exact q (.next _ _) _ _ hΦ ⟨rfl, _, T3, O3, ((Frm.grow g1).trans (Frm.grow g2)).trans f3⟩
/-- x = y = e -/
theorem X1.assign2 {i j : Nat} {x y : Str} {e : Expr} {r : SV} {p1 p2 pos : Pos} (hx : ixOf x F.vars = some i) (hk : storable x F.vars F.kinds = true) (hy : ixOf y F.vars = some j) (hk2 : storable y F.vars F.kinds = true) (h : Em w n F σ μ e r) (hΦ : Φ (.next ((σ.set i r).set j r) μ))
    (he : ∀ env, (assignEach [.Name x p1, .Name y p2] env).map (·.2) = [PySem.assign (.Name x p1) env, PySem.assign (.Name y p2) env] := by intro _; rfl) (hw : ∀ env, swappedStores [.Name x p1, .Name y p2] e env = pure none := by intro _; rfl) : X1 w n F σ μ (.Assign [.Name x p1, .Name y p2] e pos) Φ := .mk fun s₀ G₀ env A s G Q E I Fr Ro T O q =>
  wpAny_Assign_two (h.run s₀ G₀ env A s G _ E I Ro T O fun v s1 G1 g1 r1 => by
    refine wpAny_assign_Name ((T.step g1).storeN I Fr (O.grow g1) hx hk r1 fun s2 T2 O2 f2 => ?_)
    exact wpAny_assign_Name (T2.storeN I Fr O2 hy hk2 r1 fun s3 T3 O3 f3 => q (.next _ _) _ _ hΦ ⟨rfl, _, T3, O3, (Frm.grow g1).trans ((f2 _).trans (f3 _))⟩)) (he env) (hw env)
end
end
section
open PySem PySem.W PyProof.Rows PySem.Calls
set_option maxRecDepth 100000
set_option maxHeartbeats 1000000
noncomputable def F3 : Fd := fdOf 3 ["expected", "actual", "i", "j", "missing", "unexpected", "e", "a"]
theorem F3_ok : F3.ok = true := by decide +kernel
theorem F3_plain : F3.plain 2 = true := by decide +kernel
noncomputable def ltS (a b : Str) : Bool := decide (a.cps.toList < b.cps.toList)
noncomputable def skipN (l : List Str) (e : Str) (i : Nat) : Nat := i + ((l.drop i).takeWhile (· == e)).length
theorem skipN_hit {l : List Str} {e : Str} {i : Nat} (h : l[i]? = some e) : skipN l e i = skipN l e (i + 1) := by
  have hi : i < l.length := by
    rcases Nat.lt_or_ge i l.length with z | z
    · exact z
    · rw [List.getElem?_eq_none z] at h; cases h
  have he : l[i] = e := by rw [List.getElem?_eq_getElem hi] at h; exact Option.some.inj h
  unfold skipN
  rw [List.drop_eq_getElem_cons hi, he, List.takeWhile_cons, if_pos (by simp)]
  simp; omega
theorem skipN_miss {l : List Str} {e x : Str} {i : Nat} (h : l[i]? = some x) (hx : x ≠ e) : skipN l e i = i := by
  have hi : i < l.length := by
    rcases Nat.lt_or_ge i l.length with z | z
    · exact z
    · rw [List.getElem?_eq_none z] at h; cases h
  have he : l[i] = x := by rw [List.getElem?_eq_getElem hi] at h; exact Option.some.inj h
  unfold skipN
  rw [List.drop_eq_getElem_cons hi, he, List.takeWhile_cons, if_neg (by simpa using hx)]
  simp
theorem skipN_end {l : List Str} {e : Str} {i : Nat} (h : l.length ≤ i) : skipN l e i = i := by
  unfold skipN
  rw [List.drop_eq_nil_of_le h]; simp
theorem skipN_le {l : List Str} {e : Str} {i : Nat} (h : i ≤ l.length) : skipN l e i ≤ l.length := by
  unfold skipN
  have : ((l.drop i).takeWhile (· == e)).length ≤ (l.drop i).length := (List.takeWhile_prefix _).length_le
  rw [List.length_drop] at this
  omega
section
variable {w : World} {n : Nat}
theorem Ms.ltS {a b : Str} : Ms w n .Lt (.str a) (.str b) (ltS a b) := .mk fun A s G x y Q E Ro B W k h1 h2 q => by
  obtain ⟨t, rfl⟩ := Rd.str_inv h1; obtain ⟨u, rfl⟩ := Rd.str_inv h2
  exact PyProof.Rows.lt_str (q _ _ (.refl B W k))
variable {c : Cx} {A : Around} {Φ : Yt → Prop}
theorem skipI (k : Yk c F3 A) {xs : List Str} {e : Str} {r1 r3 r4 r5 r7 : SV} {i : Nat} {μ : Mu} {p1 p2 p3 p4 p5 p6 p7 p8 p9 : Pos} {kk : Nat} (hxs : xs.length ≤ 1000) (hi : i ≤ xs.length)
    (h1 : skipN xs e i < xs.length → Φ (.next [.list (xs.map .str), r1, .int (skipN xs e i : Nat), r3, r4, r5, .str e, r7] μ)) (h2 : skipN xs e i = xs.length → Φ (.exc [.list (xs.map .str), r1, .int (skipN xs e i : Nat), r3, r4, r5, .str e, r7] μ (decide (A.handled = none)))) :
    Y1 w c F3 "IndexError" A [.list (xs.map .str), r1, .int i, r3, r4, r5, .str e, r7] μ (.While (.Compare (.Subscript (.Name "expected" p1) (.Name "i" p2) p3) [.Eq] [.Name "e" p4] p5) [.AugAssign (.Name "i" p6) .Add (.Constant (.int 1) kk p7) p8] [] p9) Φ := by
  refine Y1.while k (fun m σ μ' => ∃ q, q ≤ xs.length ∧ m = xs.length - q ∧ skipN xs e q = skipN xs e i ∧ σ = [.list (xs.map .str), r1, .int q, r3, r4, r5, .str e, r7] ∧ μ' = μ) (xs.length - i) ⟨i, hi, rfl, rfl, rfl, rfl⟩ ?_
  rintro m σ μ' ⟨q, hq, rfl, hs, rfl, rfl⟩
  cases hg : xs[q]? with
  | none =>
    have hql : xs.length ≤ q := List.getElem?_eq_none_iff.mp hg
    refine .inr ⟨Te.cmp (Ee.item (l := xs.map .str) (k := q) (Ev.nm (by rfl) rfl) (Ev.nm (by rfl) rfl) (by simp; omega) (by omega)), decide (A.handled = none), by simp, ?_⟩
    have e1 := skipN_end (e := e) hql
    have e2 : skipN xs e i = q := hs ▸ e1
    have := h2 (by omega)
    rwa [e2] at this
  | some x =>
    have hql : q < xs.length := by
      rcases Nat.lt_or_ge q xs.length with z | z
      · exact z
      · rw [List.getElem?_eq_none z] at hg; cases hg
    refine .inl ⟨x == e, Tr.cmp (Ev.item (o := .list (xs.map .str)) (r := .str x) (Ev.nm (by rfl) rfl) (Ev.nm (by rfl) rfl) (Is.list (by omega) (by simp [hg]) (by simp; omega))) (Ev.nm (by rfl) rfl) .eqS, fun hb => ?_, fun hb => ?_⟩
    · obtain rfl : x = e := by simpa using hb
      refine Ys.cons (Y1.of k (X1.aug (r' := .int ((q : Int) + 1)) (by rfl) (by decide +kernel) (by rfl) rfl (Em.of Ev.int) Ips.add ?_))
      refine Ys.nil ⟨xs.length - (q + 1), by omega, q + 1, by omega, rfl, ?_, rfl, rfl⟩
      rw [← skipN_hit hg, hs]
    · have e1 := skipN_miss (e := e) hg (by simpa using hb)
      have e2 : skipN xs e i = q := hs ▸ e1
      have := h1 (by omega)
      rwa [e2] at this
theorem skipJ (k : Yk c F3 A) {xs : List Str} {e : Str} {r0 r2 r4 r5 r6 : SV} {i : Nat} {μ : Mu} {p1 p2 p3 p4 p5 p6 p7 p8 p9 : Pos} {kk : Nat} (hxs : xs.length ≤ 1000) (hi : i ≤ xs.length)
    (h1 : skipN xs e i < xs.length → Φ (.next [r0, .list (xs.map .str), r2, .int (skipN xs e i : Nat), r4, r5, r6, .str e] μ)) (h2 : skipN xs e i = xs.length → Φ (.exc [r0, .list (xs.map .str), r2, .int (skipN xs e i : Nat), r4, r5, r6, .str e] μ (decide (A.handled = none)))) :
    Y1 w c F3 "IndexError" A [r0, .list (xs.map .str), r2, .int i, r4, r5, r6, .str e] μ (.While (.Compare (.Subscript (.Name "actual" p1) (.Name "j" p2) p3) [.Eq] [.Name "a" p4] p5) [.AugAssign (.Name "j" p6) .Add (.Constant (.int 1) kk p7) p8] [] p9) Φ := by
  refine Y1.while k (fun m σ μ' => ∃ q, q ≤ xs.length ∧ m = xs.length - q ∧ skipN xs e q = skipN xs e i ∧ σ = [r0, .list (xs.map .str), r2, .int q, r4, r5, r6, .str e] ∧ μ' = μ) (xs.length - i) ⟨i, hi, rfl, rfl, rfl, rfl⟩ ?_
  rintro m σ μ' ⟨q, hq, rfl, hs, rfl, rfl⟩
  cases hg : xs[q]? with
  | none =>
    have hql : xs.length ≤ q := List.getElem?_eq_none_iff.mp hg
    refine .inr ⟨Te.cmp (Ee.item (l := xs.map .str) (k := q) (Ev.nm (by rfl) rfl) (Ev.nm (by rfl) rfl) (by simp; omega) (by omega)), decide (A.handled = none), by simp, ?_⟩
    have e1 := skipN_end (e := e) hql
    have e2 : skipN xs e i = q := hs ▸ e1
    have := h2 (by omega)
    rwa [e2] at this
  | some x =>
    have hql : q < xs.length := by
      rcases Nat.lt_or_ge q xs.length with z | z
      · exact z
      · rw [List.getElem?_eq_none z] at hg; cases hg
    refine .inl ⟨x == e, Tr.cmp (Ev.item (o := .list (xs.map .str)) (r := .str x) (Ev.nm (by rfl) rfl) (Ev.nm (by rfl) rfl) (Is.list (by omega) (by simp [hg]) (by simp; omega))) (Ev.nm (by rfl) rfl) .eqS, fun hb => ?_, fun hb => ?_⟩
    · obtain rfl : x = e := by simpa using hb
      refine Ys.cons (Y1.of k (X1.aug (r' := .int ((q : Int) + 1)) (by rfl) (by decide +kernel) (by rfl) rfl (Em.of Ev.int) Ips.add ?_))
      refine Ys.nil ⟨xs.length - (q + 1), by omega, q + 1, by omega, rfl, ?_, rfl, rfl⟩
      rw [← skipN_hit hg, hs]
    · have e1 := skipN_miss (e := e) hg (by simpa using hb)
      have e2 : skipN xs e i = q := hs ▸ e1
      have := h1 (by omega)
      rwa [e2] at this
end
end
section
open PySem PySem.W PyProof.Rows PySem.Calls
set_option maxRecDepth 100000
set_option maxHeartbeats 1000000
noncomputable def sdGo (xs ys : List Str) : Nat → Nat → Nat → List Str → List Str → Option (List Str × List Str)
  | 0, _, _, _, _ => none
  | f + 1, i, j, M, U => match xs[i]?, ys[j]? with
    | some e, some a =>
      if ltS e a then sdGo xs ys f (skipN xs e (i + 1)) j (M ++ [e]) U
      else if ltS a e then sdGo xs ys f i (skipN ys a (j + 1)) M (U ++ [a])
      else sdGo xs ys f (skipN xs e (i + 1)) (skipN ys a (j + 1)) M U
    | _, _ => some (M ++ xs.drop i, U ++ ys.drop j)
theorem skipN_ge {l : List Str} {e : Str} {i : Nat} : i ≤ skipN l e i := Nat.le_add_right _ _
theorem sdGo_endI {xs ys : List Str} {f i j : Nat} {M U : List Str} {R : List Str × List Str} (h : sdGo xs ys f i j M U = some R) (hi : xs[i]? = none) : R = (M ++ xs.drop i, U ++ ys.drop j) := by
  cases f with
  | zero => cases h
  | succ f => rw [sdGo, hi] at h; exact (Option.some.inj h).symm
theorem sdGo_endJ {xs ys : List Str} {f i j : Nat} {M U : List Str} {R : List Str × List Str} (h : sdGo xs ys f i j M U = some R) (hj : ys[j]? = none) : R = (M ++ xs.drop i, U ++ ys.drop j) := by
  cases f with
  | zero => cases h
  | succ f =>
    rw [sdGo, hj] at h
    cases hx : xs[i]? with
    | none => rw [hx] at h; exact (Option.some.inj h).symm
    | some x => rw [hx] at h; exact (Option.some.inj h).symm
noncomputable def body3 : List Stmt := match fnBody 3 with | [_, _, _, Stmt.While _ b _ _, _] => b | _ => []
noncomputable def try3 : List Stmt := match body3 with | [.Try b _ _ _ _] => b | _ => []
noncomputable def hand3 : List Stmt := match body3 with | [.Try _ [.ExceptHandler _ _ b _] _ _ _] => b | _ => []
noncomputable def fin3 : List Stmt := match try3 with | [_, _, .If _ _ [.If _ _ [_, .Try _ _ _ f _] _] _] => f | _ => []
section
variable {w : World} {c : Cx} {A : Around}
/-- where the work stands -/
noncomputable def St3 (xs ys : List Str) (m u : Addr) (i j : Nat) (M U : List Str) (σ : List SV) (μ : Mu) : Prop :=
  (∃ re ra, σ = [.list (xs.map .str), .list (ys.map .str), .int i, .int j, .v (.ref m), .v (.ref u), re, ra]) ∧ μ = [(u, dts (U.map .str)), (m, dts (M.map .str))] ∧ i ≤ xs.length ∧ j ≤ ys.length ∧ M.length ≤ i ∧ U.length ≤ j
noncomputable def B3 (xs ys : List Str) (R : List Str × List Str) (m u : Addr) (f : Nat) : Yt → Prop
  | .next σ μ => ∃ i j M U, sdGo xs ys f i j M U = some R ∧ St3 xs ys m u i j M U σ μ
  | .exc σ μ cn => ∃ i j M U, R = (M ++ xs.drop i, U ++ ys.drop j) ∧ St3 xs ys m u i j M U σ μ
  | .brk _ _ => False
theorem try_part (k : Yk c F3 A) (hA : A.handled = none) {xs ys : List Str} {R : List Str × List Str} {m u : Addr} {i j f : Nat} {M U : List Str} {σ : List SV} {μ : Mu} (hx : xs.length ≤ 1000) (hy : ys.length ≤ 1000) (hg : sdGo xs ys (f + 1) i j M U = some R) (hs : St3 xs ys m u i j M U σ μ) :
    Ys w c F3 "IndexError" A σ μ try3 (B3 xs ys R m u f) := by
  obtain ⟨⟨re, ra, rfl⟩, rfl, hi, hj, hM, hU⟩ := hs
  cases hxi : xs[i]? with
  | none =>
    exact Ys.cons (Y1.assignOut k (cn := false) (Ee.item (l := xs.map .str) (k := i) (Ev.nm (by rfl) rfl) (Ev.nm (by rfl) rfl) (by have := List.getElem?_eq_none_iff.mp hxi; simp; omega) (by omega)) (fun z => nomatch z) ⟨i, j, M, U, sdGo_endI hg hxi, ⟨_, _, rfl⟩, rfl, hi, hj, hM, hU⟩)
  | some e =>
    refine Ys.cons (Y1.of k (X1.assign (r := .str e) (by rfl) (by decide +kernel) (Em.of (Ev.item (o := .list (xs.map .str)) (Ev.nm (by rfl) rfl) (Ev.nm (by rfl) rfl) (Is.list (by omega) (by simp [hxi]) (by simp; omega)))) ?_))
    simp only [List.set_cons_succ, List.set_cons_zero]
    cases hyj : ys[j]? with
    | none =>
      exact Ys.cons (Y1.assignOut k (cn := false) (Ee.item (l := ys.map .str) (k := j) (Ev.nm (by rfl) rfl) (Ev.nm (by rfl) rfl) (by have := List.getElem?_eq_none_iff.mp hyj; simp; omega) (by omega)) (fun z => nomatch z) ⟨i, j, M, U, sdGo_endJ hg hyj, ⟨_, _, rfl⟩, rfl, hi, hj, hM, hU⟩)
    | some a =>
      have hil : i < xs.length := (List.getElem?_eq_some_iff.mp hxi).1
      have hjl : j < ys.length := (List.getElem?_eq_some_iff.mp hyj).1
      rw [sdGo, hxi, hyj] at hg
      dsimp only at hg
      refine Ys.cons (Y1.of k (X1.assign (r := .str a) (by rfl) (by decide +kernel) (Em.of (Ev.item (o := .list (ys.map .str)) (Ev.nm (by rfl) rfl) (Ev.nm (by rfl) rfl) (Is.list (by omega) (by simp [hyj]) (by simp; omega)))) ?_))
      simp only [List.set_cons_succ, List.set_cons_zero]
      have sx := skipN_le (l := xs) (e := e) (i := i + 1) (by omega)
      have sy := skipN_le (l := ys) (e := a) (i := j + 1) (by omega)
      have gx := skipN_ge (l := xs) (e := e) (i := i + 1)
      have gy := skipN_ge (l := ys) (e := a) (i := j + 1)
      refine Ys.cons (Y1.ite k (b := ltS e a) (Tr.cmp (Ev.nm (by rfl) rfl) (Ev.nm (by rfl) rfl) .ltS) (fun hlt => ?_) (fun hlt => ?_))
      · rw [if_pos hlt] at hg
        refine Ys.cons (Y1.of k (X1.append (j := 1) (by rfl) (by rfl) (Em.of (Ev.nm (by rfl) rfl)) (by simp [dts]; omega) ?_))
        refine Ys.cons (Y1.of k (X1.aug (r' := .int ((i : Int) + 1)) (by rfl) (by decide +kernel) (by rfl) rfl (Em.of Ev.int) Ips.add ?_))
        simp only [List.set_cons_succ, List.set_cons_zero]
        have hμ : [(u, dts (U.map .str)), (m, dts (M.map .str) ++ [SV.str e])] = [(u, dts (U.map .str)), (m, dts ((M ++ [e]).map .str))] := by simp [dts]
        refine Ys.cons (skipI k (i := i + 1) hx (by omega) (fun _ => Ys.nil (Ys.nil ⟨_, j, M ++ [e], U, hg, ⟨_, _, rfl⟩, hμ, sx, hj, by simp; omega, hU⟩)) (fun heq => ⟨_, j, M ++ [e], U, sdGo_endI hg (List.getElem?_eq_none (by omega)), ⟨_, _, rfl⟩, hμ, sx, hj, by simp; omega, hU⟩))
      · rw [if_neg (by rw [hlt]; decide)] at hg
        refine Ys.cons (Y1.ite k (b := ltS a e) (Tr.cmp (Ev.nm (by rfl) rfl) (Ev.nm (by rfl) rfl) .gtS) (fun hgt => ?_) (fun hgt => ?_))
        · rw [if_pos hgt] at hg
          refine Ys.cons (Y1.of k (X1.append (j := 0) (by rfl) (by rfl) (Em.of (Ev.nm (by rfl) rfl)) (by simp [dts]; omega) ?_))
          refine Ys.cons (Y1.of k (X1.aug (r' := .int ((j : Int) + 1)) (by rfl) (by decide +kernel) (by rfl) rfl (Em.of Ev.int) Ips.add ?_))
          simp only [List.set_cons_succ, List.set_cons_zero]
          have hμ : [(u, dts (U.map .str) ++ [SV.str a]), (m, dts (M.map .str))] = [(u, dts ((U ++ [a]).map .str)), (m, dts (M.map .str))] := by simp [dts]
          refine Ys.cons (skipJ k (i := j + 1) hy (by omega) (fun _ => Ys.nil (Ys.nil (Ys.nil ⟨i, _, M, U ++ [a], hg, ⟨_, _, rfl⟩, hμ, hi, sy, hM, by simp; omega⟩))) (fun heq => ⟨i, _, M, U ++ [a], sdGo_endJ hg (List.getElem?_eq_none (by omega)), ⟨_, _, rfl⟩, hμ, hi, sy, hM, by simp; omega⟩))
        · rw [if_neg (by rw [hgt]; decide)] at hg
          refine Ys.cons (Y1.of k (X1.aug (r' := .int ((i : Int) + 1)) (by rfl) (by decide +kernel) (by rfl) rfl (Em.of Ev.int) Ips.add ?_))
          simp only [List.set_cons_succ, List.set_cons_zero]
          have fin : ∀ (A' : Around) (Φ : Yt → Prop), Yk c F3 A' → (∀ re ra, skipN ys a (j + 1) < ys.length → Φ (.next [.list (xs.map .str), .list (ys.map .str), .int (skipN xs e (i + 1) : Nat), .int (skipN ys a (j + 1) : Nat), .v (.ref m), .v (.ref u), re, ra] [(u, dts (U.map .str)), (m, dts (M.map .str))])) →
              (∀ re ra cn, skipN ys a (j + 1) = ys.length → Φ (.exc [.list (xs.map .str), .list (ys.map .str), .int (skipN xs e (i + 1) : Nat), .int (skipN ys a (j + 1) : Nat), .v (.ref m), .v (.ref u), re, ra] [(u, dts (U.map .str)), (m, dts (M.map .str))] cn)) →
              Ys w c F3 "IndexError" A' [.list (xs.map .str), .list (ys.map .str), .int (skipN xs e (i + 1) : Nat), .int j, .v (.ref m), .v (.ref u), .str e, .str a] [(u, dts (U.map .str)), (m, dts (M.map .str))] fin3 Φ := fun A' Φ k' f1 f2 => by
            refine Ys.cons (Y1.of k' (X1.aug (r' := .int ((j : Int) + 1)) (by rfl) (by decide +kernel) (by rfl) rfl (Em.of Ev.int) Ips.add ?_))
            simp only [List.set_cons_succ, List.set_cons_zero]
            exact Ys.cons (skipJ k' (i := j + 1) hy (by omega) (fun hl => Ys.nil (f1 _ _ hl)) (fun heq => f2 _ _ _ heq))
          have hexcI : skipN xs e (i + 1) = xs.length → R = (M ++ xs.drop (skipN xs e (i + 1)), U ++ ys.drop (skipN ys a (j + 1))) := fun heq => sdGo_endI hg (List.getElem?_eq_none (by omega))
          have hexcJ : skipN ys a (j + 1) = ys.length → R = (M ++ xs.drop (skipN xs e (i + 1)), U ++ ys.drop (skipN ys a (j + 1))) := fun heq => sdGo_endJ hg (List.getElem?_eq_none (by omega))
          refine Ys.cons (Y1.tryFin k hA (Φb := fun o => match o with
            | .next σ μ => σ = [.list (xs.map .str), .list (ys.map .str), .int (skipN xs e (i + 1) : Nat), .int j, .v (.ref m), .v (.ref u), .str e, .str a] ∧ μ = [(u, dts (U.map .str)), (m, dts (M.map .str))]
            | .exc σ μ cn => cn = true ∧ skipN xs e (i + 1) = xs.length ∧ σ = [.list (xs.map .str), .list (ys.map .str), .int (skipN xs e (i + 1) : Nat), .int j, .v (.ref m), .v (.ref u), .str e, .str a] ∧ μ = [(u, dts (U.map .str)), (m, dts (M.map .str))]
            | .brk _ _ => False) ?t1 ?t2 (fun _ _ h => h) ?t3)
          case t1 => exact Ys.cons (skipI k (i := i + 1) hx (by omega) (fun _ => Ys.nil ⟨rfl, rfl⟩) (fun heq => ⟨by simp [hA], heq, rfl, rfl⟩))
          case t2 =>
            rintro σ' μ' ⟨rfl, rfl⟩
            exact fin A _ k (fun re ra hl => Ys.nil (Ys.nil (Ys.nil ⟨_, _, M, U, hg, ⟨_, _, rfl⟩, rfl, sx, sy, by omega, by omega⟩))) (fun re ra cn heq => ⟨_, _, M, U, hexcJ heq, ⟨_, _, rfl⟩, rfl, sx, sy, by omega, by omega⟩)
          case t3 =>
            rintro σ' μ' cn ⟨rfl, hl, rfl, rfl⟩
            exact ⟨rfl, fun A' k' => fin A' _ k' (fun re ra _ => ⟨_, _, M, U, hexcI hl, ⟨_, _, rfl⟩, rfl, sx, sy, by omega, by omega⟩) (fun re ra cn heq => ⟨_, _, M, U, hexcI hl, ⟨_, _, rfl⟩, rfl, sx, sy, by omega, by omega⟩)⟩
end
end
section
open PySem PySem.W PyProof.Rows PySem.Calls
set_option maxRecDepth 100000
set_option maxHeartbeats 1000000
theorem pickL_from {α : Type} (l : List α) (i : Nat) (h : i ≤ l.length) : pickL l (some (i : Int)) Option.none = l.drop i := by
  unfold pickL
  have e : clipN (some (i : Int)) 0 l.length = i := by
    exact (clip_nat i _).trans (Nat.min_eq_left h)
  rw [e]
  show (l.drop i).take (l.length - i) = l.drop i
  rw [← List.length_drop, List.take_length]
section
variable {w : World} {c : Cx} {A : Around}
theorem hand_part {xs ys : List Str} {m u : Addr} {i j : Nat} {M U : List Str} {σ : List SV} {μ : Mu} {Φ : Yt → Prop} (hx : xs.length ≤ 1000) (hy : ys.length ≤ 1000) (hs : St3 xs ys m u i j M U σ μ) (hΦ : Φ (.brk σ [(u, dts ((U ++ ys.drop j).map .str)), (m, dts ((M ++ xs.drop i).map .str))])) :
    Xs w 0 F3 σ μ hand3 (YofOut Φ) := by
  obtain ⟨⟨re, ra, rfl⟩, rfl, hi, hj, hM, hU⟩ := hs
  have px : pickL (xs.map PyData.str) (some (i : Int)) Option.none = (xs.drop i).map .str := by rw [pickL_from _ _ (by simpa using hi), List.map_drop]
  have py : pickL (ys.map PyData.str) (some (j : Int)) Option.none = (ys.drop j).map .str := by rw [pickL_from _ _ (by simpa using hj), List.map_drop]
  refine Xs.cons (X1.extend (j := 1) (ds := (xs.drop i).map .str) (by rfl) (by rfl) (Em.of (px ▸ Ev.slice (Ev.nm (by rfl) rfl) (Pt.yes (Ev.nm (by rfl) rfl)) Pt.no (.list (by simp; omega)))) (by simp [dts]; omega) ?_)
  refine Xs.cons (X1.extend (j := 0) (ds := (ys.drop j).map .str) (by rfl) (by rfl) (Em.of (py ▸ Ev.slice (Ev.nm (by rfl) rfl) (Pt.yes (Ev.nm (by rfl) rfl)) Pt.no (.list (by simp; omega)))) (by simp [dts]; omega) ?_)
  refine Xs.cons (X1.brk ?_)
  show Φ (.brk _ _)
  have e : (([(u, dts (U.map .str)), (m, dts (M.map .str))] : Mu).set 1 (m, dts (M.map .str) ++ dts ((xs.drop i).map .str))).set 0 (u, dts (U.map .str) ++ dts ((ys.drop j).map .str)) = [(u, dts ((U ++ ys.drop j).map .str)), (m, dts ((M ++ xs.drop i).map .str))] := by simp [dts]
  exact e ▸ hΦ
theorem loop3 (k : Yk c F3 A) (hA : A.handled = none) {xs ys : List Str} {R : List Str × List Str} {m u : Addr} {f : Nat} {re ra : SV} {pos : Pos} {kk : Nat} {p : Pos} (hx : xs.length ≤ 1000) (hy : ys.length ≤ 1000) (hg : sdGo xs ys f 0 0 [] [] = some R) :
    Y1 w c F3 "IndexError" A [.list (xs.map .str), .list (ys.map .str), .int 0, .int 0, .v (.ref m), .v (.ref u), re, ra] [(u, []), (m, [])] (.While (.Constant (.bool true) kk p) body3 [] pos)
      (fun o => ∃ r2 r3 re ra, o = .next [.list (xs.map .str), .list (ys.map .str), r2, r3, .v (.ref m), .v (.ref u), re, ra] [(u, dts (R.2.map .str)), (m, dts (R.1.map .str))]) := by
  refine Y1.while k (fun f σ μ => ∃ i j M U, sdGo xs ys f i j M U = some R ∧ St3 xs ys m u i j M U σ μ) f ⟨0, 0, [], [], hg, ⟨_, _, rfl⟩, rfl, Nat.zero_le _, Nat.zero_le _, Nat.zero_le _, Nat.zero_le _⟩ ?_
  rintro f σ μ ⟨i, j, M, U, hg, hs⟩
  cases f with
  | zero => cases hg
  | succ f =>
    refine .inl ⟨true, Tr.plain Ev.bool Ts.bool, fun _ => ?_, fun z => nomatch z⟩
    refine Ys.cons (Y1.tryExc k hA (T := "IndexError") (try_part k hA hx hy hg hs) (fun σ' μ' h => ?_) (fun _ _ h => h.elim) (fun σ' μ' cn h => ?_) (by decide +kernel) (by rfl) (by decide +kernel) PySem.F.isExc_IndexError PySem.F.notTuple_IndexError PySem.F.self_IndexError)
    · exact Ys.nil ⟨f, Nat.lt_succ_self f, h⟩
    · obtain ⟨i', j', M', U', rfl, hs'⟩ := h
      obtain ⟨⟨re', ra', rfl⟩, _⟩ := id hs'
      exact hand_part hx hy hs' ⟨_, _, _, _, rfl⟩
end
end
section
open PySem PySem.W PyProof.Rows PySem.Calls
set_option maxRecDepth 100000
set_option maxHeartbeats 1000000
section
variable {w : World} {c : Cx} {F : Fd} {X : String} {A : Around} {σ : List SV} {μ : Mu} {Φ : Yt → Prop} {s : Shared} {G : GH}
theorem At.freeze (a : At c F σ μ s G) (k : c.Ok F) (i j : Nat) {b : Addr} {ds : List PyData} (hi : σ[i]? = some (.v (.ref b))) (hj : μ[j]? = some (b, dts ds)) : ∃ G', At c F (σ.set i (.d (.list ds))) (μ.eraseIdx j) s G' ∧ G.Le G' := by
  obtain ⟨o, h1, h2, h3, T', O', fr⟩ := a.st.put a.ow hi hj
  exact ⟨_, a.frm k T' O' fr, fr.le⟩
theorem Y1.go {st : Stmt} {rest : List Stmt} {Q : Flow → Shared → Prop} {E : Value → Shared → Prop} (h : Y1 w c F X A σ μ st Φ) (a : At c F σ μ s G) (hc : Hc c X A s G) (hΦ : ∀ o, Φ o → ∃ σ' μ', o = .next σ' μ')
    (q : ∀ σ' μ' s' G', Φ (.next σ' μ') → At c F σ' μ' s' G' → wpAny (model prog w) A (execs rest c.env) Q E s') : wpAny (model prog w) A (execs (st :: rest) c.env) Q E s :=
  wpAny_execs_cons (h.run s G _ _ a hc ⟨fun σ' μ' s' G' hh a' _ => q _ _ _ _ hh a', fun σ' μ' s' G' hh a' _ => (by obtain ⟨_, _, z⟩ := hΦ _ hh; cases z), fun σ' μ' cn s' G' e hh a' _ => (by obtain ⟨_, _, z⟩ := hΦ _ hh; cases z)⟩)
theorem run3 (k : Yk c F3 A) (hA : A.handled = none) {xs ys : List Str} {R : List Str × List Str} {f : Nat} {Q : Flow → Shared → Prop} {E : Value → Shared → Prop} (hx : xs.length ≤ 1000) (hy : ys.length ≤ 1000) (hg : sdGo xs ys f 0 0 [] [] = some R) (hr1 : R.1.length ≤ 1000000) (hr2 : R.2.length ≤ 1000000)
    (a : At c F3 [.list (xs.map .str), .list (ys.map .str), .u, .u, .u, .u, .u, .u] [] s G) (q : ∀ σ' v s' G', At c F3 σ' [] s' G' → Rv G' (.d (.tuple [.list (R.1.map .str), .list (R.2.map .str)])) v → Q (.ret v) s') : wpAny (model prog w) A (execs (fnBody 3) c.env) Q E s := by
  refine Y1.go (X := "IndexError") (Φ := (· = .next [.list (xs.map .str), .list (ys.map .str), .int 0, .int 0, .u, .u, .u, .u] [])) (Y1.of k (X1.assign2 (i := 2) (j := 3) (r := .int 0) (by rfl) (by decide +kernel) (by rfl) (by decide +kernel) (Em.of Ev.int) (by exact rfl))) a (.inl hA) (fun o h => ⟨_, _, h⟩) ?_
  rintro σ' μ' s1 G1 h1 a1
  cases h1
  refine Y1.go (X := "IndexError") (Φ := fun o => ∃ m, o = .next [.list (xs.map .str), .list (ys.map .str), .int 0, .int 0, .v (.ref m), .u, .u, .u] [(m, [])]) (Y1.of k (X1.newList (by rfl) (by decide +kernel) fun m => ⟨m, rfl⟩)) a1 (.inl hA) (fun o ⟨m, h⟩ => ⟨_, _, h⟩) ?_
  rintro σ' μ' s2 G2 ⟨m, h2⟩ a2
  cases h2
  refine Y1.go (X := "IndexError") (Φ := fun o => ∃ u, o = .next [.list (xs.map .str), .list (ys.map .str), .int 0, .int 0, .v (.ref m), .v (.ref u), .u, .u] [(u, []), (m, [])]) (Y1.of k (X1.newList (by rfl) (by decide +kernel) fun u => ⟨u, rfl⟩)) a2 (.inl hA) (fun o ⟨m, h⟩ => ⟨_, _, h⟩) ?_
  rintro σ' μ' s3 G3 ⟨u, h3⟩ a3
  cases h3
  refine Y1.go (loop3 k hA hx hy hg) a3 (.inl hA) (fun o ⟨_, _, _, _, h⟩ => ⟨_, _, h⟩) ?_
  rintro σ' μ' s4 G4 ⟨r2, r3, re, ra, h4⟩ a4
  cases h4
  obtain ⟨G5, a5, _⟩ := a4.freeze k.ok 5 0 (ds := R.2.map .str) rfl rfl
  obtain ⟨G6, a6, _⟩ := a5.freeze k.ok 4 0 (ds := R.1.map .str) rfl rfl
  refine wpAny_execs_cons (wpAny_Return_some ((Ev.tp (w := w) (n := 0) (F := F3) (σ := [.list (xs.map .str), .list (ys.map .str), r2, r3, .list (R.1.map .str), .list (R.2.map .str), re, ra]) (.cons (Ev.nm (by rfl) rfl) (.cons (Ev.nm (by rfl) rfl) .nil rfl) rfl)).run c.env A s4 G6 _ E k.ok.I k.room a6.st.grow.bare a6.st.rel fun v s7 G7 g7 r7 => ?_))
  exact q _ v s7 G7 (a6.step k.ok g7) r7
end
end
section
open PySem PySem.W PyProof.Rows PySem.Calls
set_option maxRecDepth 100000
set_option maxHeartbeats 1000000
section
variable {w : World} {n : Nat} {F : Fd}
/-- a def's call, as far as its first statement -/
theorem call_start {a : Addr} {P : List Str} {body : List Stmt} {rs : List SV} {k : Nat} {A : Around} {s : Shared} {G : GH} {vs : List Value} {Q E : Value → Shared → Prop} (hd : ∀ h, Wd h → DefAt F a P body h k [] fun vs _ => vs) (hP : F.vars.take k = P) (hl : rs.length = k) (hPl : P.length = k) (ok : F.ok = true) (pl : F.plain k = true) (hfl : F.fl ≤ s.toks)
    (hdep : A.depth < 1000) (B : Bare s G) (W : Wd s.heap) (kG : G.In s.heap) (hr : RvA G rs vs)
    (q : ∀ (env : Env) (s₁ : Shared), EnvIs F env → Fresh s env → env.frame = some env.locals → env.locals = s.heap.objs.size → env.cells = cellsFrom (s.heap.objs.size + 1) F.sc.names [] → St s G F (rs ++ List.replicate (F.vars.length - k) .u) env s₁ G →
      wpAny (model prog w) (A.deeper env) (execs body env) (fun f s' => Q (match f with | .ret v => v | _ => .none) s') (fun _ _ => False) s₁) : wpAny (model prog w) A (call (.ref a) vs) Q E s := by
  simp only [Fd.plain, Bool.and_eq_true, beq_iff_eq, List.all_eq_true, bne_iff_ne, ne_eq, decide_eq_true_eq, Bool.or_eq_true, Bool.not_eq_true', beq_eq_false_iff_ne] at pl
  obtain ⟨⟨⟨⟨⟨hco, hgen⟩, hfree⟩, hcells⟩, hkl⟩, hnd⟩ := pl
  obtain ⟨o, fd, ho, hdat, hcd, hbody, hclo, hsc, hgl, hbl, hco19, hbind⟩ := (hd _ W).at_
  have hbind0 := hbind s vs [] rfl (by rw [← hr.length, hl]) rfl
  have hvl : vs.length = k := by rw [← hr.length, hl]
  have hlen : F.vars.length = F.kinds.length := Fd.ok_len ok
  have hlim : s.heap.NoLimit := let ⟨g, Bs, kk⟩ := W.base; Bs.nolimit.keeps fun p o e => (kk p o e).2.2
  have hkf : F.sc.kind = .function := by
    unfold Fd.ok at ok
    simp only [Bool.and_eq_true, beq_iff_eq] at ok
    exact ok.1.1.1
  have hPn : P.Nodup := by rw [← hP]; exact (Fd.ok_nodup ok).sublist (List.take_sublist _ _)
  have hkeys : (P.zip vs).map (·.1) = P := by rw [List.map_fst_zip]; omega
  have hmemP : ∀ x ∈ P, ∃ kk, F.sc.names.lookup x = some kk ∧ (kk = .local ∨ kk = .cell) := fun x hx => by
    rw [← hP] at hx
    obtain ⟨i, hi, e⟩ := List.getElem_of_mem (List.mem_of_mem_take hx)
    have hxi : F.vars[i]? = some x := by rw [← e]; exact List.getElem?_eq_getElem hi
    have hki : F.kinds[i]? = some (F.kinds[i]'(by omega)) := List.getElem?_eq_getElem _
    obtain ⟨z1, z2, _⟩ := Fd.ok_at ok hxi hki
    refine ⟨_, z1, ?_⟩
    rcases z2 with z | z | z
    · exact .inl z
    · exact .inr z
    · exact absurd z (hfree _ (List.getElem_mem _))
  refine wpAny_call (call_bound (fd := fd) ⟨hdep, ⟨_, ho, hdat⟩, hlim, hcd, hbody, hclo, by rw [hsc]; exact ⟨⟨hco, hgen⟩, hkf⟩⟩ hbind0 ?_ ?_)
  · intro x hx
    unfold Kept
    rw [hsc]
    have hxP : x.1 ∈ P := by rw [← hkeys]; exact List.mem_map_of_mem hx
    obtain ⟨kk, z1, z2⟩ := hmemP x.1 hxP
    rcases z2 with rfl | rfl
    · exact .inl z1
    · refine .inr ⟨z1, ?_⟩
      rw [cellsFrom_isSome _ _ 0 [] [] rfl]
      have hv : x.1 ∈ F.vars := by rw [← hP] at hxP; exact List.mem_of_mem_take hxP
      rcases hcells _ hv with z | z
      · exact absurd z1 z
      · exact z
  · intro s₁ X hle
    obtain ⟨h₁, tk, rfl⟩ := X.toInCall.same
    have hle : s.toks ≤ tk := hle
    let env := callEnvC fd s.heap.objs.size a
    have hns := X.toInCall.ns
    have hkp := X.toInCall.keep
    have hkind : ∀ x, env.kindOf x = F.sc.names.lookup x := fun x => by show fd.scope.names.lookup x = _; rw [hsc]
    have hL : env.locals = s.heap.objs.size := rfl
    have habove : ∀ p ∈ env.cells, s.heap.objs.size ≤ p.2 := fun p hp => Nat.le_of_lt (X.above p.1 p.2 hp)
    have I : EnvIs F env := ⟨ok, hsc, by show fd.scope.kind = _; rw [hsc]; exact hkf, hgl, hbl, W.size, X.apart, fun p hp => Nat.le_trans W.size (habove p hp), hco19⟩
    have hsz : s.heap.objs.size ≤ h₁.objs.size := Nat.le_of_lt (hns.lt)
    have W₁ : Wd h₁ := W.keeps hkp hsz
    have g₁ : Grow s G { s with heap := h₁, toks := tk } G := ⟨rfl, B.up hle, .of hkp, W₁, fun b o e => hkp _ _ (kG b o e), .refl _, fun _ _ e => .inl e, hsz, hle⟩
    have T : St s G F (rs ++ List.replicate (F.vars.length - k) .u) env { s with heap := h₁, toks := tk } G := by
      refine ⟨g₁, ⟨W₁, g₁.sub, _, hns, Slots.of hlen (by simp only [List.length_append, List.length_replicate]; omega) fun i kk x r' e1 e2 e3 => ?_⟩, hfl, kG.none (Nat.le_refl _), fun p hp => ⟨kG.none (habove p hp), Nat.ne_of_gt (Nat.lt_of_lt_of_le (by decide) (Nat.le_trans W.size (habove p hp))), ?_⟩⟩
      rotate_left
      · have hin : ∀ nm c, (nm, c) ∈ env.cells → ∃ o, h₁.get? c = some o := fun nm c hm => by
          have hl : (cellsFrom (s.heap.objs.size + 1) fd.scope.names []).lookup nm = some c := by
            have hm : (nm, c) ∈ cellsFrom (s.heap.objs.size + 1) fd.scope.names [] := hm
            rw [hsc] at hm ⊢
            exact lookup_of_mem_nodup (cellsFrom_names F.sc.names 0 (s.heap.objs.size + 1) [] [] rfl ▸ hnd) hm
          exact (X.cell nm c hl).imp fun _ z => z.1
        exact hin p.1 p.2 hp
      obtain ⟨z1, z2, _⟩ := Fd.ok_at ok e2 e1
      have hxv : x ∈ F.vars := List.mem_of_getElem? e2
      have hcell : kk ≠ .local → ∃ c, env.cells.lookup x = some c := fun q => by
        have zc : F.sc.names.lookup x = some .cell := by
          rcases z2 with z | z | z
          · exact absurd z q
          · rw [z1, z]
          · exact absurd z (hfree _ (List.mem_of_getElem? e1))
        have : (env.cells.lookup x).isSome = true := by
          show ((cellsFrom (s.heap.objs.size + 1) fd.scope.names []).lookup x).isSome = true
          rw [hsc, cellsFrom_isSome _ _ 0 [] [] rfl]
          rcases hcells _ hxv with z | z
          · exact absurd zc z
          · exact z
        exact Option.isSome_iff_exists.mp this
      by_cases hik : i < k
      · have hr' : rs[i]? = some r' := by rwa [List.getElem?_append_left (by omega)] at e3
        obtain ⟨v, hv, hrv⟩ := hr.get hr'
        have hPx : P[i]? = some x := by rw [← hP, List.getElem?_take_of_lt hik]; exact e2
        have hin : (x, v) ∈ P.zip vs := List.mem_of_getElem? (i := i) (by simp [List.getElem?_zip_eq_some, hPx, hv])
        unfold Slot
        by_cases q : kk = .local
        · rw [if_pos q]
          exact .inr ⟨v, bindL_in (by show env.kindOf x = _; rw [hkind, z1, q]) (by rw [hkeys]; exact hPn) hin, hrv⟩
        · rw [if_neg q]
          obtain ⟨c, hc⟩ := hcell q
          exact ⟨c, _, hc, X.cell x c hc, .inr ⟨v, bindC_in (by show env.kindOf x ≠ _; rw [hkind, z1]; simpa using q) (by rw [hkeys]; exact hPn) hin, hrv⟩⟩
      · have hu : r' = .u := by
          rw [List.getElem?_append_right (by omega)] at e3
          exact (List.eq_of_mem_replicate (List.mem_of_getElem? e3))
        subst hu
        unfold Slot
        by_cases q : kk = .local
        · rw [if_pos q]; exact .inl rfl
        · rw [if_neg q]
          obtain ⟨c, hc⟩ := hcell q
          exact ⟨c, _, hc, X.cell x c hc, .inl rfl⟩
    have Fr : Fresh s env := ⟨Nat.le_refl _, habove⟩
    refine wpAny_mono (q env _ I Fr rfl rfl (by show cellsFrom (s.heap.objs.size + 1) fd.scope.names [] = _; rw [hsc]) T) (fun _ _ x => x) (fun _ _ x => x.elim)
end
end
section
open PySem PySem.W PyProof.Rows PySem.Calls
set_option maxRecDepth 100000
set_option maxHeartbeats 1000000
theorem Slots.keepCell {env : Env} {h h' : Heap} {G G' : GH} {m : Str → Option Value} (le : G.Le G') (hc : ∀ p ∈ env.cells, ∀ v, h.IsCell p.2 v → h'.IsCell p.2 v) : ∀ {ks : List NameKind} {xs : List Str} {rs : List SV}, Slots env h G m ks xs rs → Slots env h' G' m ks xs rs
  | [], [], [], _ => trivial
  | k :: ks, y :: xs, r :: rs, ⟨a, b⟩ => by
    refine ⟨?_, Slots.keepCell le hc b⟩
    unfold Slot at a ⊢
    by_cases q : k = .local
    · rw [if_pos q] at a ⊢; exact a.imp id fun ⟨v, e, f⟩ => ⟨v, e, f.ext le⟩
    · rw [if_neg q] at a ⊢
      obtain ⟨c', v₀', e, f, g⟩ := a
      exact ⟨c', v₀', e, hc _ (mem_of_lookup e) _ f, g.imp id fun ⟨v, e, f⟩ => ⟨v, e, f.ext le⟩⟩
  | [], [], _ :: _, z => z.elim
  | [], _ :: _, _, z => by cases z
  | _ :: _, [], _, z => by cases z
  | _ :: _, _ :: _, [], z => z.elim
section
variable {w : World} {n : Nat} {F Fl : Fd}
/-- a call out of a frame that the call's own frames stand on -/
theorem call_on {le : Env} {A : Around} {s₀ s : Shared} {G₀ G : GH} {σl : List SV} {μ : Mu} {a : Addr} {P : List Str} {body : List Stmt} {rs : List SV} {r : SV} {k : Nat} {vs : List Value} {Q E : Value → Shared → Prop} (Il : EnvIs Fl le) (Frl : Fresh s₀ le) (T : St s₀ G₀ Fl σl le s G) (O : Own s₀ le s.heap G μ) (lf : le.frame = some le.locals) (hfr : A.frames = some [le]) (hA : A.handled = none) (Ro : Room 1 A) (w0 : Wd s₀.heap) (hcl : ∀ p ∈ le.cells, ∃ v, s.heap.IsCell p.2 v)
    (hd : ∀ h, Wd h → DefAt F a P body h k [] fun vs _ => vs) (hP : F.vars.take k = P) (hl : rs.length = k) (hPl : P.length = k) (ok : F.ok = true) (pl : F.plain k = true) (hfl : F.fl = 0) (hcf : ∀ n, cellsFrom n F.sc.names [] = []) (hr : RvA G rs vs)
    (h : ∀ (c : Cx) (A' : Around) (s₁ : Shared) (Q' : Flow → Shared → Prop) (E' : Value → Shared → Prop), Yk c F A' → A'.handled = none → At c F (rs ++ List.replicate (F.vars.length - k) .u) μ s₁ G →
      (∀ σ' v s' G', At c F σ' [] s' G' → Rv G' r v → Q' (.ret v) s') → wpAny (model prog w) A' (execs body c.env) Q' E' s₁)
    (q : ∀ v s' G', St s₀ G₀ Fl σl le s' G' → G.Le G' → Rv G' r v → (∀ p ∈ le.cells, ∃ v, s'.heap.IsCell p.2 v) → Q v s') : wpAny (model prog w) A (call (.ref a) vs) Q E s := by
  refine call_start hd hP hl hPl ok pl (by rw [hfl]; exact Nat.zero_le _) (by have := Ro.depth; omega) T.grow.bare T.grow.wd T.grow.sub hr fun env s₁ I Fr ef hL hce T₁ => ?_
  obtain ⟨m, N, S⟩ := T.rel.slots
  have hN := N.lt
  obtain ⟨oL, es, ep, eL, dL, rL⟩ := id N
  have hcl0 : env.cells = [] := hce.trans (hcf _)
  let c : Cx := ⟨s₀, G₀, env, le, s.heap, le.locals :: le.cells.map (·.2), G⟩
  have hLs : s.heap.objs.size ≤ env.locals := by rw [hL]; exact Nat.le_refl _
  have hOk : c.Ok F := by
    refine ⟨I, ⟨Nat.le_trans T.grow.size hLs, fun p hp => ?_⟩, hcl0, ef, lf, by rw [Il.fn]; decide, w0, Frl.L, List.mem_cons_self, fun b hb => ?_⟩
    · have : p ∈ env.cells := hp
      rw [hcl0] at this; cases this
    · rcases List.mem_cons.mp hb with rfl | hb
      · exact ⟨Nat.ne_of_lt (Nat.lt_of_lt_of_le hN hLs), Nat.ne_of_gt (Nat.lt_of_lt_of_le (by decide) Il.low), oL, eL, .inl ⟨es, ep, dL⟩⟩
      · obtain ⟨p, hp, rfl⟩ := List.mem_map.mp hb
        obtain ⟨v, oc, ec, dc⟩ := hcl p hp
        exact ⟨Nat.ne_of_lt (Nat.lt_of_lt_of_le (Heap.lt_size ec) hLs), (T.pC p hp).2.1, oc, ec, .inr ⟨v, dc⟩⟩
  have hAt : At c F (rs ++ List.replicate (F.vars.length - k) .u) μ s₁ G := by
    refine ⟨⟨T.grow.trans T₁.grow, T₁.rel, by rw [hfl]; exact Nat.zero_le _, T₁.pL, T₁.pC⟩, ⟨O.nd, fun p hp => ?_⟩, fun b hb => ?_, .refl _⟩
    · obtain ⟨z1, z2, z3, ⟨ys, ⟨nn, z4⟩, z5⟩, z6, z7⟩ := O.at_ p hp
      refine ⟨z1, z2, z3, ⟨ys, ⟨nn, T₁.grow.keep _ _ (Nat.ne_of_gt (Nat.lt_of_lt_of_le (by decide) z3)) z4⟩, z5⟩, ?_, fun p hp => ?_⟩
      · exact Nat.ne_of_gt (Nat.lt_of_lt_of_le (Heap.lt_size z4) hLs)
      · have : p ∈ env.cells := hp
        rw [hcl0] at this; cases this
    · rcases List.mem_cons.mp hb with rfl | hb
      · exact ⟨T.pL, oL, oL.slots, eL, T₁.grow.keep _ _ (Nat.ne_of_gt (Nat.lt_of_lt_of_le (by decide) Il.low)) eL⟩
      · obtain ⟨p, hp, rfl⟩ := List.mem_map.mp hb
        obtain ⟨v, oc, ec, dc⟩ := hcl p hp
        exact ⟨(T.pC p hp).1, oc, oc.slots, ec, T₁.grow.keep _ _ (T.pC p hp).2.1 ec⟩
  have hYk : Yk c F (A.deeper env) := ⟨hOk, ⟨fun z => absurd rfl z, by have := Ro.depth; show A.depth + 1 + 0 < 1000; omega, by have := Ro.units; show A.units + 3 + 20 * 0 + 500 < 9900; omega⟩, by show A.frames.map _ = _; rw [hfr]; rfl⟩
  refine h c (A.deeper env) s₁ _ _ hYk hA hAt fun σ' v s' G' a' rv => ?_
  have cellUp : ∀ p ∈ le.cells, ∀ v, s.heap.IsCell p.2 v → s'.heap.IsCell p.2 v := fun p hp v ⟨oc, ec, dc⟩ => by
    obtain ⟨_, o, sl, e1, e2⟩ := a'.kp p.2 (List.mem_cons_of_mem _ (List.mem_map_of_mem (f := (·.2)) hp))
    have e1 : s.heap.get? p.2 = some o := e1
    rw [ec] at e1; cases e1
    exact ⟨_, e2, dc⟩
  refine q v s' G' ⟨a'.st.grow, ⟨a'.st.grow.wd, a'.st.grow.sub, m, ?_, Slots.keepCell a'.le cellUp S⟩, T.fl, (a'.kp _ List.mem_cons_self).1, fun p hp => ?_⟩ a'.le rv fun p hp => ?_
  · obtain ⟨_, o, sl, e1, e2⟩ := a'.kp le.locals List.mem_cons_self
    have e1 : s.heap.get? le.locals = some o := e1
    rw [eL] at e1; cases e1
    exact ⟨_, es, ep, e2, dL, rL⟩
  · obtain ⟨z, o, sl, e1, e2⟩ := a'.kp p.2 (List.mem_cons_of_mem _ (List.mem_map_of_mem (f := (·.2)) hp))
    exact ⟨z, (T.pC p hp).2.1, _, e2⟩
  · obtain ⟨v, hv⟩ := hcl p hp
    exact ⟨v, cellUp p hp v hv⟩
end
end
section
open PySem PySem.W PyProof.Rows PySem.Calls
set_option maxRecDepth 100000
set_option maxHeartbeats 1000000
theorem RvA.unsnoc {G : GH} : ∀ {rs : List SV} {r : SV} {vs : List Value}, RvA G (rs ++ [r]) vs → ∃ vs' v, vs = vs' ++ [v] ∧ RvA G rs vs' ∧ Rv G r v
  | [], r, [v], ⟨h, _⟩ => ⟨[], v, rfl, trivial, h⟩
  | [], r, _ :: _ :: _, ⟨_, h⟩ => h.elim
  | [], r, [], h => h.elim
  | _ :: rs, r, v :: vs, ⟨a, b⟩ => by
    obtain ⟨vs', u, rfl, c, d⟩ := RvA.unsnoc b
    exact ⟨v :: vs', u, rfl, ⟨a, c⟩, d⟩
  | _ :: _, _, [], h => h.elim
theorem RvA.erase {G : GH} : ∀ {rs : List SV} {vs : List Value} (j : Nat), RvA G rs vs → RvA G (rs.eraseIdx j) (vs.eraseIdx j)
  | [], [], _, h => h
  | _ :: _, _ :: _, 0, ⟨_, b⟩ => b
  | _ :: _, _ :: _, j + 1, ⟨a, b⟩ => ⟨a, RvA.erase j b⟩
  | [], _ :: _, _, h => h.elim
  | _ :: _, [], _, h => h.elim
theorem erased (xs : Array Value) (j : Nat) : (xs.eraseIdxIfInBounds j).toList = xs.toList.eraseIdx j := by
  unfold Array.eraseIdxIfInBounds
  split
  · simp
  · rw [List.eraseIdx_of_length_le (by simpa using (by omega : xs.size ≤ j))]
section
variable {w : World} {n : Nat} {F : Fd} {σ : List SV} {μ : Mu} {Φ : Out → Prop}
theorem X1.popTo {i : Nat} {x y : Str} {a : Addr} {rs : List SV} {r : SV} (j : Nat) {p yp apos cpos pos : Pos} (hx : ixOf x F.vars = some i) (hk : storable x F.vars F.kinds = true) (hy : lookSV y F.vars F.kinds σ = some (.v (.ref a))) (hj : μ[j]? = some (a, rs ++ [r])) (hlen : rs.length ≤ 1000000) (hΦ : Φ (.next (σ.set i r) (μ.set j (a, rs))))
    (hline : (apos.endLine == cpos.line) = true := by rfl) (hs : ∀ env : Env, EnvIs F env → swapsWith (.Call (.Attribute (.Name y yp) "pop" apos) [] [] cpos) (some (.Name x p)) pos.line env = pure false := by intro _ _; rfl) :
    X1 w n F σ μ (.Assign [.Name x p] (.Call (.Attribute (.Name y yp) "pop" apos) [] [] cpos) pos) Φ := .mk fun s₀ G₀ env A s G Q E I Fr Ro T O q => by
  refine wpAny_Assign_Name ?_ (hs env I)
  refine wpAny_Call_method (by rfl) (by rfl) hline PySem.F.plainAttrs_list PySem.F.slot_list_pop PySem.F.type_list_pop ?_
  refine (Ev.nm hy rfl).run env A s G _ E I Ro T.grow.bare T.rel fun v s1 G1 g1 r1 => ?_
  cases r1
  have T1 := T.step g1
  have O1 := O.grow g1
  obtain ⟨ys, p1, ra⟩ := (O1.at_ _ (List.mem_of_getElem? hj)).pl
  obtain ⟨k, e⟩ := id p1
  refine ⟨TypeIs.plain p1, fun b q => (by cases q; exact ⟨_, e, rfl⟩), ?_⟩
  obtain ⟨vs', v, hv, rv', rv⟩ := ra.unsnoc
  have hz : ys.size = vs'.length + 1 := by rw [← Array.length_toList, hv]; simp
  have hzr : vs'.length = rs.length := by have := rv'.length; omega
  have hlast : ys[ys.size - 1]? = some v := by
    rw [← Array.getElem?_toList, hv, hz]; simp
  refine PySem.P.pop_list e hlast ?_ (by rw [sizeLine_eq]; omega)
  have hu := Heap.get?_update_self (Obj.mapSeq fun xs => xs.eraseIdxIfInBounds (ys.size - 1)) e rfl
  have sb : Heap.SameBut a s1.heap (s1.heap.update a (Obj.mapSeq fun xs => xs.eraseIdxIfInBounds (ys.size - 1))) := Heap.SameBut.update ..
  have hel : (ys.eraseIdxIfInBounds (ys.size - 1)).toList = vs' := by
    rw [erased, hv, hz]
    rw [show vs'.length + 1 - 1 = vs'.length by omega, List.eraseIdx_append_of_length_le (Nat.le_refl _)]
    simp
  obtain ⟨T3, O3, f3⟩ := T1.mut O1 hj sb (ys' := ys.eraseIdxIfInBounds (ys.size - 1)) ⟨_, hu⟩ (rs' := rs) (by rw [hel]; exact rv') s1.toks
  exact T3.storeN I Fr O3 hx hk rv fun s4 T4 O4 f4 => q (.next _ _) _ _ hΦ ⟨rfl, _, T4, O4, ((Frm.grow g1).trans f3).trans (f4 _)⟩
theorem wpAny_hszE {α : Type} {M : Model} {A : Around} {s : Shared} {t : Sem α} {Q : α → Shared → Prop} {E : Value → Shared → Prop}
    (h : wpAny M A t Q (fun e s' => s.heap.objs.size ≤ s'.heap.objs.size ∧ s.toks ≤ s'.toks → E e s') s) : wpAny M A t Q E s := by
  have h1 : wpAny M A t Q (fun e s' => s.heap.objs.size ≤ s'.heap.objs.size → E e s') s :=
    fun Γ p hΓ => Sem.wp_mono M Γ t (fun _ _ _ x => x.2) (fun _ _ _ x z => x.2 ⟨z, x.1⟩) _ _ (Sem.wp_toks M Γ _ t _ _ p s (Nat.le_refl _) (h Γ p hΓ))
  exact fun Γ p hΓ => Sem.wp_mono M Γ t (fun _ _ _ x => x.2) (fun _ _ _ x => x.2 x.1) _ _ (wp_hsz M Γ _ t _ _ p s (Nat.le_refl _) (h1 Γ p hΓ))
end
end
section
open PySem PySem.W PyProof.Rows PySem.Calls
set_option maxRecDepth 100000
set_option maxHeartbeats 1000000
theorem isStrAt {vs : List Value} {ys : List Str} (h : StrsAre vs ys) {j : Nat} {v : Value} (e : vs[j]? = some v) (x : Str) : isStrOf x v = ((ys.getD j "") == x) := by
  obtain ⟨t, hv, hi⟩ := strsAre_get h e
  subst hv; rfl
theorem map_erase {α β : Type} (f : α → β) : ∀ (l : List α) (i : Nat), (l.map f).eraseIdx i = (l.eraseIdx i).map f
  | [], _ => rfl
  | _ :: _, 0 => rfl
  | a :: l, i + 1 => by rw [List.map_cons, List.eraseIdx_cons_succ, map_erase f l i, List.eraseIdx_cons_succ, List.map_cons]
theorem idx_hit {ys : List Str} {x : Str} (h : x ∈ ys) : ys.getD (ys.idxOf x) "" = x := by
  rw [List.getD_eq_getElem?_getD, List.getElem?_eq_getElem (List.idxOf_lt_length_of_mem h)]
  simp
section
variable {w : World} {n : Nat} {F : Fd} {σ : List SV} {μ : Mu} {Φ : Out → Prop}
theorem X1.remove {y : Str} {e : Expr} {a : Addr} {ys : List Str} {x : Str} (j : Nat) {yp apos cpos pos : Pos} (hy : lookSV y F.vars F.kinds σ = some (.v (.ref a))) (hj : μ[j]? = some (a, dts (ys.map .str))) (h : Ev w n F σ e (.str x)) (hm : x ∈ ys) (hlen : ys.length ≤ 1000000) (hΦ : Φ (.next σ (μ.set j (a, dts ((ys.erase x).map .str)))))
    (h0 : notStar e = true := by rfl) (hline : (apos.endLine == cpos.line) = true := by rfl) : X1 w n F σ μ (.Expr (.Call (.Attribute (.Name y yp) "remove" apos) [e] [] cpos) pos) Φ := .mk fun s₀ G₀ env A s G Q E I Fr Ro T O q => by
  refine wpAny_Expr ?_ I.inter rfl
  refine wpAny_Call_method (by rfl) ?_ hline PySem.F.plainAttrs_list PySem.F.slot_list_remove PySem.F.type_list_remove ?_
  · rw [backTo_few (by simp [h0])]; rfl
  refine (Ev.nm hy rfl).run env A s G _ E I Ro T.grow.bare T.rel fun v s1 G1 g1 r1 => ?_
  cases r1
  have T1 := T.step g1
  have O1 := O.grow g1
  obtain ⟨zs, p1, _⟩ := (O1.at_ _ (List.mem_of_getElem? hj)).pl
  refine ⟨TypeIs.plain p1, fun b q => (by cases q; obtain ⟨k, e⟩ := p1; exact ⟨_, e, rfl⟩), ?_⟩
  refine callWith_of_args (.inl ⟨_, rfl⟩) (starEach_any (by simp [h0])) (evalArgs_es (by simp [h0]) ?_)
  rw [starEach_cons h0]
  refine spliced_cons (h.run env A s1 G1 _ E I Ro T1.grow.bare T1.rel fun v s2 G2 g2 r2 => spliced_nil ⟨g2.wd, ?_⟩)
  have T2 := T1.step g2
  have O2 := O1.grow g2
  obtain ⟨t, rfl⟩ := Rd.str_inv r2
  obtain ⟨us, p2, ra2⟩ := (O2.at_ _ (List.mem_of_getElem? hj)).pl
  obtain ⟨k2, p2'⟩ := id p2
  have hS := RdA.strs (RvA.data ra2)
  have hz : us.size = ys.length := by have := ra2.length; simp [dts] at this; omega
  have hji : ys.idxOf x < us.size := by rw [hz]; exact List.idxOf_lt_length_of_mem hm
  have hat : ∀ (m : Nat) (hm : m < us.size), isStrOf x us[m] = (ys.getD m "" == x) := fun m hm => isStrAt hS (by rw [Array.getElem?_toList]; exact Array.getElem?_eq_getElem hm) x
  refine call_meets PySem.F.slot_list_remove (TypeIs.plain p2) PySem.F.entry_list_remove (PySem.F.args_list_remove_2 _ _) (MeetsSeq.list_remove a us k2 (.str x t) (isStrOf x) (fun y hy => eq_isStrOf x t hS y (by simpa using hy)) (ys.idxOf x) hji ?_ (fun m hm hlt => ?_) (by rw [sizeLine_eq]; omega)) ⟨p2', ?_⟩
  · rw [hat _ hji, idx_hit hm]; simp
  · rw [hat _ hm]
    have hml : m < ys.length := by omega
    have := List.not_of_lt_findIdx (xs := ys) (p := (· == x)) (i := m) hlt
    rw [List.getD_eq_getElem?_getD, List.getElem?_eq_getElem hml]
    simpa using this
  · have hu := Heap.get?_update_self (Obj.mapSeq fun xs => xs.eraseIdxIfInBounds (ys.idxOf x)) p2' rfl
    have sb : Heap.SameBut a s2.heap (s2.heap.update a (Obj.mapSeq fun xs => xs.eraseIdxIfInBounds (ys.idxOf x))) := Heap.SameBut.update ..
    obtain ⟨T3, O3, f3⟩ := T2.mut O2 hj sb (ys' := us.eraseIdxIfInBounds (ys.idxOf x)) ⟨_, hu⟩ (rs' := dts ((ys.erase x).map .str)) (by
      rw [erased, List.erase_eq_eraseIdx_of_idxOf rfl]
      have := RvA.erase (ys.idxOf x) ra2
      have e : (dts (ys.map .str)).eraseIdx (ys.idxOf x) = dts ((ys.eraseIdx (ys.idxOf x)).map .str) := by
        unfold dts; rw [map_erase, map_erase]
      rwa [e] at this) s2.toks
    exact q (.next _ _) _ _ hΦ ⟨rfl, _, T3, O3, ((Frm.grow g1).trans (Frm.grow g2)).trans f3⟩
variable {c : Cx} {A : Around} {X : String} {Ψ : Yt → Prop}
theorem Y1.removeOut (k : Yk c F A) (hA : A.handled = none) {y : Str} {e : Expr} {a : Addr} {ys : List Str} {x : Str} (j : Nat) {yp apos cpos pos : Pos} (hy : lookSV y F.vars F.kinds σ = some (.v (.ref a))) (hj : μ[j]? = some (a, dts (ys.map .str))) (h : Ev w 0 F σ e (.str x)) (hm : x ∉ ys) (hlen : ys.length ≤ 1000000) (hΦ : Ψ (.exc σ μ true))
    (h0 : notStar e = true := by rfl) (hline : (apos.endLine == cpos.line) = true := by rfl) : Y1 w c F "ValueError" A σ μ (.Expr (.Call (.Attribute (.Name y yp) "remove" apos) [e] [] cpos) pos) Ψ := .mk fun s G Q E at0 hc q => by
  have I := k.ok.I
  have T := at0.st
  have O := at0.ow
  refine wpAny_Expr ?_ I.inter rfl
  refine wpAny_Call_method (by rfl) ?_ hline PySem.F.plainAttrs_list PySem.F.slot_list_remove PySem.F.type_list_remove ?_
  · rw [backTo_few (by simp [h0])]; rfl
  refine (Ev.nm hy rfl).run c.env A s G _ E I k.room T.grow.bare T.rel fun v s1 G1 g1 r1 => ?_
  cases r1
  have T1 := T.step g1
  have O1 := O.grow g1
  obtain ⟨zs, p1, _⟩ := (O1.at_ _ (List.mem_of_getElem? hj)).pl
  refine ⟨TypeIs.plain p1, fun b q => (by cases q; obtain ⟨k, e⟩ := p1; exact ⟨_, e, rfl⟩), ?_⟩
  refine callWith_of_args (.inl ⟨_, rfl⟩) (starEach_any (by simp [h0])) (evalArgs_es (by simp [h0]) ?_)
  rw [starEach_cons h0]
  refine spliced_cons (h.run c.env A s1 G1 _ E I k.room T1.grow.bare T1.rel fun v s2 G2 g2 r2 => spliced_nil ⟨g2.wd, ?_⟩)
  have T2 := T1.step g2
  have O2 := O1.grow g2
  obtain ⟨t, rfl⟩ := Rd.str_inv r2
  obtain ⟨us, p2, ra2⟩ := (O2.at_ _ (List.mem_of_getElem? hj)).pl
  obtain ⟨k2, p2'⟩ := id p2
  have hS := RdA.strs (RvA.data ra2)
  have hz : us.size = ys.length := by have := ra2.length; simp [dts] at this; omega
  refine wpAny_hszE (call_meets PySem.F.slot_list_remove (TypeIs.plain p2) PySem.F.entry_list_remove (PySem.F.args_list_remove_2 _ _) (MeetsSeq.list_remove_none a us k2 (.str x t) (isStrOf x) (fun y hy => eq_isStrOf x t hS y (by simpa using hy)) (fun m hm' => ?_)) ⟨p2', hA, fun h' tk e nx hle => ?_⟩)
  · rw [isStrAt hS (by rw [Array.getElem?_toList]; exact Array.getElem?_eq_getElem hm') x]
    have hml : m < ys.length := by omega
    rw [List.getD_eq_getElem?_getD, List.getElem?_eq_getElem hml]
    refine beq_eq_false_iff_ne.mpr fun z => hm ?_
    have z : ys[m] = x := z
    exact z ▸ List.getElem_mem hml
  · obtain ⟨ob, tt, e1, e2, e3⟩ := nx.there
    obtain ⟨a', x'⟩ := ((at0.step k.ok g1).step k.ok g2).newX (X := "ValueError") (cn := true) k.ok (p := True) ⟨nx.keeps, nx.new, ⟨ob, tt, _, e1, e2, e3, fun _ => rfl⟩, hle.1⟩ (fun _ => trivial) hle.2
    exact q.ex _ _ _ _ _ _ hΦ a' (.inl x')
theorem Y1.whileT (k : Yk c F A) {test : Expr} {body : List Stmt} {pos : Pos} (Inv : Nat → List SV → Mu → Prop) (k₀ : Nat) (h0 : Inv k₀ σ μ)
    (turn : ∀ n σ μ, Inv n σ μ → ∃ b, Tm w 0 F σ μ test b ∧ (b = true → Ys w c F X A σ μ body (YLoop Ψ fun σ' μ' => ∃ m, m < n ∧ Inv m σ' μ')) ∧ (b = false → Ψ (.next σ μ))) : Y1 w c F X A σ μ (.While test body [] pos) Ψ := .mk fun s G Q E a hc q => by
  refine wpAny_While (codeAny_whileLoop (fun n s' => ∃ σ' μ' G', Inv n σ' μ' ∧ At c F σ' μ' s' G' ∧ Hc c X A s' G') ?_ k₀ ⟨σ, μ, G, h0, a, hc⟩)
  rintro n s' ⟨σ', μ', G', hI, a', hc'⟩
  obtain ⟨b, ht, h1, h2⟩ := turn n σ' μ' hI
  refine ht.run c.s₀ c.G₀ c.env A s' G' _ _ k.ok.I k.room a'.st a'.ow fun s1 G1 g1 => ?_
  have a1 := a'.step k.ok g1
  have hc1 := hc'.step a' k.ok g1
  cases b with
  | true =>
    rw [if_pos rfl]
    refine (h1 rfl).run s1 G1 _ _ a1 hc1 ⟨fun σ2 μ2 s2 G2 hΦ a2 hc2 => ?_, fun σ2 μ2 s2 G2 hΦ a2 hc2 => ?_, fun σ2 μ2 cn s2 G2 e hΦ a2 x2 => ?_⟩
    · obtain ⟨m, hm, hI2⟩ := hΦ
      exact ⟨m, hm, σ2, μ2, G2, hI2, a2, hc2⟩
    · exact q.nx _ _ _ _ hΦ a2 hc2
    · exact came a2 k.ok k.fr x2 fun h' a3 x3 => q.ex _ _ _ _ _ _ hΦ a3 x3
  | false =>
    rw [if_neg (by simp)]
    exact wpAny_execs_nil (q.nx _ _ _ _ (h2 rfl) a1 hc1)
end
end
section
open PySem PySem.W PyProof.Rows PySem.Calls
set_option maxRecDepth 100000
set_option maxHeartbeats 1000000
noncomputable def F4 : Fd := fdOf 4 ["expected", "actual", "missing", "item"]
theorem F4_ok : F4.ok = true := by decide +kernel
theorem F4_plain : F4.plain 2 = true := by decide +kernel
noncomputable def uo : List Str → List Str → List Str → List Str × List Str
  | [], M, A => (M, A)
  | x :: r, M, A => if x ∈ A then uo r M (A.erase x) else uo r (M ++ [x]) A
section
variable {w : World} {c : Cx} {A : Around} {s : Shared} {G : GH}
theorem run4 (k : Yk c F4 A) (hA : A.handled = none) {es as : List Str} {ea aa : Addr} {Q : Flow → Shared → Prop} {E : Value → Shared → Prop} (he : es.length ≤ 1000) (ha : as.length ≤ 1000)
    (a : At c F4 [.v (.ref ea), .v (.ref aa), .u, .u] [(ea, dts (es.map .str)), (aa, dts (as.map .str))] s G) (q : ∀ σ' v s' G', At c F4 σ' [] s' G' → Rv G' (.d (.tuple [.list ((uo es.reverse [] as).1.map .str), .list ((uo es.reverse [] as).2.map .str)])) v → Q (.ret v) s') : wpAny (model prog w) A (execs (fnBody 4) c.env) Q E s := by
  refine Y1.go (X := "ValueError") (Φ := fun o => ∃ m, o = .next [.v (.ref ea), .v (.ref aa), .v (.ref m), .u] [(m, []), (ea, dts (es.map .str)), (aa, dts (as.map .str))]) (Y1.of k (X1.newList (by rfl) (by decide +kernel) fun m => ⟨m, rfl⟩)) a (.inl hA) (fun o ⟨m, h⟩ => ⟨_, _, h⟩) ?_
  rintro σ' μ' s1 G1 ⟨m, h1⟩ a1
  cases h1
  generalize hR : uo es.reverse [] as = R at q
  refine Y1.go (X := "ValueError") (Φ := fun o => ∃ ri, o = .next [.v (.ref ea), .v (.ref aa), .v (.ref m), ri] [(m, dts (R.1.map .str)), (ea, dts (([] : List Str).map .str)), (aa, dts (R.2.map .str))]) ?w1 a1 (.inl hA) (fun o ⟨_, h⟩ => ⟨_, _, h⟩) ?w2
  case w1 =>
    have hl0 : ([] : List Str).length + es.reverse.length ≤ 1000 := by simp; omega
    have hm0 : [(m, ([] : List SV)), (ea, dts (es.map .str)), (aa, dts (as.map .str))] = [(m, dts (([] : List Str).map .str)), (ea, dts (es.reverse.reverse.map .str)), (aa, dts (as.map .str))] := by rw [List.reverse_reverse]; rfl
    refine Y1.whileT k (fun n σ μ => ∃ r M B ri, n = r.length ∧ uo r M B = R ∧ M.length + r.length ≤ 1000 ∧ B.length ≤ 1000 ∧ σ = [.v (.ref ea), .v (.ref aa), .v (.ref m), ri] ∧ μ = [(m, dts (M.map .str)), (ea, dts (r.reverse.map .str)), (aa, dts (B.map .str))]) es.reverse.length ⟨es.reverse, [], as, _, rfl, hR, hl0, ha, rfl, hm0⟩ ?_
    rintro n σ μ ⟨r, M, B, ri, rfl, hg, hM, hB, rfl, rfl⟩
    cases r with
    | nil =>
      have : R = (M, B) := hg.symm
      subst this
      exact ⟨false, Tm.see 0 1 (a := ea) (ds := ([] : List PyData)) (by rfl) (by rfl) (Tm.of (Tr.eq (Tr.plain (w := w) (n := 0) (a := .list []) (Ev.nm (by rfl) rfl) (Ts.list (Nat.zero_le _))) rfl)), (fun z => nomatch z), fun _ => ⟨_, rfl⟩⟩
    | cons x r =>
      have hrev : ((x :: r).reverse.map PyData.str) = r.reverse.map .str ++ [.str x] := by simp
      refine ⟨true, Tm.see 0 1 (a := ea) (ds := (x :: r).reverse.map .str) (by rfl) (by rfl) (Tm.of (Tr.eq (Tr.plain (Ev.nm (by rfl) rfl) (Ts.list (by simp at hM ⊢; omega))) (by simp))), fun _ => ?_, fun z => nomatch z⟩
      have hdt : dts ((x :: r).reverse.map .str) = dts (r.reverse.map .str) ++ [.str x] := by rw [hrev]; simp [dts]
      rw [hdt]
      refine Ys.cons (Y1.of k (X1.popTo (j := 1) (r := .str x) (by rfl) (by decide +kernel) (by rfl) (by rfl) (by simp [dts] at hM ⊢; omega) ?_))
      simp only [List.set_cons_succ, List.set_cons_zero]
      rw [uo] at hg
      refine Ys.cons (Y1.tryExc k hA (x := "ValueError") (T := "ValueError") (Φb := fun o => match o with
        | .next σ μ => x ∈ B ∧ σ = [.v (.ref ea), .v (.ref aa), .v (.ref m), .str x] ∧ μ = [(m, dts (M.map .str)), (ea, dts (r.reverse.map .str)), (aa, dts ((B.erase x).map .str))]
        | .exc σ μ cn => x ∉ B ∧ σ = [.v (.ref ea), .v (.ref aa), .v (.ref m), .str x] ∧ μ = [(m, dts (M.map .str)), (ea, dts (r.reverse.map .str)), (aa, dts (B.map .str))]
        | .brk _ _ => False) ?t1 ?t2 (fun _ _ h => h.elim) ?t3 (by decide +kernel) (by rfl) (by decide +kernel) PySem.F.isExc_ValueError PySem.F.notTuple_ValueError PySem.F.self_ValueError)
      case t1 =>
        by_cases hm : x ∈ B
        · exact Ys.cons (Y1.of k (X1.remove (j := 2) (by rfl) (by rfl) (Ev.nm (by rfl) rfl) hm (by omega) (Ys.nil ⟨hm, rfl, rfl⟩)))
        · exact Ys.cons (Y1.removeOut k hA (j := 2) (by rfl) (by rfl) (Ev.nm (by rfl) rfl) hm (by omega) ⟨hm, rfl, rfl⟩)
      case t2 =>
        rintro σ' μ' ⟨hm, rfl, rfl⟩
        rw [if_pos hm] at hg
        exact Ys.nil ⟨r.length, by simp, r, M, B.erase x, _, rfl, hg, by simp at hM; omega, Nat.le_trans (List.length_erase_le ..) hB, rfl, rfl⟩
      case t3 =>
        rintro σ' μ' cn ⟨hm, rfl, rfl⟩
        rw [if_neg hm] at hg
        refine Xs.cons (X1.append (j := 0) (by rfl) (by rfl) (Em.of (Ev.nm (by rfl) rfl)) (by simp [dts] at hM ⊢; omega) ?_)
        refine Xs.nil ?_
        exact Ys.nil ⟨r.length, by simp, r, M ++ [x], B, _, rfl, hg, by simp at hM ⊢; omega, hB, rfl, by simp [dts]⟩
  rintro σ' μ' s4 G4 ⟨ri, h4⟩ a4
  cases h4
  obtain ⟨G5, a5, _⟩ := a4.freeze k.ok 2 0 (ds := R.1.map .str) rfl rfl
  obtain ⟨G6, a6, _⟩ := a5.freeze k.ok 1 1 (ds := R.2.map .str) rfl rfl
  obtain ⟨G7, a7, _⟩ := a6.freeze k.ok 0 0 (ds := ([] : List Str).map .str) rfl rfl
  refine wpAny_execs_cons (wpAny_Return_some ((Ev.tp (w := w) (n := 0) (F := F4) (σ := [.list (([] : List Str).map .str), .list (R.2.map .str), .list (R.1.map .str), ri]) (.cons (Ev.nm (by rfl) rfl) (.cons (Ev.nm (by rfl) rfl) .nil rfl) rfl)).run c.env A s4 G7 _ E k.ok.I k.room a7.st.grow.bare a7.st.rel fun v s8 G8 g8 r8 => ?_))
  exact q _ v s8 G8 (a7.step k.ok g8) r8
end
end
section
open PySem PySem.W PyProof.Rows PySem.Calls
set_option maxRecDepth 100000
set_option maxHeartbeats 1000000
section
variable {w : World} {A : Around} {E : Value → Shared → Prop} {s : Shared}
theorem unpackItems_list2 {t : Addr} {items : Array Value} {a b : Value} {Q : List Value → Shared → Prop} (hh : A.handled = none) (ht : s.heap.IsList t items) (hi : items.toList = [a, b])
    (hQ : ∀ h', (∀ b o, s.heap.get? b = some o → h'.get? b = some o) → Q [a, b] { s with heap := h' }) : wpAny (model prog w) A (unpackItems (.ref t) 2 none) Q E s := by
  have hlt : t ≠ s.heap.objs.size := by obtain ⟨o, ho, _⟩ := ht; exact Nat.ne_of_lt (Heap.lt_size ho)
  have e0 : items[0]? = some a := by rw [← Array.getElem?_toList, hi]; rfl
  have e1 : items[1]? = some b := by rw [← Array.getElem?_toList, hi]; rfl
  have e2 : items[2]? = none := by rw [← Array.getElem?_toList, hi]; rfl
  have up : ∀ {h h' : Heap}, Heap.SameBut s.heap.objs.size h h' → (∀ b o, s.heap.get? b = some o → h.get? b = some o) → ∀ b o, s.heap.get? b = some o → h'.get? b = some o := fun sb k b o e => (sb.2 b (Nat.ne_of_lt (Heap.lt_size e))).trans (k b o e)
  unfold unpackItems
  refine wpAny_bind ?_
  unfold notIterableAtAll
  refine wpAny_bind (wpAny_specialOf ht.typeIs slot_list_iter.lookup ?_)
  refine wpAny_pure ?_
  simp only [Bool.false_eq_true, if_false]
  refine wpAny_bind (wpAny_holding (wpAny_pyIter_list ht ?_))
  have it0 : (s.heap.push { cls := .type "list_iterator", data := .fields #[.ref t, .int 0 0] }).IsListIter s.heap.objs.size t 0 := ⟨_, Heap.get?_push_size _ rfl, rfl, rfl⟩
  have L0 : (s.heap.push { cls := .type "list_iterator", data := .fields #[.ref t, .int 0 0] }).IsList t items := by
    obtain ⟨o, ho, r⟩ := ht
    exact ⟨o, Heap.get?_push_of_some _ ho, r⟩
  refine wpAny_bind (wpAny_holding ?_)
  show wpAny _ _ (pyNext (.ref s.heap.objs.size) >>= _) _ _ _
  refine wpAny_bind (wpAny_pyNext_list_item it0 L0 e0 fun h1 it1 sb1 => ?_)
  have L1 : h1.IsList t items := L0.extBut sb1.extBut hlt
  refine wpAny_bind (wpAny_holding ?_)
  show wpAny _ _ (pyNext (.ref s.heap.objs.size) >>= _) _ _ _
  refine wpAny_bind (wpAny_pyNext_list_item it1 L1 e1 fun h2 it2 sb2 => ?_)
  have L2 : h2.IsList t items := L1.extBut sb2.extBut hlt
  refine wpAny_bind (wpAny_holding (wpAny_pure (wpAny_pure (wpAny_pure ?_))))
  rw [if_neg (show ¬ ([a, b].length < 2) from fun z => Nat.lt_irrefl 2 z)]
  refine wpAny_bind (wpAny_holding (wpAny_pyNext_list_end hh it2 L2 e2 fun h3 hx3 => ?_))
  simp only [Option.isSome_none, Bool.false_eq_true, if_false]
  refine wpAny_pure (hQ h3 fun b o e => hx3 b o (Nat.ne_of_lt (Heap.lt_size e)) (up sb2 (up sb1 fun b o e => Heap.get?_push_of_some _ e) b o e))
end
section
variable {w : World} {n : Nat} {F : Fd} {σ : List SV} {μ : Mu} {Φ : Out → Prop}
/-- x, y = e, e a list of two -/
theorem X1.pairL {i j : Nat} {x y : Str} {p1 p2 tp pos : Pos} {kk : Nat} {e : Expr} {a b : PyData} (hx : ixOf x F.vars = some i) (hk : storable x F.vars F.kinds = true) (hy : ixOf y F.vars = some j) (hk2 : storable y F.vars F.kinds = true) (h : Em w (n + 1) F σ μ e (.list [a, b])) (hΦ : Φ (.next ((σ.set i (.d a)).set j (.d b)) μ))
    (hs : ∀ env, swapsWithSole [.Tuple [.Name x p1, .Name y p2] kk tp] e pos.line env = pure false := by intro _; rfl) (hw : ∀ env, swappedStores [.Tuple [.Name x p1, .Name y p2] kk tp] e env = pure none := by intro _; rfl) :
    X1 w (n + 1) F σ μ (.Assign [.Tuple [.Name x p1, .Name y p2] kk tp] e pos) Φ := .mk fun s₀ G₀ env A s G Q E I Fr Ro T O q => by
  refine wpAny_Assign_stores (h.run s₀ G₀ env A s G _ E I Ro T O fun v s1 G1 g1 r1 => ?_) (hs env) (hw env)
  have T1 := T.step g1
  have O1 := O.grow g1
  obtain ⟨t, items, rfl, L, _, ra⟩ := Rd.list_inv g1.sub r1
  obtain ⟨u1, u2, e⟩ : ∃ u1 u2, items.toList = [u1, u2] := by
    match h : items.toList, ra.length with
    | [u1, u2], _ => exact ⟨u1, u2, rfl⟩
  rw [e] at ra
  obtain ⟨r1, r2⟩ := ra.uncons
  obtain ⟨r2, _⟩ := r2.uncons
  show wpAny _ _ (PySem.assign (.Tuple [.Name x p1, .Name y p2] kk tp) env (.ref t)) _ _ _
  rw [PyProof.Rows.assign_Tuple]
  refine wpAny_bind (wpAny_standAt ?_)
  unfold unpack
  refine wpAny_bind (wpAny_holding (unpackItems_list2 (Ro.hd (by omega)) L e fun h' hk' => ?_))
  obtain ⟨T2, O2, f2⟩ := T1.side O1 I Fr (h' := h') s1.toks (fun b o e => hk' b o e)
  refine assignInOrder_cons (wpAny_assign_Name (T2.storeN I Fr O2 hx hk (r := .d a) r1 fun s3 T3 O3 f3 => ?_))
  refine assignInOrder_cons (wpAny_assign_Name (T3.storeN I Fr O3 hy hk2 (r := .d b) r2 fun s4 T4 O4 f4 => ?_))
  exact assignInOrder_nil (q (.next _ _) _ _ hΦ ⟨rfl, _, T4, O4, (Frm.grow g1).trans ((f2 _).trans ((f3 _).trans (f4 _)))⟩)
end
end
section
open PySem PySem.W PyProof.Rows PySem.Calls
set_option maxRecDepth 100000
set_option maxHeartbeats 1000000
noncomputable def F31 : Fd := fdOf 31 ["script", "x", "beginning", "folders", "taken", "first", "second", "said"]
theorem F31_ok : F31.ok = true := by decide +kernel
theorem F31_plain : F31.plain 1 = true := by decide +kernel
noncomputable def x0 (ns : List Int) : Int := match ns with | [] => 5 | a :: _ => a
noncomputable def begB (ns : List Int) : List Int := octI (x0 ns / 4) (x0 ns % 4).toNat
noncomputable def fold1 (ns : List Int) : List (List Int) := inF 1 (scrIn ns)
noncomputable def fold2 (ns : List Int) : List (List Int) := inF 0 (scrIn ns)
noncomputable def begins (B o : List Int) : Bool := pickL o Option.none (some (B.length : Int)) == B
noncomputable def unO : PyData → List Int
  | .list l => l.map fun d => match d with | .int i => i | _ => 0
  | _ => []
noncomputable def unL : PyData → List (List Int)
  | .list l => l.map unO
  | _ => []
theorem unO_oct (o : List Int) : unO (oct o) = o := by
  show (o.map PyData.int).map _ = o
  rw [List.map_map]
  exact List.map_id'' (fun _ => rfl) o
theorem unL_octs (f : List (List Int)) : unL (.list (f.map oct)) = f := by
  show (f.map oct).map unO = f
  rw [List.map_map]
  exact List.map_id'' (fun o => unO_oct o) f
theorem octI_ok (x : Int) (k : Nat) (hk : k ≤ 10) : OctOk (octI x k) := by
  refine ⟨by unfold octI; simpa using hk, fun i hi => ?_⟩
  unfold octI at hi
  obtain ⟨j, _, rfl⟩ := List.mem_map.mp hi
  rcases mod4 (x / 4 ^ j) with h | h | h | h <;> rw [h] <;> decide
theorem inF_ok (t : Int) (xs : List Int) : ∀ o ∈ inF t xs, OctOk o := fun o ho => by
  unfold inF at ho
  obtain ⟨x, _, rfl⟩ := List.mem_map.mp ho
  exact octI_ok _ _ (by omega)
theorem scrIn_len (ns : List Int) : (scrIn ns).length ≤ 17 := by
  unfold scrIn
  rw [List.length_append]
  have : (pickL ns (some 1) (some 11)).length ≤ 10 := by
    unfold pickL
    rw [show clipN (some 1) 0 ns.length = min 1 ns.length from clip_nat 1 _, show clipN (some 11) ns.length ns.length = min 11 ns.length from clip_nat 11 _, List.length_take]
    exact Nat.le_trans (Nat.min_le_left _ _) (by omega)
  exact Nat.add_le_add this (Nat.le_refl 7)
theorem inF_len (t : Int) (ns : List Int) : (inF t (scrIn ns)).length ≤ 17 := by
  unfold inF
  rw [List.length_map]
  exact Nat.le_trans (List.length_filter_le _ _) (scrIn_len ns)
section
variable {w : World} {n : Nat} {μ : Mu}
theorem st1 {ns : List Int} (hl : ns.length ≤ 63) {pos : Pos} : X1 w n F31 [.list (ns.map .int), .u, .u, .u, .u, .u, .u, .u] μ ((fnBody 31).getD 0 (.Pass pos)) (· = .next [.list (ns.map .int), .int (x0 ns), .u, .u, .u, .u, .u, .u] μ) := by
  refine X1.assign (r := .int (x0 ns)) (by rfl) (by decide +kernel) (Em.of (Ev.item (Ev.bin (Ev.slice (Ev.nm (by rfl) rfl) Pt.no (Pt.yes Ev.int) (.list (by simp; omega))) (Ev.ls (.cons .int .nil rfl)) (Bs.catL ?a1)) Ev.int (Is.list (by decide) ?a2 ?a3))) rfl
  case a1 =>
    have := pickL_len_le (ns.map PyData.int) Option.none (some 1)
    simp at this ⊢; omega
  case a2 =>
    cases ns with
    | nil => rfl
    | cons a r =>
      have e : pickL ((a :: r).map PyData.int) Option.none (some 1) = [.int a] := by
        unfold pickL clipN
        simp
        rw [show (max 0 (min 1 ((r.length : Int) + 1))).toNat = 1 by rw [Int.min_eq_left (by omega)]; rfl]
        rfl
      rw [e]; rfl
  case a3 =>
    have := pickL_len_le (ns.map PyData.int) Option.none (some 1)
    simp at this ⊢; omega
theorem st2 {ns : List Int} {r0 : SV} {pos : Pos} : X1 w (n + 2) F31 [r0, .int (x0 ns), .u, .u, .u, .u, .u, .u] μ ((fnBody 31).getD 1 (.Pass pos)) (· = .next [r0, .int (x0 ns), .d (oct (begB ns)), .u, .u, .u, .u, .u] μ) := by
  have hm : (((x0 ns % 4).toNat : Nat) : Int) = x0 ns % 4 := Int.toNat_of_nonneg (Int.emod_nonneg _ (by decide))
  have hc := cs22 (w := w) (n := n) (x := x0 ns / 4) (size := (x0 ns % 4).toNat) (by omega)
  rw [hm, octs_I] at hc
  exact X1.assign (r := .d (oct (begB ns))) (by rfl) (by decide +kernel) (Em.of (Ev.call (rs := [.int (x0 ns / 4), .int (x0 ns % 4)]) (f := .ref 125) (Ev.glob (by decide +kernel) (by rfl) (by decide +kernel)) (.cons (Ev.bin (Ev.nm (by rfl) rfl) .int (.fdiv (by decide) (by decide))) (.cons (Ev.bin (Ev.nm (by rfl) rfl) .int (.mod (by decide))) .nil)) hc (Callee.fn (i := 22) (by decide +kernel)))) rfl
noncomputable def folds (ns : List Int) : List PyData := [.list ((fold1 ns).map oct), .list ((fold2 ns).map oct)]
theorem st3 {ns : List Int} (hl : ns.length ≤ 63) {r1 r2 : SV} {pos : Pos} : X1 w (n + 3) F31 [.list (ns.map .int), r1, r2, .u, .u, .u, .u, .u] μ ((fnBody 31).getD 2 (.Pass pos)) (· = .next [.list (ns.map .int), r1, r2, .list (folds ns), .u, .u, .u, .u] μ) :=
  X1.assign (r := .list (folds ns)) (by rfl) (by decide +kernel) (Em.of (Ev.call (rs := [.list (ns.map .int)]) (f := .ref 137) (Ev.glob (by decide +kernel) (by rfl) (by decide +kernel)) (.cons (Ev.nm (by rfl) rfl) .nil) (cs24 hl) (Callee.fn (i := 24) (by decide +kernel)))) rfl
/-- what the pattern of a beginning is good for -/
structure PatB (B : List Int) (sets : List Str) : Prop where
  ok : ∃ tks, PatOk (pat B) tks ∧ (∀ x ∈ tks.map Tk.part, SetOk x) ∧ (Txt.join "" (tks.map Tk.part)).length ≤ 100000 ∧ (PyData.str (joinS (tks.map Tk.part))).canLay0 = true ∧ (tks.map Tk.part).map setFn = sets
  bl : B.length ≤ 3
  br : ∀ i ∈ B, 0 ≤ i ∧ i < 256
noncomputable def takenL (sets : List Str) (d : PyData) : List Str := ((unL d).map nameS).filter (takenP sets)
theorem name_len {o : List Int} (ho : OctOk o) : (nameS o).length ≤ 1000 := by
  obtain ⟨h1, h2⟩ := ho
  obtain ⟨h3, _⟩ := b64E_ok o
  unfold nameS
  rw [show ∀ l, Txt.join "" l = Str.join "" l from PySem.StrLaws.glued_eq_join ""]
  have h5 := PySem.StrLaws.join_length_le "" ((b64E o).map fun i => (⟨#[i.toNat]⟩ : Str))
  have e0 : ("" : Str).length = 0 := by decide
  have h6 : ∀ l : List Int, ((l.map fun i => (⟨#[i.toNat]⟩ : Str)).map (·.length)).sum = l.length := by
    intro l
    induction l with
    | nil => rfl
    | cons a l ih =>
      simp only [List.map_cons, List.sum_cons, List.length_cons]
      rw [ih]
      show 1 + l.length = l.length + 1
      omega
  rw [h6, e0] at h5
  simp at h5
  omega
theorem st4 {ns : List Int} {sets : List Str} (hB : PatB (begB ns) sets) {r0 r1 : SV} {pos : Pos} : X1 w (n + 5) F31 [r0, r1, .d (oct (begB ns)), .list (folds ns), .u, .u, .u, .u] μ ((fnBody 31).getD 3 (.Pass pos)) (· = .next [r0, r1, .d (oct (begB ns)), .list (folds ns), .list ((folds ns).map fun d => .list ((takenL sets d).map .str)), .u, .u, .u] μ) := by
  obtain ⟨tks, t1, t2, t3, t4, t5⟩ := hB.ok
  refine X1.assignComp (out := (folds ns).map fun d => .list ((takenL sets d).map .str)) (Lc.of [.d (oct (begB ns))] (folds ns) (fun _ => true) (fun d => .list ((takenL sets d).map .str)) (by rfl) (by decide +kernel) (Nat.le_refl _) (Ei.list (Ev.nm (by rfl) rfl)) (by unfold folds; simp) (fun _ _ => .nil) ?a1 ?a2) (by rfl) (by decide +kernel) rfl (swaps_comp (by decide +kernel) (by rfl) (by decide +kernel))
  case a2 => rw [List.filter_eq_self.mpr (fun _ _ => rfl)]
  case a1 =>
    intro d hd _
    obtain ⟨f, rfl, hf, hfl⟩ : ∃ f : List (List Int), d = .list (f.map oct) ∧ (∀ o ∈ f, OctOk o) ∧ f.length ≤ 17 := by
      unfold folds at hd
      rcases List.mem_cons.mp hd with rfl | hd
      · exact ⟨_, rfl, inF_ok _ _, inF_len _ _⟩
      · rw [List.mem_singleton.mp hd]; exact ⟨_, rfl, inF_ok _ _, inF_len _ _⟩
    have ht : takenL sets (.list (f.map oct)) = (f.map nameS).filter (takenP sets) := by unfold takenL; rw [unL_octs]
    show Ev w (n + 5) _ _ _ (.list ((takenL sets (.list (f.map oct))).map .str))
    rw [ht, ← t5]
    refine Ev.call (rs := [.str (pat (begB ns)), .list ((f.map nameS).map .str)]) (f := .ref 152) (Ev.glob (by decide +kernel) (by rfl) (by decide +kernel)) (.cons (Ev.call (rs := [.list ((begB ns).map .int)]) (f := .ref 142) (Ev.glob (by decide +kernel) (by rfl) (by decide +kernel)) (.cons (Ev.nm (by rfl) rfl) .nil) (cs25 hB.bl hB.br) (Callee.fn (i := 25) (by decide +kernel))) (.cons (Ev.comp (Lc.of [] (f.map oct) (fun _ => true) (fun d => .str (nameS (unO d))) (by rfl) (by decide +kernel) (Nat.le_refl _) (Ei.list (Ev.nm (by rfl) rfl)) (by simp; omega) (fun _ _ => .nil) ?b1 ?b2)) .nil)) (cs27 t1 t2 t3 (by simp; omega) (fun x hx => ?b3) t4) (Callee.fn (i := 27) (by decide +kernel))
    case b1 =>
      intro d hd _
      obtain ⟨o, ho, rfl⟩ := List.mem_map.mp hd
      show Ev w (n + 5) _ _ _ (.str (nameS (unO (oct o))))
      rw [unO_oct]
      exact Ev.call (rs := [.d (oct o)]) (f := .ref 130) (Ev.glob (by decide +kernel) (by rfl) (by decide +kernel)) (.cons (Ev.nm (by rfl) rfl) .nil) (cs23 (hf o ho).1 (hf o ho).2) (Callee.fn (i := 23) (by decide +kernel))
    case b2 =>
      rw [List.filter_eq_self.mpr (fun _ _ => rfl), List.map_map, List.map_map]
      exact List.map_congr_left fun o _ => by show PyData.str (nameS o) = .str (nameS (unO (oct o))); rw [unO_oct]
    case b3 =>
      obtain ⟨o, ho, rfl⟩ := List.mem_map.mp hx
      exact name_len (hf o ho)
theorem st5 {ns : List Int} {r0 r1 r4 : SV} {pos : Pos} : X1 w (n + 5) F31 [r0, r1, .d (oct (begB ns)), .list (folds ns), r4, .u, .u, .u] μ ((fnBody 31).getD 4 (.Pass pos)) (· = .next [r0, r1, .d (oct (begB ns)), .list (folds ns), r4, .list (((fold1 ns).filter (begins (begB ns))).map oct), .list (((fold2 ns).filter (begins (begB ns))).map oct), .u] μ) := by
  have hbl : (begB ns).length ≤ 3 := by unfold begB octI; simp; omega
  refine X1.pairL (a := .list (((fold1 ns).filter (begins (begB ns))).map oct)) (b := .list (((fold2 ns).filter (begins (begB ns))).map oct)) (by rfl) (by decide +kernel) (by rfl) (by decide +kernel) (Em.of (Ev.comp (Lc.of [.d (oct (begB ns))] (folds ns) (fun _ => true) (fun d => .list (((unL d).filter (begins (begB ns))).map oct)) (by rfl) (by decide +kernel) (Nat.le_refl _) (Ei.list (Ev.nm (by rfl) rfl)) (by unfold folds; simp) (fun _ _ => .nil) ?a1 ?a2))) rfl
  case a2 =>
    rw [List.filter_eq_self.mpr (fun _ _ => rfl)]
    unfold folds
    rw [List.map_cons, List.map_cons, List.map_nil, unL_octs, unL_octs]
  case a1 =>
    intro d hd _
    obtain ⟨f, rfl, hf, hfl⟩ : ∃ f : List (List Int), d = .list (f.map oct) ∧ (∀ o ∈ f, OctOk o) ∧ f.length ≤ 17 := by
      unfold folds at hd
      rcases List.mem_cons.mp hd with rfl | hd
      · exact ⟨_, rfl, inF_ok _ _, inF_len _ _⟩
      · rw [List.mem_singleton.mp hd]; exact ⟨_, rfl, inF_ok _ _, inF_len _ _⟩
    show Ev w (n + 5) _ _ _ (.list (((unL (.list (f.map oct))).filter (begins (begB ns))).map oct))
    rw [unL_octs]
    refine Ev.comp (Lc.of [.d (oct (begB ns))] (f.map oct) (fun d => begins (begB ns) (unO d)) id (by rfl) (by decide +kernel) (Nat.le_refl _) (Ei.list (Ev.nm (by rfl) rfl)) (by simp; omega) ?b1 ?b2 ?b3)
    case b2 =>
      intro d hd _
      exact Ev.nm (by rfl) rfl
    case b3 =>
      rw [List.map_id, List.filter_map]
      exact congrArg _ (List.filter_congr fun o _ => by show begins (begB ns) o = begins (begB ns) (unO (oct o)); rw [unO_oct])
    case b1 =>
      intro d hd
      obtain ⟨o, ho, rfl⟩ := List.mem_map.mp hd
      show Ifs _ _ _ _ _ (begins (begB ns) (unO (oct o)))
      rw [unO_oct]
      unfold begins
      rw [← eqv_oct]
      refine .one (Tr.cmp (a := .list ((pickL o Option.none (some ((begB ns).length : Int))).map .int)) ?hcut (Ev.nm (by rfl) rfl) (.eqD (lay_oct _) (lay_oct _) (by rw [show PyData.list ((pickL o Option.none (some ((begB ns).length : Int))).map .int) = oct (pickL o Option.none (some ((begB ns).length : Int))) from rfl, depth_oct]; decide)))
      case hcut =>
        have hol := (hf o ho).1
        rw [← pickL_map]
        refine Ev.slice (Ev.nm (by rfl) rfl) Pt.no (Pt.yes (Ev.call (rs := [.list ((begB ns).map .int)]) (f := .builtin "len") (Ev.blt (by decide +kernel) (by rfl) (by decide +kernel)) (.cons (Ev.nm (by rfl) rfl) .nil) ?hc (Callee.builtin _))) (.list (by simp; omega))
        have := Cs.lenL (w := w) (n := n + 5) (l := (begB ns).map PyData.int) (by simp; omega)
        rwa [List.length_map] at this
end
end
section
open PySem PySem.W PyProof.Rows PySem.Calls
set_option maxRecDepth 100000
set_option maxHeartbeats 1000000
noncomputable def Lays (l : List Str) : Prop := ∀ x ∈ l, (PyData.str x).canLay0 = true
theorem lay_strs : ∀ {l : List Str}, Lays l → PyData.canLayAll0 (l.map .str) = true
  | [], _ => rfl
  | x :: l, h => by
    rw [List.map_cons, PyData.canLayAll0, h x List.mem_cons_self, lay_strs fun y hy => h y (List.mem_cons_of_mem _ hy)]; rfl
theorem depth_strs : ∀ l : List Str, PyData.depthAll (l.map .str) = 0
  | [] => rfl
  | x :: l => by rw [List.map_cons, PyData.depthAll, depth_strs l]; rfl
theorem lay_strL {l : List Str} (h : Lays l) : PyData.canLay0 (.list (l.map .str)) = true := by rw [PyData.canLay0]; exact lay_strs h
theorem depth_strL (l : List Str) : PyData.depth (.list (l.map .str)) = 1 := by rw [PyData.depth, depth_strs]
mutual
theorem eqv_self : ∀ d : PyData, d.canLay0 = true → PyData.eqv d d = true
  | .none, _ => by simp [PyData.eqv]
  | .bool _, _ => by simp [PyData.eqv]
  | .int _, _ => by simp [PyData.eqv]
  | .str _, _ => by simp [PyData.eqv]
  | .list l, h => by rw [PyData.eqv]; exact eqvAll_self l (by rwa [PyData.canLay0] at h)
  | .tuple l, h => by rw [PyData.eqv]; exact eqvAll_self l (by rwa [PyData.canLay0] at h)
  | .dict _, h => by cases h
theorem eqvAll_self : ∀ l : List PyData, PyData.canLayAll0 l = true → PyData.eqvAll l l = true
  | [], _ => by simp [PyData.eqvAll]
  | d :: l, h => by
    rw [PyData.canLayAll0, Bool.and_eq_true] at h
    rw [PyData.eqvAll, eqv_self d h.1, eqvAll_self l h.2]; rfl
end
noncomputable def bsL (f : List (List Int)) : List Str := f.map bits
section
variable {w : World} {n : Nat} {μ : Mu}
theorem st6 {r0 r1 r2 r3 : SV} {f g : List (List Int)} (hf : ∀ o ∈ f, OctOk o) (hg : ∀ o ∈ g, OctOk o) (hfl : f.length ≤ 1000) (hgl : g.length ≤ 1000) (h1 : Lays (bsL f)) (h2 : Lays (bsL g)) {pos : Pos} :
    X1 w (n + 5) F31 [r0, r1, r2, r3, .list [.list ((bsL f).map .str), .list ((bsL g).map .str)], .list (f.map oct), .list (g.map oct), .u] μ ((fnBody 31).getD 5 (.Pass pos)) (· = .next [r0, r1, r2, r3, .list [.list ((bsL f).map .str), .list ((bsL g).map .str)], .list (f.map oct), .list (g.map oct), .u] μ) := by
  have hlay : PyData.canLay0 (.list [.list ((bsL f).map .str), .list ((bsL g).map .str)]) = true := by
    rw [PyData.canLay0, PyData.canLayAll0, PyData.canLayAll0, PyData.canLayAll0, lay_strL h1, lay_strL h2]; rfl
  have hdep : PyData.depth (.list [.list ((bsL f).map .str), .list ((bsL g).map .str)]) ≤ 300 := by
    rw [PyData.depth, PyData.depthAll, PyData.depthAll, PyData.depthAll, depth_strL, depth_strL]; decide
  refine X1.ite (c := false) (Tm.of (Tr.eq (Tr.cmp (Ev.nm (by rfl) rfl) (Ev.ls (.cons (d := .list ((bsL f).map .str)) ?a1 (.cons (d := .list ((bsL g).map .str)) ?a2 .nil rfl) rfl)) (.neD hlay hlay hdep)) (by rw [eqv_self _ hlay]; rfl))) (fun z => nomatch z) (fun _ => Xs.nil rfl)
  case a1 =>
    refine Ev.comp (Lc.of [] (f.map oct) (fun _ => true) (fun d => .str (bits (unO d))) (by rfl) (by decide +kernel) (Nat.le_refl _) (Ei.list (Ev.nm (by rfl) rfl)) (by simp; omega) (fun _ _ => .nil) ?b1 ?b2)
    case b1 =>
      intro d hd _
      obtain ⟨o, ho, rfl⟩ := List.mem_map.mp hd
      show Ev w (n + 5) _ _ _ (.str (bits (unO (oct o))))
      rw [unO_oct]
      exact ev_bits (by decide +kernel) (hf o ho) (Ev.nm (by rfl) rfl)
    case b2 =>
      rw [List.filter_eq_self.mpr (fun _ _ => rfl), List.map_map]
      unfold bsL
      rw [List.map_map]
      exact List.map_congr_left fun o _ => by show PyData.str (bits o) = .str (bits (unO (oct o))); rw [unO_oct]
  case a2 =>
    refine Ev.comp (Lc.of [] (g.map oct) (fun _ => true) (fun d => .str (bits (unO d))) (by rfl) (by decide +kernel) (Nat.le_refl _) (Ei.list (Ev.nm (by rfl) rfl)) (by simp; omega) (fun _ _ => .nil) ?c1 ?c2)
    case c1 =>
      intro d hd _
      obtain ⟨o, ho, rfl⟩ := List.mem_map.mp hd
      show Ev w (n + 5) _ _ _ (.str (bits (unO (oct o))))
      rw [unO_oct]
      exact ev_bits (by decide +kernel) (hg o ho) (Ev.nm (by rfl) rfl)
    case c2 =>
      rw [List.filter_eq_self.mpr (fun _ _ => rfl), List.map_map]
      unfold bsL
      rw [List.map_map]
      exact List.map_congr_left fun o _ => by show PyData.str (bits o) = .str (bits (unO (oct o))); rw [unO_oct]
end
end
section
open PySem PySem.W PyProof.Rows PySem.Calls
set_option maxRecDepth 100000
set_option maxHeartbeats 1000000
theorem def3 : ∀ h, Wd h → DefAt F3 45 ["expected", "actual"] (fnBody 3) h 2 [] fun vs _ => vs := FnAt.def (i := 3) (by decide) rfl (fun pm cd doc vs hv => by
  obtain ⟨a, b, rfl⟩ := len2 hv
  with_unfolding_all rfl)
theorem def4 : ∀ h, Wd h → DefAt F4 52 ["expected", "actual"] (fnBody 4) h 2 [] fun vs _ => vs := FnAt.def (i := 4) (by decide) rfl (fun pm cd doc vs hv => by
  obtain ⟨a, b, rfl⟩ := len2 hv
  with_unfolding_all rfl)
/-- a frame that calls stand on -/
structure Lw (le : Env) (A : Around) (s₀ : Shared) (G₀ : GH) (σ : List SV) (s : Shared) (G : GH) : Prop where
  I : EnvIs F31 le
  Fr : Fresh s₀ le
  T : St s₀ G₀ F31 σ le s G
  lf : le.frame = some le.locals
  fr : A.frames = some [le]
  hd : A.handled = none
  w0 : Wd s₀.heap
  cs : ∃ cc, le.cells = [(("beginning" : Str), cc)]
section
variable {w : World} {n : Nat} {le : Env} {A : Around} {s₀ s : Shared} {G₀ G : GH} {σ : List SV}
theorem Lw.cl (L : Lw le A s₀ G₀ σ s G) : ∀ p ∈ le.cells, ∃ v, s.heap.IsCell p.2 v := fun p hp => by
  obtain ⟨cc, hcc⟩ := L.cs
  obtain ⟨m, N, S⟩ := L.T.rel.slots
  obtain ⟨r, hr⟩ := Slots.has S (i := 2) (x := ("beginning" : Str)) (by rfl)
  have hs := Slots.at S (i := 2) (k := .cell) (x := ("beginning" : Str)) (by decide +kernel) (by rfl) hr
  unfold Slot at hs
  rw [if_neg (by decide)] at hs
  obtain ⟨c, v₀, e1, e2, _⟩ := hs
  rw [hcc] at hp e1
  rw [List.mem_singleton.mp hp]
  have : cc = c := by
    have e1 : List.lookup ("beginning" : Str) [(("beginning" : Str), cc)] = some c := e1
    rw [List.lookup_cons, beq_self_eq_true] at e1
    exact Option.some.inj e1
  exact ⟨v₀, this ▸ e2⟩
theorem Lw.step (L : Lw le A s₀ G₀ σ s G) {s' : Shared} {G' : GH} (g : Grow s G s' G') : Lw le A s₀ G₀ σ s' G' :=
  ⟨L.I, L.Fr, L.T.step g, L.lf, L.fr, L.hd, L.w0, L.cs⟩
theorem Lw.call3 (L : Lw le A s₀ G₀ σ s G) (Ro : Room (n + 1) A) {xs ys : List Str} {R : List Str × List Str} {f : Nat} {vs : List Value} {Q E : Value → Shared → Prop} (hx : xs.length ≤ 1000) (hy : ys.length ≤ 1000) (hg : sdGo xs ys f 0 0 [] [] = some R) (hr1 : R.1.length ≤ 1000000) (hr2 : R.2.length ≤ 1000000) (hv : RvA G [.list (xs.map .str), .list (ys.map .str)] vs)
    (q : ∀ v s' G', Lw le A s₀ G₀ σ s' G' → G.Le G' → Rv G' (.d (.tuple [.list (R.1.map .str), .list (R.2.map .str)])) v → Q v s') : wpAny (model prog w) A (call (.ref 45) vs) Q E s :=
  call_on L.I L.Fr L.T .nil L.lf L.fr L.hd (Ro.le (by omega)) L.w0 L.cl def3 rfl rfl rfl F3_ok F3_plain rfl (fun _ => rfl) hv (fun c A' s₁ Q' E' yk hA' at' q' => run3 yk hA' hx hy hg hr1 hr2 at' q') fun v s' G' T' le' rv' cl' => q v s' G' ⟨L.I, L.Fr, T', L.lf, L.fr, L.hd, L.w0, L.cs⟩ le' rv'
theorem Lw.call4 (L : Lw le A s₀ G₀ σ s G) (Ro : Room (n + 1) A) {es as : List Str} {ea aa : Addr} {Q E : Value → Shared → Prop} (hx : es.length ≤ 1000) (hy : as.length ≤ 1000) (O : Own s₀ le s.heap G [(ea, dts (es.map .str)), (aa, dts (as.map .str))])
    (q : ∀ v s' G', Lw le A s₀ G₀ σ s' G' → G.Le G' → Rv G' (.d (.tuple [.list ((uo es.reverse [] as).1.map .str), .list ((uo es.reverse [] as).2.map .str)])) v → Q v s') : wpAny (model prog w) A (call (.ref 52) [.ref ea, .ref aa]) Q E s :=
  call_on L.I L.Fr L.T O L.lf L.fr L.hd (Ro.le (by omega)) L.w0 L.cl def4 rfl rfl rfl F4_ok F4_plain rfl (fun _ => rfl) (rs := [.v (.ref ea), .v (.ref aa)]) ⟨rfl, rfl, trivial⟩ (fun c A' s₁ Q' E' yk hA' at' q' => run4 yk hA' hx hy at' q') fun v s' G' T' le' rv' cl' => q v s' G' ⟨L.I, L.Fr, T', L.lf, L.fr, L.hd, L.w0, L.cs⟩ le' rv'
/-- list(x): a fresh list that is the caller's own -/
theorem Lw.listOf (L : Lw le A s₀ G₀ σ s G) (Ro : Room n A) {μ : Mu} (O : Own s₀ le s.heap G μ) {l : List Str} {e : Expr} {p pos : Pos} {Q E : Value → Shared → Prop} (hl : l.length ≤ 1000) (h : Ev w n F31 σ e (.list (l.map .str))) (h0 : notStar e = true)
    (ha : ∀ env, eval (.Call (.Name "list" p) [e] [] pos) env = (do callWith pos (← eval (.Name "list" p) env) [] (backTo pos (starEach [e] env)) (backToKw pos (keywordEach [] env))))
    (q : ∀ a s' G', Lw le A s₀ G₀ σ s' G' → G.Le G' → Own s₀ le s'.heap G' ((a, dts (l.map .str)) :: μ) → Q (.ref a) s') : wpAny (model prog w) A (eval (.Call (.Name "list" p) [e] [] pos) le) Q E s := by
  rw [ha]
  refine wpAny_bind ((Ev.blt (F := F31) (σ := σ) (n := n) (by decide +kernel) (v := .type "list") (by rfl) (by decide +kernel)).run le A s G _ _ L.I Ro L.T.grow.bare L.T.rel fun v s1 G1 g1 e1 => ?_)
  cases e1
  have L1 := L.step g1
  refine callWith_of_args (Callee.type _) (starEach_any (by simp [h0])) (evalArgs_es (by simp [h0]) ((Es.cons h Es.nil h0).run le A s1 G1 pos _ _ L.I Ro g1.bare L1.T.rel fun vs s2 G2 g2 r2 => ⟨g2.wd, ?_⟩))
  have L2 := L1.step g2
  have O2 := (O.grow g1).grow g2
  obtain ⟨v, rfl, r'⟩ := r2.one
  obtain ⟨a, items, rfl, ⟨o, ho, hc, m, hd⟩, _, ra⟩ := Rd.list_inv g2.sub r'
  have hz : items.size = l.length := by have := ra.length; simpa using this
  refine call_list_seq (hsz := by rw [hz, sizeLine_eq]; omega) a (.inl rfl) ho hc hd fun h' c' hk hD => ?_
  have hsz : s2.heap.objs.size < h'.objs.size := Heap.lt_size hD
  have g3 := Grow.old g2.bare g2.wd g2.sub s2.toks hk (Nat.le_of_lt hsz)
  have hno : G2 s2.heap.objs.size = none := g2.sub.none (Nat.le_refl _)
  have O3 := O2.grow g3
  obtain ⟨m2, N2, _⟩ := L2.T.rel.slots
  refine q _ _ G2 (L2.step g3) (g1.le.trans g2.le) ⟨List.nodup_cons.mpr ⟨fun z => ?_, O3.nd⟩, fun p hp => ?_⟩
  · obtain ⟨p, hp, e⟩ := List.mem_map.mp z
    obtain ⟨ys, pl, _⟩ := (O2.at_ p hp).pl
    exact Nat.lt_irrefl _ (e ▸ PlainList_lt pl)
  · rcases List.mem_cons.mp hp with rfl | hp
    · exact ⟨hno, L2.T.grow.size, g2.wd.size, ⟨_, ⟨_, hD⟩, RdA.sv ra⟩, Nat.ne_of_lt N2.lt, fun q hq => Nat.ne_of_lt (L2.T.ltC hq)⟩
    · exact O3.at_ p hp
end
end
section
open PySem PySem.W PyProof.Rows PySem.Calls
set_option maxRecDepth 100000
set_option maxHeartbeats 1000000
section
variable {w : World} {n : Nat} {le : Env} {A : Around} {s₀ s : Shared} {G₀ G : GH}
theorem st7 {r0 r1 r2 r3 r5 r6 : SV} {t1 t2 s1 s2 : List Str} {sd : List Str × List Str} {f : Nat} {pos : Pos} {Q : Flow → Shared → Prop} {E : Value → Shared → Prop}
    (L : Lw le A s₀ G₀ [r0, r1, r2, r3, .list [.list (t1.map .str), .list (t2.map .str)], r5, r6, .u] s G) (Ro : Room (n + 1) A) (h1 : t1.length < 64) (h2 : t2.length < 64) (hs1 : ∀ ss' : List Str, ss'.Perm t1 → sortedS ss' = true → ss' = s1) (hs2 : ∀ ss' : List Str, ss'.Perm t2 → sortedS ss' = true → ss' = s2) (l1 : s1.length ≤ 1000) (l2 : s2.length ≤ 1000) (hg : sdGo s1 s2 f 0 0 [] [] = some sd) (hr1 : sd.1.length ≤ 1000000) (hr2 : sd.2.length ≤ 1000000)
    (q : ∀ s' G', Lw le A s₀ G₀ [r0, r1, r2, r3, .list [.list (t1.map .str), .list (t2.map .str)], r5, r6, .list [.tuple [.list (sd.1.map .str), .list (sd.2.map .str)], .tuple [.list ((uo t1.reverse [] t2).1.map .str), .list ((uo t1.reverse [] t2).2.map .str)]]] s' G' → Q .next s') :
    wpAny (model prog w) A (exec ((fnBody 31).getD 6 (.Pass pos)) le) Q E s := by
  let σ : List SV := [r0, r1, r2, r3, .list [.list (t1.map .str), .list (t2.map .str)], r5, r6, .u]
  have it0 : ∀ {p1 p2 p3 : Pos} {k : Nat}, Ev w (n + 1) F31 σ (.Subscript (.Name "taken" p1) (.Constant (.int 0) k p2) p3) (.list (t1.map .str)) := Ev.item (o := .list [.list (t1.map .str), .list (t2.map .str)]) (Ev.nm (by rfl) rfl) Ev.int (Is.list (by decide) (by rfl) (Nat.le_of_ble_eq_true rfl))
  have it1 : ∀ {p1 p2 p3 : Pos} {k : Nat}, Ev w (n + 1) F31 σ (.Subscript (.Name "taken" p1) (.Constant (.int 1) k p2) p3) (.list (t2.map .str)) := Ev.item (o := .list [.list (t1.map .str), .list (t2.map .str)]) (Ev.nm (by rfl) rfl) Ev.int (Is.list (by decide) (by rfl) (Nat.le_of_ble_eq_true rfl))
  refine wpAny_Assign_Name (List_ ?_) (by rfl)
  rw [starEach_cons (by rfl), starEach_cons (by rfl)]
  refine spliced_cons ?_
  show wpAny _ _ (do callWith _ (← eval (.Name "sorted_list_difference" _) le) [] (backTo _ (starEach [_, _] le)) (backToKw _ (keywordEach [] le))) _ _ _
  refine wpAny_bind ((Ev.glob (F := F31) (σ := σ) (n := n + 1) (by decide +kernel) (v := .ref 45) (by rfl) (by decide +kernel)).run le A s G _ _ L.I Ro L.T.grow.bare L.T.rel fun v sa Ga ga ea => ?_)
  cases ea
  have La := L.step ga
  refine callWith_of_args (Callee.fn (i := 3) (by decide +kernel)) (starEach_any (by rfl)) (evalArgs_es (by rfl) ((Es.cons (Ev.call (rs := [.list (t1.map .str)]) (f := .builtin "sorted") (Ev.blt (by decide +kernel) (by rfl) (by decide +kernel)) (.cons it0 .nil) (Cs.sortedS h1 s1 hs1) (Callee.builtin _)) (Es.cons (Ev.call (rs := [.list (t2.map .str)]) (f := .builtin "sorted") (Ev.blt (by decide +kernel) (by rfl) (by decide +kernel)) (.cons it1 .nil) (Cs.sortedS h2 s2 hs2) (Callee.builtin _)) Es.nil)).run le A sa Ga _ _ _ L.I Ro ga.bare La.T.rel fun vs sb Gb gb rb => ⟨gb.wd, ?_⟩))
  refine (La.step gb).call3 Ro l1 l2 hg hr1 hr2 rb fun v1 sc Gc Lc lc rv1 => ?_
  refine spliced_cons ?_
  show wpAny _ _ (do callWith _ (← eval (.Name "unorderable_list_difference" _) le) [] (backTo _ (starEach [_, _] le)) (backToKw _ (keywordEach [] le))) _ _ _
  refine wpAny_bind ((Ev.glob (F := F31) (σ := σ) (n := n + 1) (by decide +kernel) (v := .ref 52) (by rfl) (by decide +kernel)).run le A sc Gc _ _ Lc.I Ro Lc.T.grow.bare Lc.T.rel fun v sd' Gd gd ed => ?_)
  cases ed
  have Ld := Lc.step gd
  refine callWith_of_args (Callee.fn (i := 4) (by decide +kernel)) (starEach_any (by rfl)) (evalArgs_es (by rfl) ?_)
  rw [starEach_cons (by rfl), starEach_cons (by rfl)]
  refine spliced_cons (Ld.listOf (n := n + 1) Ro Own.nil (by omega) it0 (by rfl) (by intro _; rfl) fun ea se Ge Le le1 Oe => ?_)
  refine spliced_cons (Le.listOf (n := n + 1) Ro Oe (by omega) it1 (by rfl) (by intro _; rfl) fun aa sf Gf Lf le2 Of => ?_)
  refine spliced_nil ⟨Lf.T.grow.wd, ?_⟩
  have Of' : Own s₀ le sf.heap Gf [(ea, dts (t1.map .str)), (aa, dts (t2.map .str))] := by
    refine ⟨?_, fun p hp => Of.at_ p ?_⟩
    · have := Of.nd
      simp only [Mu.ad, List.map_cons, List.map_nil, List.nodup_cons, List.mem_cons, List.not_mem_nil, or_false] at this ⊢
      exact ⟨fun z => this.1 z.symm, this.2⟩
    · rcases List.mem_cons.mp hp with rfl | hp
      · exact List.mem_cons_of_mem _ List.mem_cons_self
      · rw [List.mem_singleton.mp hp]; exact List.mem_cons_self
  refine Lf.call4 Ro (by omega) (by omega) Of' fun v2 sg Gg Lg leg rv2 => ?_
  refine spliced_nil ?_
  have hb := Lg.T.grow.bare
  have hle : Gc.Le Gg := gd.le.trans (le1.trans (le2.trans leg))
  have rvs : RdA Gg [v1, v2] [.tuple [.list (sd.1.map .str), .list (sd.2.map .str)], .tuple [.list ((uo t1.reverse [] t2).1.map .str), .list ((uo t1.reverse [] t2).2.map .str)]] := .cons (Rv.ext rv1 hle) (.cons rv2 .nil)
  refine wpAny_newObj_type ?_ (by show 2 ≤ sizeLine; rw [sizeLine_eq]; omega)
  have g8 := Grow.push (s := sg) hb Lg.T.grow.wd Lg.T.grow.sub { cls := .type "list", data := .seq [v1, v2].toArray } sg.toks rfl
  have L8 := Lg.step g8
  have rl := Rd.newList (a := sg.heap.objs.size) (Lg.T.grow.sub.none (Nat.le_refl _)) rvs
  refine L8.T.storeN L8.I L8.Fr Own.nil (i := 7) (r := .d (.list [.tuple [.list (sd.1.map .str), .list (sd.2.map .str)], .tuple [.list ((uo t1.reverse [] t2).1.map .str), .list ((uo t1.reverse [] t2).2.map .str)]])) (by rfl) (by decide +kernel) rl fun s9 T9 O9 f9 => q s9 _ ⟨L8.I, L8.Fr, T9, L8.lf, L8.fr, L8.hd, L8.w0, L8.cs⟩
end
end
section
open PySem PySem.W PyProof.Rows PySem.Calls
set_option maxRecDepth 100000
set_option maxHeartbeats 1000000
/-- what the plain law has to show of a script -/
structure LawOk (ns : List Int) (B : List Int) (F S : List (List Int)) (sets s1 s2 r1 r2 : List Str) : Prop where
  len : ns.length ≤ 63
  eB : begB ns = B
  eF : (fold1 ns).filter (begins B) = F
  eS : (fold2 ns).filter (begins B) = S
  pat : PatB B sets
  t1 : takenL sets (.list ((fold1 ns).map oct)) = bsL F
  t2 : takenL sets (.list ((fold2 ns).map oct)) = bsL S
  y1 : Lays (bsL F)
  y2 : Lays (bsL S)
  o1 : ∀ ss' : List Str, ss'.Perm (bsL F) → sortedS ss' = true → ss' = s1
  o2 : ∀ ss' : List Str, ss'.Perm (bsL S) → sortedS ss' = true → ss' = s2
  l1 : s1.length ≤ 1000
  l2 : s2.length ≤ 1000
  sd : ∃ f, sdGo s1 s2 f 0 0 [] [] = some (r1, r2)
  k1 : ∀ ss' : List Str, ss'.Perm (lackTo F S F.length) → sortedS ss' = true → ss' = r1
  k2 : ∀ ss' : List Str, ss'.Perm (lackTo S F S.length) → sortedS ss' = true → ss' = r2
  uo : uo (bsL F).reverse [] (bsL S) = ((missL F S).reverse, leftL F S)
  z1 : Lays r1
  z2 : Lays r2
  z3 : Lays (missL F S).reverse
  z4 : Lays (leftL F S)
  m1 : r1.length ≤ 1000000
  m2 : r2.length ≤ 1000000
section
variable {w : World} {n : Nat} {env : Env} {A : Around} {s₀ s : Shared} {G₀ G : GH} {σ σ' : List SV}
theorem Lw.go (L : Lw env A s₀ G₀ σ s G) (Ro : Room n A) {st : Stmt} {rest : List Stmt} {Q : Flow → Shared → Prop} {E : Value → Shared → Prop} (h : X1 w n F31 σ [] st (· = .next σ' [])) (q : ∀ s' G', Lw env A s₀ G₀ σ' s' G' → wpAny (model prog w) A (execs rest env) Q E s') : wpAny (model prog w) A (execs (st :: rest) env) Q E s :=
  wpAny_execs_cons (h.run s₀ G₀ env A s G _ E L.I L.Fr Ro L.T .nil fun o fl s' ho hs => by
    cases ho
    obtain ⟨rfl, G', T', O', f⟩ := hs
    exact q s' G' ⟨L.I, L.Fr, T', L.lf, L.fr, L.hd, L.w0, L.cs⟩)
theorem law_body {ns B : List Int} {F S : List (List Int)} {sets s1 s2 r1 r2 : List Str} (K : LawOk ns B F S sets s1 s2 r1 r2) {Q : Flow → Shared → Prop} {E : Value → Shared → Prop} (Ro : Room (n + 5) A) (L : Lw env A s₀ G₀ [.list (ns.map .int), .u, .u, .u, .u, .u, .u, .u] s G) (q : ∀ s' G', Grow s₀ G₀ s' G' → Q (.ret (.bool true)) s') : wpAny (model prog w) A (execs (fnBody 31) env) Q E s := by
  obtain ⟨len, rfl, rfl, rfl, hpat, t1, t2, y1, y2, o1, o2, l1, l2, ⟨f, sd⟩, k1, k2, huo, z1, z2, z3, z4, m1, m2⟩ := K
  have hF : ∀ o ∈ (fold1 ns).filter (begins (begB ns)), OctOk o := fun o ho => inF_ok _ _ o (List.mem_filter.mp ho).1
  have hS : ∀ o ∈ (fold2 ns).filter (begins (begB ns)), OctOk o := fun o ho => inF_ok _ _ o (List.mem_filter.mp ho).1
  have lF : ((fold1 ns).filter (begins (begB ns))).length ≤ 17 := Nat.le_trans (List.length_filter_le _ _) (inF_len _ _)
  have lS : ((fold2 ns).filter (begins (begB ns))).length ≤ 17 := Nat.le_trans (List.length_filter_le _ _) (inF_len _ _)
  refine L.go Ro (st1 (pos := ⟨0, 0, 0, 0⟩) len) fun s1' G1 L1 => ?_
  refine L1.go Ro (st2 (n := n + 3) (pos := ⟨0, 0, 0, 0⟩)) fun s2' G2 L2 => ?_
  refine L2.go Ro (st3 (n := n + 2) (pos := ⟨0, 0, 0, 0⟩) len) fun s3' G3 L3 => ?_
  refine L3.go Ro (st4 (pos := ⟨0, 0, 0, 0⟩) hpat) fun s4' G4 L4 => ?_
  have e4 : ((folds ns).map fun d => PyData.list ((takenL sets d).map .str)) = [.list ((bsL ((fold1 ns).filter (begins (begB ns)))).map .str), .list ((bsL ((fold2 ns).filter (begins (begB ns)))).map .str)] := by
    unfold folds
    rw [List.map_cons, List.map_cons, List.map_nil, t1, t2]
  rw [e4] at L4
  refine L4.go Ro (st5 (pos := ⟨0, 0, 0, 0⟩)) fun s5' G5 L5 => ?_
  generalize hFe : (fold1 ns).filter (begins (begB ns)) = F at *
  generalize hSe : (fold2 ns).filter (begins (begB ns)) = S at *
  refine L5.go Ro (st6 (pos := ⟨0, 0, 0, 0⟩) hF hS (by omega) (by omega) y1 y2) fun s6' G6 L6 => ?_
  refine wpAny_execs_cons (st7 (n := n + 4) (pos := ⟨0, 0, 0, 0⟩) L6 Ro (by unfold bsL; simp; omega) (by unfold bsL; simp; omega) o1 o2 l1 l2 sd m1 m2 fun s7' G7 L7 => ?_)
  rw [huo] at L7
  have hlay : PyData.canLay0 (.list [.tuple [.list (r1.map .str), .list (r2.map .str)], .tuple [.list ((missL F S).reverse.map .str), .list ((leftL F S).map .str)]]) = true := by
    simp only [PyData.canLay0, PyData.canLayAll0, lay_strs z1, lay_strs z2, lay_strs z3, lay_strs z4, Bool.and_self]
  have hdep : PyData.depth (.list [.tuple [.list (r1.map .str), .list (r2.map .str)], .tuple [.list ((missL F S).reverse.map .str), .list ((leftL F S).map .str)]]) ≤ 300 := by
    simp only [PyData.depth, PyData.depthAll, depth_strs]; decide
  refine wpAny_execs_cons (wpAny_Return_some ((Ev.eq (Ev.cmp (w := w) (n := n + 4) (F := F31) (a := .list [.tuple [.list (r1.map .str), .list (r2.map .str)], .tuple [.list ((missL F S).reverse.map .str), .list ((leftL F S).map .str)]]) (Ev.nm (by rfl) rfl) (Ev.call (rs := [.list (F.map oct), .list (S.map oct)]) (f := .ref 167) (Ev.glob (by decide +kernel) (by rfl) (by decide +kernel)) (.cons (Ev.nm (by rfl) rfl) (.cons (Ev.nm (by rfl) rfl) .nil)) (cs30 (by omega) (by omega) hF hS r1 r2 k1 k2) (Callee.fn (i := 30) (by decide +kernel))) (.eqD hlay hlay hdep)) (by rw [eqv_self _ hlay])).run env A s7' G7 _ E L7.I (Ro.le (by omega)) L7.T.grow.bare L7.T.rel fun v s8 G8 g8 r8 => ?_))
  have r8 : Rv G8 (.d (.bool true)) v := r8
  cases Rd.bool_inv r8
  exact q s8 G8 (L7.T.grow.trans g8)
/-- the law's call -/
theorem law_call {ns B : List Int} {F S : List (List Int)} {sets s1 s2 r1 r2 : List Str} (K : LawOk ns B F S sets s1 s2 r1 r2) {v : Value} {Q E : Value → Shared → Prop} (Ro : Room (n + 6) A) (hfr : A.frames = some []) (B' : Bare s G) (W : Wd s.heap) (kG : G.In s.heap) (hv : Rv G (.list (ns.map .int)) v) (q : ∀ s' G', Grow s G s' G' → Q (.bool true) s') : wpAny (model prog w) A (call (.ref 172) [v]) Q E s := by
  refine call_start (F := F31) (k := 1) (P := ["script"]) (rs := [.list (ns.map .int)]) (FnAt.def (i := 31) (by decide) rfl (fun pm cd doc vs hv => by
    obtain ⟨a, rfl⟩ := len1 hv
    with_unfolding_all rfl)) rfl rfl rfl F31_ok F31_plain (Nat.zero_le _) (by have := Ro.depth; omega) B' W kG ⟨hv, trivial⟩ fun env s₁ I Fr ef hL hce T => ?_
  refine law_body K (n := n) ⟨fun _ => Ro.hd (by omega), by have := Ro.depth; show A.depth + 1 + (n + 5) < 1000; omega, by have := Ro.units; show A.units + 3 + 20 * (n + 5) + 500 < 9900; omega⟩ ⟨I, Fr, T, ef, by show A.frames.map _ = _; rw [hfr]; rfl, Ro.hd (by omega), W, ⟨_, hce.trans rfl⟩⟩ fun s' G' g => q s' G' g
end
end
section
open PySem PySem.W PyProof.Rows PySem.Calls
set_option maxRecDepth 100000
set_option maxHeartbeats 1000000
noncomputable def us : Nat → List (List Int)
  | 0 => [[]]
  | k + 1 => (us k).flatMap fun o => [0, 97, 98, 255].map fun d => o ++ [d]
noncomputable def U3 : List (List Int) := us 0 ++ us 1 ++ us 2 ++ us 3
noncomputable def U4 : List (List Int) := U3 ++ us 4
theorem octI_us (x : Int) : ∀ k, octI x k ∈ us k
  | 0 => List.mem_singleton.mpr rfl
  | k + 1 => by
    have ih := octI_us x k
    have e : octI x (k + 1) = octI x k ++ [([0, 97, 98, 255] : List Int).getD (x / 4 ^ k % 4).toNat 0] := by
      unfold octI
      rw [List.range_succ, List.map_append]; rfl
    rw [us, e]
    refine List.mem_flatMap.mpr ⟨_, ih, List.mem_map.mpr ⟨_, ?_, rfl⟩⟩
    rcases mod4 (x / 4 ^ k) with h | h | h | h <;> rw [h] <;> decide
theorem begB_U (ns : List Int) : begB ns ∈ U3 := by
  have h := octI_us (x0 ns / 4) (x0 ns % 4).toNat
  unfold begB U3
  rcases mod4 (x0 ns) with e | e | e | e <;> rw [e] at h ⊢ <;> simp [h]
theorem octF_U (x : Int) : octF x ∈ U4 := by
  have h := octI_us (x / 5) (x % 5).toNat
  unfold octF U4 U3
  rcases mod5 x with e | e | e | e | e <;> rw [e] at h ⊢ <;> simp [h]
theorem inF_U (t : Int) (xs : List Int) : ∀ o ∈ inF t xs, o ∈ U4 := fun o ho => by
  unfold inF at ho
  obtain ⟨x, _, rfl⟩ := List.mem_map.mp ho
  exact octF_U x
end
section
open PySem PySem.W PyProof.Rows PySem.Calls
set_option maxRecDepth 100000
set_option maxHeartbeats 1000000
noncomputable def tksGo : Nat → List Nat → List Tk
  | 0, _ => []
  | f + 1, l => match l with
    | [] => []
    | c :: r => if c == 42 then [] else if c == 91 then .brk ⟨(r.takeWhile (· != 93)).toArray⟩ :: tksGo f ((r.dropWhile (· != 93)).drop 1) else .sign c :: tksGo f r
noncomputable def tksOf (p : Str) : List Tk := tksGo 20 p.cps.toList
noncomputable def setsOf (B : List Int) : List Str := ((tksOf (pat B)).map Tk.part).map setFn
noncomputable def all2 : List (List Nat) → List Nat → Bool
  | [], _ => true
  | s :: ss, c :: cs => s.elem c && all2 ss cs
  | _ :: _, [] => false
theorem all2_iff : ∀ (ss : List (List Nat)) (cs : List Nat), all2 ss cs = true ↔ ss.length ≤ cs.length ∧ ∀ k, k < ss.length → cs.getD k 0 ∈ ss.getD k []
  | [], cs => by simp [all2]
  | s :: ss, [] => by simp [all2]
  | s :: ss, c :: cs => by
    rw [all2, Bool.and_eq_true, all2_iff ss cs]
    constructor
    · rintro ⟨h1, h2, h3⟩
      refine ⟨by simp; omega, fun k hk => ?_⟩
      cases k with
      | zero => simpa using h1
      | succ k => simpa using h3 k (by simpa using hk)
    · rintro ⟨h1, h2⟩
      refine ⟨by simpa using h2 0 (by simp), by simpa using h1, fun k hk => by simpa using h2 (k + 1) (by simpa using hk)⟩
theorem takenP_iff (sets : List Str) (nm : Str) : takenP sets nm = all2 (sets.map (·.cps.toList)) nm.cps.toList := by
  rw [Bool.eq_iff_iff, all2_iff]
  unfold takenP badL notin
  rw [Bool.and_eq_true, decide_eq_true_iff, List.isEmpty_iff, List.filter_eq_nil_iff]
  have hl : nm.length = nm.cps.toList.length := by rw [Array.length_toList]; rfl
  rw [List.length_map, hl]
  have key : ∀ k, k < sets.length → ((nm.cps.toList.getD k 0 ∈ (sets.map (·.cps.toList)).getD k []) ↔ (nm.cps.getD k 0 ∈ (sets.getD k "").cps.toList)) := fun k hk => by
    have e1 : nm.cps.toList.getD k 0 = nm.cps.getD k 0 := by
      rw [List.getD_eq_getElem?_getD, Array.getElem?_toList, Array.getD_eq_getD_getElem?]
    have e2 : (sets.map (·.cps.toList)).getD k [] = (sets.getD k "").cps.toList := by
      rw [List.getD_eq_getElem?_getD, List.getD_eq_getElem?_getD, List.getElem?_map, List.getElem?_eq_getElem hk]; rfl
    rw [e1, e2]
  refine and_congr_right fun hle => ⟨fun h k hk => ?_, fun h k hk => ?_⟩
  · have h1 := h k (List.mem_range.mpr hk)
    rw [show chS nm k = ⟨#[nm.cps.getD k 0]⟩ from rfl, PySem.StrLaws.found_one] at h1
    rw [key k hk]
    simpa using h1
  · have hk := List.mem_range.mp hk
    have h1 := (key k hk).mp (h k hk)
    rw [show chS nm k = ⟨#[nm.cps.getD k 0]⟩ from rfl, PySem.StrLaws.found_one]
    simpa using h1
noncomputable def cOf (B : List Int) : List (List Nat) := (setsOf B).map (·.cps.toList)
noncomputable def bOf (o : List Int) : List Nat := (bits o).cps.toList
noncomputable def ixC (c : Nat) : Nat := if 65 ≤ c ∧ c ≤ 90 then c - 65 else if 97 ≤ c ∧ c ≤ 122 then c - 71 else if 48 ≤ c ∧ c ≤ 57 then c + 4 else if c = 43 then 62 else 63
noncomputable def decB (l : List Nat) : List Int :=
  let vs := (l.filter (· != 61)).map ixC
  let n := vs.length * 6 / 8
  let N := (vs.foldl (fun a v => a * 64 + v) 0) / 2 ^ (vs.length * 6 % 8)
  (List.range n).map fun k => ((N / 256 ^ (n - 1 - k) % 256 : Nat) : Int)
noncomputable def sgT : List Nat := [65, 66, 67, 68, 69, 70, 71, 72, 73, 74, 75, 76, 77, 78, 79, 80, 81, 82, 83, 84, 85, 86, 87, 88, 89, 90, 97, 98, 99, 100, 101, 102, 103, 104, 105, 106, 107, 108, 109, 110, 111, 112, 113, 114, 115, 116, 117, 118, 119, 120, 121, 122, 48, 49, 50, 51, 52, 53, 54, 55, 56, 57, 43, 47]
theorem signs_sgT : signs = ⟨sgT.toArray⟩ := by decide +kernel
theorem pickL_take {α : Type} (l : List α) (k : Nat) : pickL l Option.none (some (k : Int)) = l.take k := by
  unfold pickL
  have e : clipN (some (k : Int)) l.length l.length = min k l.length := by
    exact clip_nat k _
  rw [e]
  show (l.drop 0).take (min k l.length - 0) = l.take k
  rw [List.drop_zero, Nat.sub_zero, List.take_eq_take_iff]
  omega
theorem pickL_three {α : Type} (l : List α) (j : Nat) : pickL l (some (3 * j : Int)) (some (3 * j + 3 : Int)) = (l.drop (3 * j)).take 3 := by
  unfold pickL
  have e1 : clipN (some (3 * j : Int)) 0 l.length = min (3 * j) l.length := clip_nat (3 * j) _
  have e2 : clipN (some (3 * j + 3 : Int)) l.length l.length = min (3 * j + 3) l.length := clip_nat (3 * j + 3) _
  rw [e1, e2]
  rcases Nat.le_total (3 * j) l.length with h | h
  · rw [Nat.min_eq_left h, List.take_eq_take_iff, List.length_drop]; omega
  · rw [Nat.min_eq_right h, List.drop_length, List.drop_eq_nil_of_le h, List.take_nil, List.take_nil]
theorem glue1 (l : List Nat) : Txt.join "" (l.map fun k => (⟨#[k]⟩ : Str)) = ⟨l.toArray⟩ := by
  unfold Txt.join
  rw [StrLaws.glued_eq_join]
  exact join_ones l
theorem cat_list (a b : Str) : (a ++ b).cps.toList = a.cps.toList ++ b.cps.toList := Array.toList_append
noncomputable def fourL (z : Int) : List Nat := (List.range 4).map fun p => sgT.getD (z / 64 ^ (3 - p) % 64).toNat 0
theorem four_eq (z : Int) : four z = ⟨(fourL z).toArray⟩ := by
  rw [← glue1]
  unfold four fourL
  rw [List.map_map]
  refine congrArg (Txt.join "") (List.map_congr_left fun p _ => ?_)
  show (⟨#[signs.cps.getD _ 0]⟩ : Str) = ⟨#[_]⟩
  rw [signs_sgT, Array.getD_eq_getD_getElem?, List.getElem?_toArray, ← List.getD_eq_getElem?_getD]
noncomputable def padL (k : Nat) : List Nat := (Txt.mul "=" (3 - k)).cps.toList
noncomputable def bit3L (t : List Int) : List Nat := (fourL (whole3 t)).take (t.length + 1) ++ padL t.length
theorem bit3_eq (t : List Int) : (bit3 t).cps.toList = bit3L t := by
  show (cutS (four (whole3 t)) Option.none (some ((t.length + 1 : Nat) : Int)) ++ Txt.mul "=" (3 - t.length)).cps.toList = _
  rw [cat_list, four_eq]
  unfold cutS
  rw [pickL_take]
  rfl
noncomputable def bitsToL (ns : List Int) : Nat → List Nat
  | 0 => []
  | j + 1 => bitsToL ns j ++ bit3L ((ns.drop (3 * j)).take 3)
theorem bitsTo_eq (ns : List Int) : ∀ j, (bitsTo ns j).cps.toList = bitsToL ns j
  | 0 => rfl
  | j + 1 => by
    rw [bitsTo, cat_list, bitsTo_eq ns j, bit3_eq, bitsToL, pickL_three]
noncomputable def bL (o : List Int) : List Nat := bitsToL o ((o.length + 2) / 3)
theorem bOf_eq (o : List Int) : bOf o = bL o := bitsTo_eq o _
theorem tak3 : (U3.map fun B => (B, cOf B)).all (fun p => decide (p.2.length ≤ 4) && (U3.map fun o => (o, bL o)).all fun q => all2 p.2 q.2 == p.1.isPrefixOf q.1) = true := by decide +kernel
theorem begins_pre (B o : List Int) : begins B o = B.isPrefixOf o := by
  unfold begins
  rw [pickL_take, Bool.eq_iff_iff, beq_iff_eq, List.isPrefixOf_iff_prefix, List.prefix_iff_eq_take, eq_comm]
noncomputable def tabB (o : List Int) : Bool := (b64E o).map Int.toNat == bL o && (bL o).all (fun c => decide (c < 0x110000)) && decB (bL o) == o && (bL o).take 4 == bL (o.take 3)
theorem tab4 : U4.all tabB = true := by decide +kernel
theorem tab_at {o : List Int} (ho : o ∈ U4) : nameS o = bits o ∧ (PyData.str (bits o)).canLay0 = true ∧ decB (bOf o) = o ∧ (bOf o).take 4 = bOf (o.take 3) := by
  have h := List.all_eq_true.mp tab4 o ho
  unfold tabB at h
  simp only [Bool.and_eq_true, beq_iff_eq] at h
  have e : bits o = ⟨(bL o).toArray⟩ := by rw [← bOf_eq]; rfl
  refine ⟨?_, ?_, by rw [bOf_eq]; exact h.1.2, by rw [bOf_eq, bOf_eq]; exact h.2⟩
  · rw [e, ← h.1.1.1, ← glue1, List.map_map]; rfl
  · rw [e]
    show Array.all _ _ = true
    rw [List.all_toArray]
    exact h.1.1.2
theorem us_len : ∀ (k : Nat) {o : List Int}, o ∈ us k → o.length = k
  | 0, o, h => by rw [List.mem_singleton.mp h]; rfl
  | k + 1, o, h => by
    obtain ⟨p, hp, h⟩ := List.mem_flatMap.mp h
    obtain ⟨d, _, rfl⟩ := List.mem_map.mp h
    rw [List.length_append, us_len k hp]; rfl
theorem us_take {k : Nat} {o : List Int} (h : o ∈ us (k + 1)) : o.take k ∈ us k := by
  obtain ⟨p, hp, h⟩ := List.mem_flatMap.mp h
  obtain ⟨d, _, rfl⟩ := List.mem_map.mp h
  rw [← us_len k hp, List.take_left]
  rw [us_len k hp]; exact hp
theorem all2_take : ∀ (m : Nat) (ss : List (List Nat)) (cs : List Nat), ss.length ≤ m → all2 ss (cs.take m) = all2 ss cs
  | _, [], _, _ => by simp [all2]
  | 0, _ :: _, _, h => by simp at h
  | m + 1, s :: ss, [], _ => by simp
  | m + 1, s :: ss, c :: cs, h => by
    rw [List.take_succ_cons, all2, all2, all2_take m ss cs (by simpa using h)]
theorem U3_len : ∀ B ∈ U3, B.length ≤ 3 := by
  have h : U3.all (fun B => decide (B.length ≤ 3)) = true := by decide +kernel
  exact fun B hB => of_decide_eq_true (List.all_eq_true.mp h B hB)
theorem taken_begins {B o : List Int} (hB : B ∈ U3) (ho : o ∈ U4) : takenP (setsOf B) (bits o) = begins B o := by
  rw [takenP_iff]
  show all2 (cOf B) (bOf o) = begins B o
  have h := List.all_eq_true.mp tak3 (B, cOf B) (List.mem_map.mpr ⟨B, hB, rfl⟩)
  rw [Bool.and_eq_true, decide_eq_true_iff] at h
  have h3 : ∀ o ∈ U3, all2 (cOf B) (bOf o) = begins B o := fun o ho => by
    have := List.all_eq_true.mp h.2 (o, bL o) (List.mem_map.mpr ⟨o, ho, rfl⟩)
    rw [begins_pre, bOf_eq]
    exact beq_iff_eq.mp this
  unfold U4 at ho
  rcases List.mem_append.mp ho with ho | ho
  · exact h3 o ho
  · have e1 : (bOf o).take 4 = bOf (o.take 3) := (tab_at (List.mem_append.mpr (.inr ho))).2.2.2
    have e2 : o.take 3 ∈ us 3 := us_take ho
    rw [← all2_take 4 _ _ h.1, e1, h3 _ (by unfold U3; simp [e2])]
    unfold begins
    rw [pickL_take, pickL_take, List.take_take, Nat.min_eq_left (U3_len B hB)]
theorem name_bits {o : List Int} (ho : o ∈ U4) : nameS o = bits o := (tab_at ho).1
theorem lay_bits {o : List Int} (ho : o ∈ U4) : (PyData.str (bits o)).canLay0 = true := (tab_at ho).2.1
end
section
open PySem PySem.W PyProof.Rows PySem.Calls
set_option maxRecDepth 100000
set_option maxHeartbeats 1000000
noncomputable def stuff8 : List Str := ["A-P", "Q-Za-f", "g-v", "w-z0-9+/", "A-D", "E-H", "I-L", "89+/"]
theorem noMatch8 : ∀ s ∈ stuff8, noMatch s := fun s hs => by
  unfold stuff8 at hs
  rcases List.mem_cons.mp hs with rfl | hs
  · exact fun S => by kernel_rfl
  rcases List.mem_cons.mp hs with rfl | hs
  · exact fun S => by kernel_rfl
  rcases List.mem_cons.mp hs with rfl | hs
  · exact fun S => by kernel_rfl
  rcases List.mem_cons.mp hs with rfl | hs
  · exact fun S => by kernel_rfl
  rcases List.mem_cons.mp hs with rfl | hs
  · exact fun S => by kernel_rfl
  rcases List.mem_cons.mp hs with rfl | hs
  · exact fun S => by kernel_rfl
  rcases List.mem_cons.mp hs with rfl | hs
  · exact fun S => by kernel_rfl
  rcases List.mem_cons.mp hs with rfl | hs
  · exact fun S => by kernel_rfl
  cases hs
noncomputable def atB (x : Str) (i : Int) (P : Str → Bool) : Bool := match at? x i with | some c => P ⟨#[c]⟩ | none => false
theorem atB_ex {x : Str} {i : Int} {P : Str → Bool} (h : atB x i P = true) : ∃ c : Nat, at? x i = some c ∧ P ⟨#[c]⟩ = true := by
  unfold atB at h
  split at h
  · rename_i c hc; exact ⟨c, hc, h⟩
  · cases h
noncomputable def stuffB (s : Str) : Bool := stuff8.elem s && decide (0 < s.length) && decide (s.length ≤ 1000) && (s != "!") && atB s 0 (fun c => (c != "!") && !([("^" : Str), "["].any fun y => y == c))
theorem stuffB_ok {s : Str} (h : stuffB s = true) : StuffOk s := by
  unfold stuffB at h
  simp only [Bool.and_eq_true, decide_eq_true_iff] at h
  obtain ⟨⟨⟨⟨h1, h2⟩, h3⟩, h4⟩, h5⟩ := h
  obtain ⟨c, c1, c2⟩ := atB_ex h5
  rw [Bool.and_eq_true] at c2
  exact ⟨noMatch8 s (by simpa using h1), h2, h3, by simpa using h4, c, c1, by simpa using c2.1, by simpa using c2.2⟩
noncomputable def dashAll (pat : Str) (i j : Int) : Option (List Str) := match chunkGo pat j 20 i (i + 1) [] with
  | some (i', cs) => if cs.length ≤ 20 ∧ (cutS pat (some i') (some j)).length ≠ 0 then some (cs ++ [cutS pat (some i') (some j)]) else none
  | none => none
noncomputable def dashB (pat : Str) (i j : Int) (stuff : Str) : Bool := match dashAll pat i j with
  | some all => decide (pat.length ≤ 1000) && decide (-1000 ≤ i) && decide (i ≤ 1000) && atB pat i (fun c => c != "!") && (List.range (all.length - 1)).all (fun k => pairOk all ((all.length : Int) - 1 + (k : Int) * (-1))) && JoinOk "-" all && (Txt.join "-" all == stuff) && all.all (fun c => noOcc c "\\") && all.all (fun c => noOcc c "-")
  | none => false
theorem dashB_ok {pat : Str} {i j : Int} {stuff : Str} (h : dashB pat i j stuff = true) : ∃ all, DashOk pat i j stuff all := by
  unfold dashB at h
  split at h
  · rename_i all ha
    simp only [Bool.and_eq_true, decide_eq_true_iff] at h
    obtain ⟨⟨⟨⟨⟨⟨⟨⟨h1, h2⟩, h3⟩, h4⟩, h5⟩, h6⟩, h7⟩, h8⟩, h9⟩ := h
    obtain ⟨c, c1, c2⟩ := atB_ex h4
    refine ⟨all, h1, h2, h3, ⟨c, c1, by simpa using c2⟩, ?_, fun k hk => List.all_eq_true.mp h5 k (List.mem_range.mpr hk), h6, by simpa using h7, fun c hc => List.all_eq_true.mp h8 c hc, fun c hc => List.all_eq_true.mp h9 c hc⟩
    unfold dashAll at ha
    split at ha
    · rename_i i' cs hg
      split at ha
      · rename_i hh
        cases ha
        exact ⟨i', cs, hg, hh.1, hh.2, rfl⟩
      · cases ha
    · cases ha
  · cases h
noncomputable def brkB (pat : Str) (p : Nat) (stuff : Str) (j : Nat) : Bool :=
  decide (pat.length ≤ 1000) && decide (p + 1 < j) && decide (j < pat.length) && atB pat ((p : Int) + 1) (fun c => (c != "!") && (c != "]")) && (List.range j).all (fun q => decide (q < p + 1) || atB pat q (fun c => c != "]")) && (at? pat j == some 93) && (cutS pat (some ((p : Int) + 1)) (some j) == stuff) &&
  (((Builtin.Str.occurrences stuff "-" 0 stuff.length 1).isEmpty && noOcc stuff "\\") || (!(Builtin.Str.occurrences stuff "-" 0 stuff.length 1).isEmpty && dashB pat ((p : Int) + 1) j stuff)) && stuffB stuff
theorem brkB_ok {pat : Str} {p j : Nat} {stuff : Str} (h : brkB pat p stuff j = true) : BrkOk pat p stuff j := by
  unfold brkB at h
  simp only [Bool.and_eq_true, decide_eq_true_iff] at h
  obtain ⟨⟨⟨⟨⟨⟨⟨⟨h1, h2⟩, h3⟩, h4⟩, h5⟩, h6⟩, h7⟩, h8⟩, h9⟩ := h
  obtain ⟨c, c1, c2⟩ := atB_ex h4
  rw [Bool.and_eq_true] at c2
  refine ⟨h1, h2, h3, ⟨c, c1, by simpa using c2.1, by simpa using c2.2⟩, fun q hq hj => ?_, by simpa using h6, by simpa using h7, ?_, stuffB_ok h9⟩
  · have := List.all_eq_true.mp h5 q (List.mem_range.mpr hj)
    rw [Bool.or_eq_true, decide_eq_true_iff] at this
    rcases this with z | z
    · omega
    · obtain ⟨d, d1, d2⟩ := atB_ex z
      exact ⟨d, d1, by simpa using d2⟩
  · rw [Bool.or_eq_true, Bool.and_eq_true, Bool.and_eq_true] at h8
    rcases h8 with ⟨z1, z2⟩ | ⟨z1, z2⟩
    · exact .inl ⟨z1, z2⟩
    · exact .inr ⟨by simpa using z1, dashB_ok z2⟩
noncomputable def patAtB (pat : Str) : Nat → List Tk → Bool
  | p, [] => (at? pat p == some 42) && (p + 1 == pat.length)
  | p, .sign c :: r => decide (c < 128) && (at? pat p == some c) && ((⟨#[c]⟩ : Str) != "*") && ((⟨#[c]⟩ : Str) != "?") && ((⟨#[c]⟩ : Str) != "[") && patAtB pat (p + 1) r
  | p, .brk s :: r => (at? pat p == some 91) && brkB pat p s (p + 1 + s.length) && patAtB pat (p + 1 + s.length + 1) r
theorem patAtB_ok {pat : Str} : ∀ {tks : List Tk} {p : Nat}, patAtB pat p tks = true → PatAt pat p tks
  | [], p, h => by
    rw [patAtB, Bool.and_eq_true] at h
    exact .nil (by simpa using h.1) (by simpa using h.2)
  | .sign c :: r, p, h => by
    rw [patAtB] at h
    simp only [Bool.and_eq_true, decide_eq_true_iff] at h
    obtain ⟨⟨⟨⟨⟨h1, h2⟩, h3⟩, h4⟩, h5⟩, h6⟩ := h
    exact .cons (p' := p + 1) ⟨h1, by simpa using h2, by simpa using h3, by simpa using h4, by simpa using h5, rfl⟩ (patAtB_ok h6)
  | .brk s :: r, p, h => by
    rw [patAtB] at h
    simp only [Bool.and_eq_true] at h
    obtain ⟨⟨h1, h2⟩, h3⟩ := h
    exact .cons (p' := p + 1 + s.length + 1) ⟨by simpa using h1, _, brkB_ok h2, rfl⟩ (patAtB_ok h3)
noncomputable def patB (B : List Int) : Bool :=
  let p := pat B
  let tks := tksOf p
  let xs := tks.map Tk.part
  patAtB p 0 tks && decide (tks.length ≤ 100) && decide (p.length ≤ 1000) && xs.all (fun x => (x != "*") && decide (x.length ≤ 1000)) && decide ((Txt.join "" (xs ++ [(".*" : Str)])).length ≤ 500000) && xs.all (fun x => decide (0 < x.length) && (setGo 100 (setIn x) "").isSome) && decide ((Txt.join "" xs).length ≤ 100000) && (PyData.str (joinS xs)).canLay0 && decide (B.length ≤ 3) && B.all (fun i => decide (0 ≤ i) && decide (i < 256))
theorem patB_ok {B : List Int} (h : patB B = true) : PatB B (setsOf B) := by
  unfold patB at h
  simp only [Bool.and_eq_true, decide_eq_true_iff] at h
  obtain ⟨⟨⟨⟨⟨⟨⟨⟨⟨h1, h2⟩, h3⟩, h4⟩, h5⟩, h6⟩, h7⟩, h8⟩, h9⟩, h10⟩ := h
  refine ⟨⟨tksOf (pat B), ⟨patAtB_ok h1, h2, h3, fun x hx => ?_, h5⟩, fun x hx => ?_, h7, h8, rfl⟩, h9, fun i hi => ?_⟩
  · have := List.all_eq_true.mp h4 x hx
    rw [Bool.and_eq_true, decide_eq_true_iff] at this
    exact ⟨by simpa using this.1, this.2⟩
  · have := List.all_eq_true.mp h6 x hx
    rw [Bool.and_eq_true, decide_eq_true_iff] at this
    exact this
  · have := List.all_eq_true.mp h10 i hi
    rw [Bool.and_eq_true, decide_eq_true_iff, decide_eq_true_iff] at this
    exact this
theorem pats3 : U3.all patB = true := by decide +kernel
theorem patB_U {B : List Int} (hB : B ∈ U3) : PatB B (setsOf B) := patB_ok (List.all_eq_true.mp pats3 B hB)
end
section
open PySem PySem.W PyProof.Rows PySem.Calls
set_option maxRecDepth 100000
set_option maxHeartbeats 1000000
theorem ltS_iff {a b : Str} : ltS a b = true ↔ a.cps.toList < b.cps.toList := by unfold ltS; exact decide_eq_true_iff
theorem ltS_irrefl (a : Str) : ltS a a = false := by
  cases h : ltS a a with
  | false => rfl
  | true => exact absurd (ltS_iff.mp h) (List.lt_irrefl _)
theorem ltS_trans {a b c : Str} (h : ltS a b = true) (h' : ltS b c = true) : ltS a c = true := ltS_iff.mpr (List.lt_trans (ltS_iff.mp h) (ltS_iff.mp h'))
theorem ltS_asymm {a b : Str} (h : ltS a b = true) : ltS b a = false := by
  cases h' : ltS b a with
  | false => rfl
  | true => have := ltS_trans h h'; rw [ltS_irrefl] at this; cases this
theorem ltS_tri {a b : Str} (h : ltS a b = false) (h' : ltS b a = false) : a = b := by
  have h1 : ¬ a.cps.toList < b.cps.toList := fun z => by rw [ltS_iff.mpr z] at h; cases h
  have h2 : ¬ b.cps.toList < a.cps.toList := fun z => by rw [ltS_iff.mpr z] at h'; cases h'
  have : a.cps.toList = b.cps.toList := List.le_antisymm (List.not_lt.mp h2) (List.not_lt.mp h1)
  obtain ⟨⟨x⟩⟩ := a
  obtain ⟨⟨y⟩⟩ := b
  have this : x = y := this
  rw [this]
theorem ltS_of_le {a b c : Str} (h : ltS b a = false) (h' : ltS b c = true) : ltS a c = true := by
  cases hab : ltS a b with
  | true => exact ltS_trans hab h'
  | false => rw [ltS_tri hab h]; exact h'
theorem ltS_of_lt {a b c : Str} (h : ltS a b = true) (h' : ltS c b = false) : ltS a c = true := by
  cases hbc : ltS b c with
  | true => exact ltS_trans h hbc
  | false => rw [← ltS_tri hbc h']; exact h
noncomputable def Srt (l : List Str) : Prop := l.Pairwise fun a b => ltS b a = false
theorem risingS_iff : ∀ (p : Str) (l : List Str), risingS p l = true ↔ Srt (p :: l)
  | p, [] => by simp [risingS, Srt]
  | p, x :: r => by
    have hlt : ∀ a b : Str, PySem.Spec.ltCps a.cps.toList b.cps.toList = ltS a b := fun a b => ltCps_eq _ _
    rw [risingS, Bool.and_eq_true, risingS_iff x r, hlt]
    unfold Srt
    constructor
    · rintro ⟨h1, h2⟩
      have h1 : ltS x p = false := by simpa using h1
      refine List.pairwise_cons.mpr ⟨fun y hy => ?_, h2⟩
      rcases List.mem_cons.mp hy with rfl | hy
      · exact h1
      · have h3 := (List.pairwise_cons.mp h2).1 y hy
        cases hyp : ltS y p with
        | false => rfl
        | true => have := ltS_of_le h3 hyp; rw [h1] at this; cases this
    · intro h
      have h' := List.pairwise_cons.mp h
      exact ⟨by simpa using h'.1 x List.mem_cons_self, h'.2⟩
theorem sortedS_iff (l : List Str) : sortedS l = true ↔ Srt l := by
  cases l with
  | nil => simp [sortedS, Srt]
  | cons x r => exact risingS_iff x r
theorem Srt.uniq : ∀ {a b : List Str}, Srt a → Srt b → a.Perm b → a = b
  | [], b, _, _, p => (List.nil_perm.mp p).symm ▸ rfl
  | x :: a, b, ha, hb, p => by
    cases b with
    | nil => exact absurd p.symm (by simp)
    | cons y b =>
      have ha' := List.pairwise_cons.mp ha
      have hb' := List.pairwise_cons.mp hb
      have hxy : x = y := by
        have hx : x ∈ y :: b := p.mem_iff.mp List.mem_cons_self
        have hy : y ∈ x :: a := p.mem_iff.mpr List.mem_cons_self
        rcases List.mem_cons.mp hx with e | hx
        · exact e
        rcases List.mem_cons.mp hy with e | hy
        · exact e.symm
        exact ltS_tri (hb'.1 x hx) (ha'.1 y hy)
      subst hxy
      rw [Srt.uniq ha'.2 hb'.2 ((List.perm_cons x).mp p)]
noncomputable def srt (l : List Str) : List Str := l.mergeSort fun a b => !ltS b a
theorem srt_perm (l : List Str) : (srt l).Perm l := List.mergeSort_perm _ _
theorem srt_srt (l : List Str) : Srt (srt l) := by
  have h := List.pairwise_mergeSort (le := fun a b : Str => !ltS b a) (fun a b c h1 h2 => ?_) (fun a b => ?_) l
  · exact h.imp fun h => by simpa using h
  · have h1 : ltS b a = false := by simpa using h1
    have h2 : ltS c b = false := by simpa using h2
    cases hc : ltS c a with
    | false => rfl
    | true => have := ltS_of_le h2 hc; rw [h1] at this; cases this
  · cases hc : ltS b a with
    | false => simp
    | true => simp [ltS_asymm hc]
theorem sorted_only {l : List Str} : ∀ ss' : List Str, ss'.Perm l → sortedS ss' = true → ss' = srt l := fun ss' p h => Srt.uniq ((sortedS_iff _).mp h) (srt_srt l) (p.trans (srt_perm l).symm)
theorem sorted_is {l r : List Str} (hr : Srt r) (hp : r.Perm l) : ∀ ss' : List Str, ss'.Perm l → sortedS ss' = true → ss' = r := fun ss' p h => Srt.uniq ((sortedS_iff _).mp h) hr (p.trans hp.symm)
end
section
open PySem PySem.W PyProof.Rows PySem.Calls
set_option maxRecDepth 100000
set_option maxHeartbeats 1000000
section
variable {α : Type} [DecidableEq α] [BEq α] [LawfulBEq α]
noncomputable def uoG : List α → List α → List α → List α × List α
  | [], M, A => (M, A)
  | x :: r, M, A => if x ∈ A then uoG r M (A.erase x) else uoG r (M ++ [x]) A
noncomputable def rem : List α → (α → Nat) → List α
  | [], _ => []
  | y :: r, c => if c y = 0 then y :: rem r c else rem r (fun z => if z = y then c z - 1 else c z)
noncomputable def missG (S : List α) : List α → List α
  | [] => []
  | x :: T => if S.count x < (x :: T).count x then x :: missG S T else missG S T
theorem rem_count (x : α) : ∀ (S : List α) (c : α → Nat), (rem S c).count x = S.count x - c x
  | [], c => by simp [rem]
  | y :: r, c => by
    rw [rem]
    split
    · rename_i h
      rw [List.count_cons, List.count_cons, rem_count x r c]
      by_cases e : y = x
      · subst e; simp [h]
      · simp [e]
    · rename_i h
      rw [rem_count x r, List.count_cons]
      by_cases e : y = x
      · subst e; simp; exact cnt_sub h
      · have e' : ¬ x = y := fun z => e z.symm
        simp [e, e']
theorem rem_erase (x : α) : ∀ (S : List α) (c : α → Nat), (rem S c).erase x = rem S (fun z => if z = x then c z + 1 else c z)
  | [], c => by simp [rem]
  | y :: r, c => by
    by_cases e : y = x
    · subst e
      have hR : rem (y :: r) (fun z => if z = y then c z + 1 else c z) = rem r c := by
        rw [rem]
        have h1 : ¬ ((fun z => if z = y then c z + 1 else c z) y = 0) := by simp
        rw [if_neg h1]
        congr 1
        funext z
        by_cases ez : z = y <;> simp [ez]
      rw [hR, rem]
      split
      · rw [List.erase_cons_head]
      · rename_i h
        rw [rem_erase y r]
        congr 1
        funext z
        by_cases ez : z = y
        · subst ez; simp; omega
        · simp [ez]
    · have hR : rem (y :: r) (fun z => if z = x then c z + 1 else c z) = if c y = 0 then y :: rem r (fun z => if z = x then c z + 1 else c z) else rem r (fun z => if z = y then (if z = x then c z + 1 else c z) - 1 else if z = x then c z + 1 else c z) := by
        rw [rem]
        have h1 : (if y = x then c y + 1 else c y) = c y := if_neg e
        rw [h1]
      rw [hR, rem]
      split
      · rename_i h
        rw [List.erase_cons_tail (by simpa using e), rem_erase x r]
      · rename_i h
        rw [rem_erase x r]
        congr 1
        funext z
        by_cases ez : z = x
        · subst ez
          have : ¬ z = y := fun q => e q.symm
          simp [this]
        · simp [ez]
theorem rem_over (x : α) (S : List α) (c : α → Nat) (h : S.count x ≤ c x) : rem S (fun z => if z = x then c z + 1 else c z) = rem S c := by
  rw [← rem_erase, List.erase_of_not_mem]
  intro hm
  have := List.count_pos_iff.mpr hm
  rw [rem_count] at this
  omega
theorem uoG_snoc (x : α) : ∀ (r M A : List α), uoG (r ++ [x]) M A = (let p := uoG r M A; if x ∈ p.2 then (p.1, p.2.erase x) else (p.1 ++ [x], p.2))
  | [], M, A => by
    rw [List.nil_append, uoG, uoG]
    split <;> simp [uoG, *]
  | y :: r, M, A => by
    rw [List.cons_append, uoG, uoG]
    split
    · exact uoG_snoc x r M _
    · exact uoG_snoc x r _ A
theorem uoG_is (S : List α) : ∀ T : List α, uoG T.reverse [] S = ((missG S T).reverse, rem S (fun z => T.count z))
  | [] => by
    show ([], S) = _
    have : ∀ S : List α, rem S (fun z => ([] : List α).count z) = S := by
      intro S
      induction S with
      | nil => rfl
      | cons y r ih => rw [rem, if_pos (by simp), ih]
    rw [this]; rfl
  | x :: T => by
    rw [List.reverse_cons, uoG_snoc, uoG_is S T]
    have hc : (fun z => (x :: T).count z) = fun z => if z = x then T.count z + 1 else T.count z := by
      funext z
      rw [List.count_cons]
      by_cases e : x = z
      · subst e; simp
      · have : ¬ z = x := fun q => e q.symm
        simp [e, this]
    dsimp only
    have hm : x ∈ rem S (fun z => T.count z) ↔ T.count x < S.count x := by
      rw [← List.count_pos_iff, rem_count]; omega
    rw [missG, List.count_cons_self]
    by_cases h : T.count x < S.count x
    · rw [if_pos (hm.mpr h), if_neg (by omega), rem_erase, hc]
    · rw [if_neg (fun z => h (hm.mp z)), if_pos (by omega), List.reverse_cons, hc, rem_over x S _ (by omega)]
end
end
section
open PySem PySem.W PyProof.Rows PySem.Calls
set_option maxRecDepth 100000
set_option maxHeartbeats 1000000
theorem filt_idx {α : Type} (d : α) (P : Nat → Bool) (x : α) (l : List α) : ((List.range (x :: l).length).filter P).map (fun k => (x :: l).getD k d) = (if P 0 then [x] else []) ++ ((List.range l.length).filter fun k => P (k + 1)).map (fun k => l.getD k d) := by
  rw [List.length_cons, List.range_succ_eq_map, List.filter_cons, List.filter_map]
  have e : ((List.range l.length).filter (P ∘ Nat.succ)) = (List.range l.length).filter fun k => P (k + 1) := rfl
  rw [e]
  split
  · rw [List.map_cons, List.map_map]; rfl
  · rw [List.map_map]; rfl
theorem missG_idx (d : List Int) (S : List (List Int)) : ∀ F : List (List Int), missG S F = ((List.range F.length).filter fun k => decide (S.count (F.getD k d) < (F.drop k).count (F.getD k d))).map fun k => F.getD k d
  | [] => rfl
  | x :: T => by
    rw [filt_idx, missG, missG_idx d S T]
    by_cases h : S.count x < (x :: T).count x
    · rw [if_pos h, if_pos (by simpa using h)]; rfl
    · rw [if_neg h, if_neg (by simpa using h)]; rfl
theorem rem_idx (d : List Int) : ∀ (S : List (List Int)) (c : List Int → Nat), rem S c = ((List.range S.length).filter fun k => decide (c (S.getD k d) < (S.take (k + 1)).count (S.getD k d))).map fun k => S.getD k d
  | [], c => rfl
  | y :: r, c => by
    rw [filt_idx, rem]
    have h0 : decide (c ((y :: r).getD 0 d) < ((y :: r).take (0 + 1)).count ((y :: r).getD 0 d)) = decide (c y = 0) := by simp
    rw [h0]
    by_cases h : c y = 0
    · rw [if_pos h, if_pos (by simpa using h), rem_idx d r c, List.singleton_append]
      congr 1
      congr 1
      refine List.filter_congr fun k hk => ?_
      have hk := List.mem_range.mp hk
      have hm : 0 < (r.take (k + 1)).count (r.getD k d) := by
        refine List.count_pos_iff.mpr ?_
        rw [List.getD_eq_getElem?_getD, List.getElem?_eq_getElem hk]
        exact List.mem_take_iff_getElem.mpr ⟨k, by omega, rfl⟩
      show decide (c (r.getD k d) < (r.take (k + 1)).count (r.getD k d)) = decide (c (r.getD k d) < (y :: r.take (k + 1)).count (r.getD k d))
      generalize r.getD k d = z at hm ⊢
      rw [List.count_cons]
      by_cases e : y = z
      · subst e
        rw [h, if_pos (by simp)]
        exact decide_eq_decide.mpr (by omega)
      · rw [if_neg (by simpa using e)]; rfl
    · rw [if_neg h, if_neg (by simpa using h), rem_idx d r, List.nil_append]
      congr 1
      refine List.filter_congr fun k hk => ?_
      show decide ((if r.getD k d = y then c (r.getD k d) - 1 else c (r.getD k d)) < (r.take (k + 1)).count (r.getD k d)) = decide (c (r.getD k d) < (y :: r.take (k + 1)).count (r.getD k d))
      generalize r.getD k d = z
      rw [List.count_cons]
      by_cases e : z = y
      · subst e
        rw [if_pos rfl, if_pos (by simp)]
        exact decide_eq_decide.mpr (by omega)
      · have e' : ¬ y = z := fun q => e q.symm
        rw [if_neg e, if_neg (by simpa using e')]; rfl
theorem missL_is (F S : List (List Int)) : missL F S = (missG S F).map bits := by
  rw [missG_idx [], List.map_map]
  unfold missL
  congr 1
  refine List.filter_congr fun k hk => ?_
  have hk := List.mem_range.mp hk
  unfold missP
  rw [pickL_from _ _ (by omega)]
  simp
theorem leftL_is (F S : List (List Int)) : leftL F S = (rem S fun z => F.count z).map bits := by
  rw [rem_idx [], List.map_map]
  unfold leftL
  congr 1
  refine List.filter_congr fun k hk => ?_
  unfold leftP
  rw [show ((k : Int) + 1) = ((k + 1 : Nat) : Int) from rfl, pickL_take]
  simp
theorem mem_inj {f : List Int → Str} {l : List (List Int)} {x : List Int} (h : ∀ y ∈ l, f y = f x → y = x) : f x ∈ l.map f ↔ x ∈ l :=
  ⟨fun hm => by obtain ⟨y, hy, e⟩ := List.mem_map.mp hm; exact h y hy e ▸ hy, fun hm => List.mem_map_of_mem hm⟩
theorem erase_inj {f : List Int → Str} {x : List Int} : ∀ {l : List (List Int)}, (∀ y ∈ l, f y = f x → y = x) → (l.map f).erase (f x) = (l.erase x).map f
  | [], _ => rfl
  | y :: l, h => by
    rw [List.map_cons]
    by_cases e : y = x
    · subst e; rw [List.erase_cons_head, List.erase_cons_head]
    · have e' : ¬ f y = f x := fun z => e (h y List.mem_cons_self z)
      rw [List.erase_cons_tail (by simpa using e'), List.erase_cons_tail (by simpa using e), List.map_cons, erase_inj fun z hz => h z (List.mem_cons_of_mem _ hz)]
theorem uo_map {f : List Int → Str} {U : List (List Int)} (inj : ∀ x ∈ U, ∀ y ∈ U, f x = f y → x = y) : ∀ (r M A : List (List Int)), (∀ x ∈ r, x ∈ U) → (∀ x ∈ A, x ∈ U) → uo (r.map f) (M.map f) (A.map f) = ((uoG r M A).1.map f, (uoG r M A).2.map f)
  | [], M, A, _, _ => rfl
  | x :: r, M, A, hr, hA => by
    have hx := hr x List.mem_cons_self
    have hr' : ∀ y ∈ r, y ∈ U := fun y hy => hr y (List.mem_cons_of_mem _ hy)
    have hi : ∀ y ∈ A, f y = f x → y = x := fun y hy e => inj y (hA y hy) x hx e
    rw [List.map_cons, uo, uoG]
    by_cases h : x ∈ A
    · rw [if_pos ((mem_inj hi).mpr h), if_pos h, erase_inj hi]
      exact uo_map inj r M (A.erase x) hr' fun y hy => hA y (List.mem_of_mem_erase hy)
    · rw [if_neg (fun z => h ((mem_inj hi).mp z)), if_neg h]
      have e : M.map f ++ [f x] = (M ++ [x]).map f := by simp
      rw [e]
      exact uo_map inj r (M ++ [x]) A hr' hA
theorem uo_law {F S : List (List Int)} (inj : ∀ x ∈ U4, ∀ y ∈ U4, bits x = bits y → x = y) (hF : ∀ x ∈ F, x ∈ U4) (hS : ∀ x ∈ S, x ∈ U4) : uo (bsL F).reverse [] (bsL S) = ((missL F S).reverse, leftL F S) := by
  have h := uo_map inj F.reverse [] S (fun x hx => hF x (List.mem_reverse.mp hx)) hS
  unfold bsL
  rw [← List.map_reverse]
  rw [List.map_nil] at h
  rw [h, uoG_is, missL_is, leftL_is, List.map_reverse]
end
section
open PySem PySem.W PyProof.Rows PySem.Calls
set_option maxRecDepth 100000
set_option maxHeartbeats 1000000
theorem bits_inj : ∀ x ∈ U4, ∀ y ∈ U4, bits x = bits y → x = y := fun x hx y hy e => by
  have h1 := (tab_at hx).2.2.1
  have h2 := (tab_at hy).2.2.1
  have : bOf x = bOf y := by unfold bOf; rw [e]
  rw [← h1, ← h2, this]
end
section
open PySem PySem.W PyProof.Rows PySem.Calls
set_option maxRecDepth 100000
set_option maxHeartbeats 1000000
noncomputable def sdFf : Nat → List Str → List Str → List Str × List Str
  | 0, _, _ => ([], [])
  | f + 1, X, Y => match X with
    | [] => ([], Y)
    | e :: X' => match Y with
      | [] => (X, [])
      | a :: Y' =>
        if ltS e a then (e :: (sdFf f (X'.dropWhile (· == e)) Y).1, (sdFf f (X'.dropWhile (· == e)) Y).2)
        else if ltS a e then ((sdFf f X (Y'.dropWhile (· == a))).1, a :: (sdFf f X (Y'.dropWhile (· == a))).2)
        else sdFf f (X'.dropWhile (· == e)) (Y'.dropWhile (· == a))
/-- the ordered difference, on lists -/
noncomputable def sdF (X Y : List Str) : List Str × List Str := sdFf (X.length + Y.length + 1) X Y
theorem dropW_length (l : List Str) (e : Str) : (l.dropWhile (· == e)).length ≤ l.length := (List.dropWhile_suffix _).length_le
theorem sdFf_nil (f : Nat) (Y : List Str) : sdFf (f + 1) [] Y = ([], Y) := rfl
theorem sdFf_nilr : ∀ (f : Nat) (X : List Str), sdFf (f + 1) X [] = (X, [])
  | _, [] => rfl
  | _, _ :: _ => rfl
theorem sdFf_cons (f : Nat) (e a : Str) (X Y : List Str) : sdFf (f + 1) (e :: X) (a :: Y) = if ltS e a then (e :: (sdFf f (X.dropWhile (· == e)) (a :: Y)).1, (sdFf f (X.dropWhile (· == e)) (a :: Y)).2)
    else if ltS a e then ((sdFf f (e :: X) (Y.dropWhile (· == a))).1, a :: (sdFf f (e :: X) (Y.dropWhile (· == a))).2)
    else sdFf f (X.dropWhile (· == e)) (Y.dropWhile (· == a)) := rfl
theorem sdFf_any : ∀ (f g : Nat) (X Y : List Str), X.length + Y.length < f → X.length + Y.length < g → sdFf f X Y = sdFf g X Y := by
  intro f
  induction f with
  | zero => intro g X Y h; exact absurd h (Nat.not_lt_zero _)
  | succ f ih =>
    intro g X Y h1 h2
    cases g with
    | zero => exact absurd h2 (Nat.not_lt_zero _)
    | succ g =>
      cases X with
      | nil => rw [sdFf_nil, sdFf_nil]
      | cons e X =>
        cases Y with
        | nil => rw [sdFf_nilr, sdFf_nilr]
        | cons a Y =>
          have d1 := dropW_length X e
          have d2 := dropW_length Y a
          simp only [List.length_cons] at h1 h2
          rw [sdFf_cons, sdFf_cons, ih g (X.dropWhile (· == e)) (a :: Y) (by simp only [List.length_cons]; omega) (by simp only [List.length_cons]; omega), ih g (e :: X) (Y.dropWhile (· == a)) (by simp only [List.length_cons]; omega) (by simp only [List.length_cons]; omega), ih g _ _ (by omega) (by omega)]
theorem sdF_nil (Y : List Str) : sdF [] Y = ([], Y) := rfl
theorem sdF_nilr (X : List Str) : sdF X [] = (X, []) := sdFf_nilr _ X
theorem sdF_cons (e a : Str) (X Y : List Str) : sdF (e :: X) (a :: Y) = if ltS e a then (e :: (sdF (X.dropWhile (· == e)) (a :: Y)).1, (sdF (X.dropWhile (· == e)) (a :: Y)).2)
    else if ltS a e then ((sdF (e :: X) (Y.dropWhile (· == a))).1, a :: (sdF (e :: X) (Y.dropWhile (· == a))).2)
    else sdF (X.dropWhile (· == e)) (Y.dropWhile (· == a)) := by
  have d1 := dropW_length X e
  have d2 := dropW_length Y a
  unfold sdF
  rw [sdFf_cons, sdFf_any _ ((X.dropWhile (· == e)).length + (a :: Y).length + 1) (X.dropWhile (· == e)) (a :: Y) (by simp only [List.length_cons]; omega) (Nat.lt_succ_self _),
    sdFf_any _ ((e :: X).length + (Y.dropWhile (· == a)).length + 1) (e :: X) (Y.dropWhile (· == a)) (by simp only [List.length_cons]; omega) (Nat.lt_succ_self _),
    sdFf_any _ ((X.dropWhile (· == e)).length + (Y.dropWhile (· == a)).length + 1) (X.dropWhile (· == e)) (Y.dropWhile (· == a)) (by simp only [List.length_cons]; omega) (Nat.lt_succ_self _)]
theorem drop_tw (p : Str → Bool) : ∀ l : List Str, l.drop (l.takeWhile p).length = l.dropWhile p
  | [] => rfl
  | a :: l => by
    cases h : p a with
    | true => simp [h, drop_tw p l]
    | false => simp [h]
theorem skip_drop (xs : List Str) (e : Str) (i : Nat) : xs.drop (skipN xs e i) = (xs.drop i).dropWhile (· == e) := by
  unfold skipN
  rw [← List.drop_drop, drop_tw]
theorem sdGo_F (xs ys : List Str) : ∀ (n f i j : Nat) (M U : List Str), (xs.drop i).length + (ys.drop j).length ≤ n → n < f → sdGo xs ys f i j M U = some (M ++ (sdF (xs.drop i) (ys.drop j)).1, U ++ (sdF (xs.drop i) (ys.drop j)).2) := by
  intro n
  induction n with
  | zero =>
    intro f i j M U hn hf
    obtain ⟨f, rfl⟩ : ∃ g, f = g + 1 := ⟨f - 1, by omega⟩
    have hx : xs.drop i = [] := List.eq_nil_of_length_eq_zero (by omega)
    have hi : xs[i]? = none := List.getElem?_eq_none (List.drop_eq_nil_iff.mp hx)
    have hy : ys.drop j = [] := List.eq_nil_of_length_eq_zero (by omega)
    rw [sdGo, hi, hx, hy]
    simp [sdF_nil, sdF_nilr]
  | succ n ih =>
    intro f i j M U hn hf
    obtain ⟨f, rfl⟩ : ∃ g, f = g + 1 := ⟨f - 1, by omega⟩
    rw [sdGo]
    cases hi : xs[i]? with
    | none =>
      have hx : xs.drop i = [] := List.drop_eq_nil_of_le (List.getElem?_eq_none_iff.mp hi)
      rw [hx]
      simp [sdF_nil, sdF_nilr]
    | some e =>
      have hil := (List.getElem?_eq_some_iff.mp hi).1
      have hx : xs.drop i = e :: xs.drop (i + 1) := by rw [List.drop_eq_getElem_cons hil, (List.getElem?_eq_some_iff.mp hi).2]
      cases hj : ys[j]? with
      | none =>
        have hy : ys.drop j = [] := List.drop_eq_nil_of_le (List.getElem?_eq_none_iff.mp hj)
        rw [hy, hx]
        simp [sdF_nil, sdF_nilr]
      | some a =>
        have hjl := (List.getElem?_eq_some_iff.mp hj).1
        have hy : ys.drop j = a :: ys.drop (j + 1) := by rw [List.drop_eq_getElem_cons hjl, (List.getElem?_eq_some_iff.mp hj).2]
        have d1 := dropW_length (xs.drop (i + 1)) e
        have d2 := dropW_length (ys.drop (j + 1)) a
        have n1 : (xs.drop i).length = (xs.drop (i + 1)).length + 1 := by rw [hx]; rfl
        have n2 : (ys.drop j).length = (ys.drop (j + 1)).length + 1 := by rw [hy]; rfl
        dsimp only
        by_cases h1 : ltS e a = true
        · rw [if_pos h1, ih f _ _ _ _ (by rw [skip_drop]; omega) (by omega), skip_drop]
          have e1 : sdF (xs.drop i) (ys.drop j) = (e :: (sdF ((xs.drop (i + 1)).dropWhile (· == e)) (ys.drop j)).1, (sdF ((xs.drop (i + 1)).dropWhile (· == e)) (ys.drop j)).2) := by
            rw [hx, hy, sdF_cons, if_pos h1]
          rw [e1]; simp
        · rw [if_neg h1]
          by_cases h2 : ltS a e = true
          · rw [if_pos h2, ih f _ _ _ _ (by rw [skip_drop]; omega) (by omega), skip_drop]
            have e1 : sdF (xs.drop i) (ys.drop j) = ((sdF (xs.drop i) ((ys.drop (j + 1)).dropWhile (· == a))).1, a :: (sdF (xs.drop i) ((ys.drop (j + 1)).dropWhile (· == a))).2) := by
              rw [hx, hy, sdF_cons, if_neg h1, if_pos h2]
            rw [e1]; simp
          · rw [if_neg h2, ih f _ _ _ _ (by rw [skip_drop, skip_drop]; omega) (by omega), skip_drop, skip_drop]
            have e1 : sdF (xs.drop i) (ys.drop j) = sdF ((xs.drop (i + 1)).dropWhile (· == e)) ((ys.drop (j + 1)).dropWhile (· == a)) := by
              rw [hx, hy, sdF_cons, if_neg h1, if_neg h2]
            rw [e1]
end
section
open PySem PySem.W PyProof.Rows PySem.Calls
set_option maxRecDepth 100000
set_option maxHeartbeats 1000000
theorem sdF_swap : ∀ (n : Nat) (X Y : List Str), X.length + Y.length ≤ n → (sdF X Y).2 = (sdF Y X).1 := by
  intro n
  induction n with
  | zero =>
    intro X Y h
    obtain rfl : X = [] := List.eq_nil_of_length_eq_zero (by omega)
    rw [sdF_nil, sdF_nilr]
  | succ n ih =>
    intro X Y h
    cases X with
    | nil => rw [sdF_nil, sdF_nilr]
    | cons e X =>
      cases Y with
      | nil => rw [sdF_nil, sdF_nilr]
      | cons a Y =>
        have d1 := dropW_length X e
        have d2 := dropW_length Y a
        simp only [List.length_cons] at h
        rw [sdF_cons, sdF_cons]
        by_cases h1 : ltS e a = true
        · rw [if_pos h1, if_neg (by rw [ltS_asymm h1]; decide), if_pos h1]
          exact ih _ _ (by simp only [List.length_cons]; omega)
        · rw [if_neg h1]
          by_cases h2 : ltS a e = true
          · rw [if_pos h2, if_pos h2]
            dsimp only
            rw [ih _ _ (by simp only [List.length_cons]; omega)]
          · rw [if_neg h2, if_neg h2, if_neg h1]
            exact ih _ _ (by omega)
theorem sdF_sub : ∀ (n : Nat) (X Y : List Str), X.length + Y.length ≤ n → (sdF X Y).1.Sublist X := by
  intro n
  induction n with
  | zero =>
    intro X Y h
    obtain rfl : X = [] := List.eq_nil_of_length_eq_zero (by omega)
    rw [sdF_nil]
    exact List.Sublist.refl _
  | succ n ih =>
    intro X Y h
    cases X with
    | nil => rw [sdF_nil]; exact List.Sublist.refl _
    | cons e X =>
      cases Y with
      | nil => rw [sdF_nilr]; exact List.Sublist.refl _
      | cons a Y =>
        have d1 := dropW_length X e
        have d2 := dropW_length Y a
        simp only [List.length_cons] at h
        have s1 : (X.dropWhile (· == e)).Sublist X := (List.dropWhile_suffix _).sublist
        rw [sdF_cons]
        by_cases h1 : ltS e a = true
        · rw [if_pos h1]
          exact (List.Sublist.cons_cons e ((ih _ _ (by simp only [List.length_cons]; omega)).trans s1))
        · rw [if_neg h1]
          by_cases h2 : ltS a e = true
          · rw [if_pos h2]
            exact ih _ _ (by simp only [List.length_cons]; omega)
          · rw [if_neg h2]
            exact ((ih _ _ (by omega)).trans s1).trans (List.sublist_cons_self _ _)
theorem dropW_srt {e : Str} {X : List Str} (h : Srt (e :: X)) : Srt (X.dropWhile (· == e)) ∧ (∀ x ∈ X.dropWhile (· == e), ltS e x = true) ∧ (∀ z, z ≠ e → (X.dropWhile (· == e)).count z = X.count z) := by
  have h' := List.pairwise_cons.mp h
  refine ⟨h'.2.sublist (List.dropWhile_suffix _).sublist, ?_, fun z hz => ?_⟩
  · have key : ∀ l : List Str, Srt l → (∀ x ∈ l, ltS x e = false) → ∀ x ∈ l.dropWhile (· == e), ltS e x = true := by
      intro l
      induction l with
      | nil => intro _ _ x hx; cases hx
      | cons y l ih =>
        intro hs hl x hx
        by_cases hy : y = e
        · subst hy
          rw [List.dropWhile_cons, if_pos (by simp)] at hx
          exact ih (List.pairwise_cons.mp hs).2 (fun x hx => hl x (List.mem_cons_of_mem _ hx)) x hx
        · rw [List.dropWhile_cons, if_neg (by simpa using hy)] at hx
          have hye : ltS e y = true := by
            cases hc : ltS e y with
            | true => rfl
            | false => exact absurd (ltS_tri (hl y List.mem_cons_self) hc) hy
          rcases List.mem_cons.mp hx with rfl | hx
          · exact hye
          · exact ltS_of_lt hye ((List.pairwise_cons.mp hs).1 x hx)
    exact key X h'.2 h'.1
  · have : ∀ l : List Str, (l.dropWhile (· == e)).count z = l.count z := by
      intro l
      induction l with
      | nil => rfl
      | cons y l ih =>
        by_cases hy : y = e
        · subst hy
          rw [List.dropWhile_cons, if_pos (by simp), ih, List.count_cons, if_neg (by simpa using fun q => hz q.symm)]; rfl
        · rw [List.dropWhile_cons, if_neg (by simpa using hy)]
    exact this X
end
section
open PySem PySem.W PyProof.Rows PySem.Calls
set_option maxRecDepth 100000
set_option maxHeartbeats 1000000
noncomputable def cntF (X Y : List Str) (z : Str) : Nat := if z ∈ Y then 0 else if (Y.all fun y => ltS y z) = true then X.count z else min 1 (X.count z)
theorem cntF_zero {X Y : List Str} {z : Str} (h : X.count z = 0) : cntF X Y z = 0 := by
  unfold cntF; rw [h]; split <;> first | rfl | (split <;> rfl)
theorem cntF_congr {X X' Y Y' : List Str} {z : Str} (h1 : X.count z = X'.count z) (h2 : z ∈ Y ↔ z ∈ Y') (h3 : (Y.all fun y => ltS y z) = (Y'.all fun y => ltS y z)) : cntF X Y z = cntF X' Y' z := by
  unfold cntF
  rw [h1, h3]
  by_cases h : z ∈ Y
  · rw [if_pos h, if_pos (h2.mp h)]
  · rw [if_neg h, if_neg (fun q => h (h2.mpr q))]
theorem mem_count {l : List Str} {z : Str} : z ∈ l ↔ l.count z ≠ 0 := by
  rw [← List.count_pos_iff]; omega
theorem sdF_count (z : Str) : ∀ (n : Nat) (X Y : List Str), X.length + Y.length ≤ n → Srt X → Srt Y → (sdF X Y).1.count z = cntF X Y z := by
  intro n
  induction n with
  | zero =>
    intro X Y h _ _
    obtain rfl : X = [] := List.eq_nil_of_length_eq_zero (by omega)
    rw [sdF_nil, cntF_zero rfl]; rfl
  | succ n ih =>
    intro X Y h sX sY
    cases X with
    | nil => rw [sdF_nil, cntF_zero rfl]; rfl
    | cons e X =>
      cases Y with
      | nil => rw [sdF_nilr]; unfold cntF; rw [if_neg (fun q => nomatch q), List.all_nil, if_pos rfl]
      | cons a Y =>
        have d1 := dropW_length X e
        have d2 := dropW_length Y a
        simp only [List.length_cons] at h
        obtain ⟨x1, x2, x3⟩ := dropW_srt sX
        obtain ⟨y1, y2, y3⟩ := dropW_srt sY
        have pX := List.pairwise_cons.mp sX
        have pY := List.pairwise_cons.mp sY
        have ce : (X.dropWhile (· == e)).count e = 0 := by
          refine List.count_eq_zero.mpr fun q => ?_
          have := x2 e q
          rw [ltS_irrefl] at this; cases this
        -- what of Y counts for a sign above a
        have yall : ∀ z, ltS a z = true → ((a :: Y).all fun y => ltS y z) = ((Y.dropWhile (· == a)).all fun y => ltS y z) := fun z hz => by
          have : ∀ l : List Str, (l.all fun y => ltS y z) = ((l.dropWhile (· == a)).all fun y => ltS y z) := by
            intro l
            induction l with
            | nil => rfl
            | cons y l ihl =>
              by_cases hy : y = a
              · subst hy
                rw [List.dropWhile_cons, if_pos (by simp), List.all_cons, hz, Bool.true_and, ihl]
              · rw [List.dropWhile_cons, if_neg (by simpa using hy)]
          rw [List.all_cons, hz, Bool.true_and, this Y]
        have ymem : ∀ z, z ≠ a → (z ∈ a :: Y ↔ z ∈ Y.dropWhile (· == a)) := fun z hz => by
          rw [mem_count, mem_count, y3 z hz, List.count_cons, if_neg (by simpa using fun q => hz q.symm)]; simp
        rw [sdF_cons]
        by_cases h1 : ltS e a = true
        · rw [if_pos h1]
          have nY : ∀ y ∈ a :: Y, ltS e y = true := fun y hy => by
            rcases List.mem_cons.mp hy with rfl | hy
            · exact h1
            · exact ltS_of_lt h1 (pY.1 y hy)
          rw [List.count_cons, ih _ _ (by simp only [List.length_cons]; omega) x1 sY]
          by_cases hz : e = z
          · subst hz
            have hexp : cntF (e :: X) (a :: Y) e = 1 := by
              have g1 : ¬ e ∈ a :: Y := fun q => by have := nY e q; rw [ltS_irrefl] at this; cases this
              have g2 : ¬ ((a :: Y).all fun y => ltS y e) = true := by rw [List.all_cons, ltS_asymm h1, Bool.false_and]; exact fun q => nomatch q
              unfold cntF
              rw [if_neg g1, if_neg g2, List.count_cons_self]
              omega
            rw [cntF_zero ce, hexp]
            simp
          · have hz' : z ≠ e := fun q => hz q.symm
            rw [if_neg (by simpa using hz), Nat.add_zero]
            exact cntF_congr (by rw [x3 z hz', List.count_cons, if_neg (by simpa using hz)]; rfl) Iff.rfl rfl
        · rw [if_neg h1]
          have h1' : ltS e a = false := by simpa using h1
          by_cases h2 : ltS a e = true
          · rw [if_pos h2]
            dsimp only
            rw [ih _ _ (by simp only [List.length_cons]; omega) sX y1]
            cases hc : (e :: X).count z with
            | zero => rw [cntF_zero hc, cntF_zero hc]
            | succ m =>
              have hz : z ∈ e :: X := mem_count.mpr (by omega)
              have haz : ltS a z = true := by
                rcases List.mem_cons.mp hz with rfl | hz
                · exact h2
                · exact ltS_of_lt h2 (pX.1 z hz)
              have hza : z ≠ a := fun q => by rw [q, ltS_irrefl] at haz; cases haz
              exact cntF_congr rfl (ymem z hza).symm (yall z haz).symm
          · rw [if_neg h2]
            have h2' : ltS a e = false := by simpa using h2
            obtain rfl : e = a := ltS_tri h1' h2'
            rw [ih _ _ (by omega) x1 y1]
            by_cases hz : z = e
            · subst hz
              rw [cntF_zero ce]
              unfold cntF
              rw [if_pos List.mem_cons_self]
            · have hcX : (e :: X).count z = (X.dropWhile (· == e)).count z := by
                rw [x3 z hz, List.count_cons, if_neg (by simpa using fun q => hz q.symm)]; rfl
              cases hc : (e :: X).count z with
              | zero => rw [cntF_zero hc, cntF_zero (hcX ▸ hc)]
              | succ m =>
                have hzm : z ∈ X := by
                  have : z ∈ e :: X := mem_count.mpr (by omega)
                  rcases List.mem_cons.mp this with q | q
                  · exact absurd q hz
                  · exact q
                have hez : ltS e z = true := by
                  cases hq : ltS e z with
                  | true => rfl
                  | false => exact absurd (ltS_tri (pX.1 z hzm) hq) hz
                exact cntF_congr hcX.symm (ymem z hz).symm (yall z hez).symm
end
section
open PySem PySem.W PyProof.Rows PySem.Calls
set_option maxRecDepth 100000
set_option maxHeartbeats 1000000
theorem best_spec (ys : List Str) : ∀ k, argBest (gtS ys) k ≤ k ∧ ∀ j, j ≤ k → ltS (ys.getD (argBest (gtS ys) k) "") (ys.getD j "") = false
  | 0 => ⟨Nat.le_refl _, fun j hj => by obtain rfl : j = 0 := by omega
                                        exact ltS_irrefl _⟩
  | k + 1 => by
    obtain ⟨h1, h2⟩ := best_spec ys k
    rw [argBest]
    by_cases hc : gtS ys (k + 1) (argBest (gtS ys) k) = true
    · rw [if_pos hc]
      have hc : ltS (ys.getD (argBest (gtS ys) k) "") (ys.getD (k + 1) "") = true := hc
      refine ⟨Nat.le_refl _, fun j hj => ?_⟩
      rcases Nat.lt_or_ge j (k + 1) with hlt | hge
      · cases hq : ltS (ys.getD (k + 1) "") (ys.getD j "") with
        | false => rfl
        | true => have := ltS_trans hc hq; rw [h2 j (by omega)] at this; cases this
      · obtain rfl : j = k + 1 := by omega
        exact ltS_irrefl _
    · rw [if_neg hc]
      have hc : ltS (ys.getD (argBest (gtS ys) k) "") (ys.getD (k + 1) "") = false := by
        have : ¬ ltS (ys.getD (argBest (gtS ys) k) "") (ys.getD (k + 1) "") = true := hc
        simpa using this
      refine ⟨by omega, fun j hj => ?_⟩
      rcases Nat.lt_or_ge j (k + 1) with hlt | hge
      · exact h2 j (by omega)
      · obtain rfl : j = k + 1 := by omega
        exact hc
theorem maxS_mem {l : List Str} (h : l ≠ []) : maxS l ∈ l := by
  have hl : 0 < l.length := List.length_pos_iff.mpr h
  have := (best_spec l (l.length - 1)).1
  unfold maxS
  rw [List.getD_eq_getElem?_getD, List.getElem?_eq_getElem (by omega)]
  exact List.getElem_mem _
theorem maxS_ge {l : List Str} {x : Str} (h : x ∈ l) : ltS (maxS l) x = false := by
  obtain ⟨j, hj, e⟩ := List.getElem_of_mem h
  have := (best_spec l (l.length - 1)).2 j (by omega)
  rw [List.getD_eq_getElem?_getD (l := l) (i := j), List.getElem?_eq_getElem hj, Option.getD_some, e] at this
  exact this
theorem ltS_empty (y : Str) : ltS y "" = false := by
  cases h : ltS y "" with
  | false => rfl
  | true => exact absurd (ltS_iff.mp h) (List.not_lt_nil _)
theorem last_all (S : List (List Int)) (z : Str) : ((bsL S).all fun y => ltS y z) = (S.isEmpty || ltS (lastS S) z) := by
  cases S with
  | nil => rfl
  | cons s S =>
    rw [List.isEmpty_cons, Bool.false_or]
    have hm : lastS (s :: S) ∈ ("" : Str) :: bsL (s :: S) := maxS_mem (by simp)
    have hge : ∀ y ∈ bsL (s :: S), ltS (lastS (s :: S)) y = false := fun y hy => maxS_ge (List.mem_cons_of_mem _ hy)
    rw [Bool.eq_iff_iff, List.all_eq_true]
    constructor
    · intro h
      rcases List.mem_cons.mp hm with e | hm
      · have hs : bits s ∈ bsL (s :: S) := List.mem_cons_self
        have h1 := hge _ hs
        rw [e] at h1 ⊢
        rw [ltS_tri h1 (ltS_empty _)]
        exact h _ hs
      · exact h _ hm
    · intro h y hy
      exact ltS_of_le (hge y hy) h
theorem lack_count {F S : List (List Int)} (hF : ∀ o ∈ F, o ∈ U4) (hS : ∀ o ∈ S, o ∈ U4) (z : Str) : ∀ k, k ≤ F.length → (lackTo F S k).count z = cntF (bsL (F.take k)) (bsL S) z
  | 0, _ => by
    rw [lackTo, List.take_zero]
    exact (cntF_zero rfl).symm
  | k + 1, hk => by
    have ih := lack_count hF hS z k (by omega)
    have hkl : k < F.length := by omega
    obtain ⟨o, ho⟩ : ∃ o, F[k]? = some o := ⟨_, List.getElem?_eq_getElem hkl⟩
    have hgd : F.getD k [] = o := by rw [List.getD_eq_getElem?_getD, ho]; rfl
    have hoU : o ∈ U4 := hF o (List.mem_of_getElem? ho)
    have htk : bsL (F.take (k + 1)) = bsL (F.take k) ++ [bits o] := by
      unfold bsL; rw [List.take_add_one, ho, List.map_append]; rfl
    have hcnt : (bsL (F.take (k + 1))).count z = (bsL (F.take k)).count z + (if bits o = z then 1 else 0) := by
      rw [htk, List.count_append, List.count_singleton]
      by_cases e : bits o = z
      · simp [e]
      · simp [e]
    rw [lackTo, hgd]
    by_cases e : bits o = z
    · subst e
      rw [if_pos rfl] at hcnt
      have mS : S.contains o = true ↔ bits o ∈ bsL S := by
        rw [List.contains_iff_mem]
        exact (mem_inj (f := bits) fun y hy e => bits_inj y (hS y hy) o hoU e).symm
      have mF : (F.take k).contains o = true ↔ bits o ∈ bsL (F.take k) := by
        rw [List.contains_iff_mem]
        exact (mem_inj (f := bits) fun y hy e => bits_inj y (hF y (List.mem_of_mem_take hy)) o hoU e).symm
      have hla : lackAt F S k = (!(S.contains o) && (!((F.take k).contains o) || ((bsL S).all fun y => ltS y (bits o)))) := by
        unfold lackAt
        rw [hgd, pickL_take, last_all]; rfl
      rw [hla]
      unfold cntF at ih ⊢
      rw [hcnt]
      by_cases m1 : bits o ∈ bsL S
      · rw [if_pos m1] at ih ⊢
        rw [if_neg (by rw [mS.mpr m1]; simp), ih]
      · rw [if_neg m1] at ih ⊢
        have m1' : S.contains o = false := by
          cases hq : S.contains o with
          | false => rfl
          | true => exact absurd (mS.mp hq) m1
        rw [m1']
        by_cases m2 : ((bsL S).all fun y => ltS y (bits o)) = true
        · rw [if_pos m2] at ih ⊢
          rw [if_pos (by rw [m2]; simp), List.count_append, ih]; simp
        · rw [if_neg m2] at ih ⊢
          have m2' : ((bsL S).all fun y => ltS y (bits o)) = false := by simpa using m2
          rw [m2']
          by_cases m3 : (F.take k).contains o = true
          · have := mem_count.mp (mF.mp m3)
            rw [if_neg (by rw [m3]; decide), ih]; omega
          · have m3' : (F.take k).contains o = false := by simpa using m3
            have : (bsL (F.take k)).count (bits o) = 0 := by
              cases hq : (bsL (F.take k)).count (bits o) with
              | zero => rfl
              | succ m => exact absurd (mF.mpr (mem_count.mpr (by omega))) m3
            rw [if_pos (by rw [m3']; decide), List.count_append, ih, this]; simp
    · rw [if_neg e, Nat.add_zero] at hcnt
      have hr : cntF (bsL (F.take (k + 1))) (bsL S) z = cntF (bsL (F.take k)) (bsL S) z := cntF_congr hcnt Iff.rfl rfl
      rw [hr, ← ih]
      split
      · rw [List.count_append, List.count_singleton]; simp [e]
      · rfl
end
section
open PySem PySem.W PyProof.Rows PySem.Calls
set_option maxRecDepth 100000
set_option maxHeartbeats 1000000
theorem cntF_perm {X X' Y Y' : List Str} (hX : X.Perm X') (hY : Y.Perm Y') (z : Str) : cntF X Y z = cntF X' Y' z := by
  refine cntF_congr (hX.count_eq z) hY.mem_iff ?_
  rw [Bool.eq_iff_iff, List.all_eq_true, List.all_eq_true]
  exact ⟨fun h y hy => h y (hY.mem_iff.mpr hy), fun h y hy => h y (hY.mem_iff.mp hy)⟩
theorem sd_perm {F S : List (List Int)} (hF : ∀ o ∈ F, o ∈ U4) (hS : ∀ o ∈ S, o ∈ U4) : (sdF (srt (bsL F)) (srt (bsL S))).1.Perm (lackTo F S F.length) := by
  rw [List.perm_iff_count]
  intro z
  rw [sdF_count z _ _ _ (Nat.le_refl _) (srt_srt _) (srt_srt _), lack_count hF hS z _ (Nat.le_refl _), List.take_length]
  exact cntF_perm (srt_perm _) (srt_perm _) z
theorem lays_bits {F : List (List Int)} (hF : ∀ o ∈ F, o ∈ U4) : Lays (bsL F) := fun x hx => by
  obtain ⟨o, ho, rfl⟩ := List.mem_map.mp hx
  exact lay_bits (hF o ho)
theorem law_all (ns : List Int) (hl : ns.length ≤ 63) : ∃ B F S sets s1 s2 r1 r2, LawOk ns B F S sets s1 s2 r1 r2 := by
  have hB := begB_U ns
  have hf1 : ∀ o ∈ fold1 ns, o ∈ U4 := inF_U _ _
  have hf2 : ∀ o ∈ fold2 ns, o ∈ U4 := inF_U _ _
  have l1 : (fold1 ns).length ≤ 17 := inF_len _ _
  have l2 : (fold2 ns).length ≤ 17 := inF_len _ _
  generalize hBe : begB ns = B at hB
  have tk : ∀ f : List (List Int), (∀ o ∈ f, o ∈ U4) → takenL (setsOf B) (.list (f.map oct)) = bsL (f.filter (begins B)) := fun f hf => by
    unfold takenL bsL
    rw [unL_octs, List.filter_map]
    have e1 : f.filter (takenP (setsOf B) ∘ nameS) = f.filter (begins B) := List.filter_congr fun o ho => by
      show takenP (setsOf B) (nameS o) = _
      rw [name_bits (hf o ho), taken_begins hB (hf o ho)]
    rw [e1]
    exact List.map_congr_left fun o ho => name_bits (hf o (List.mem_filter.mp ho).1)
  have hF : ∀ o ∈ (fold1 ns).filter (begins B), o ∈ U4 := fun o ho => hf1 o (List.mem_filter.mp ho).1
  have hS : ∀ o ∈ (fold2 ns).filter (begins B), o ∈ U4 := fun o ho => hf2 o (List.mem_filter.mp ho).1
  have lF : ((fold1 ns).filter (begins B)).length ≤ 17 := Nat.le_trans (List.length_filter_le _ _) l1
  have lS : ((fold2 ns).filter (begins B)).length ≤ 17 := Nat.le_trans (List.length_filter_le _ _) l2
  have t1 := tk _ hf1
  have t2 := tk _ hf2
  generalize hFe : (fold1 ns).filter (begins B) = F at *
  generalize hSe : (fold2 ns).filter (begins B) = S at *
  have p1 := sd_perm hF hS
  have p2 := sd_perm hS hF
  have lb1 : (srt (bsL F)).length ≤ 17 := by rw [(srt_perm _).length_eq]; unfold bsL; rw [List.length_map]; exact lF
  have lb2 : (srt (bsL S)).length ≤ 17 := by rw [(srt_perm _).length_eq]; unfold bsL; rw [List.length_map]; exact lS
  have sub1 := sdF_sub _ (srt (bsL F)) (srt (bsL S)) (Nat.le_refl _)
  have sub2 := sdF_sub _ (srt (bsL S)) (srt (bsL F)) (Nat.le_refl _)
  have lay1 : Lays (sdF (srt (bsL F)) (srt (bsL S))).1 := fun x hx => lays_bits hF x ((srt_perm _).mem_iff.mp (sub1.subset hx))
  have lay2 : Lays (sdF (srt (bsL S)) (srt (bsL F))).1 := fun x hx => lays_bits hS x ((srt_perm _).mem_iff.mp (sub2.subset hx))
  refine ⟨B, F, S, setsOf B, srt (bsL F), srt (bsL S), (sdF (srt (bsL F)) (srt (bsL S))).1, (sdF (srt (bsL S)) (srt (bsL F))).1, ?_⟩
  refine ⟨hl, hBe, hFe, hSe, patB_U hB, t1, t2, lays_bits hF, lays_bits hS, sorted_only, sorted_only, by omega, by omega, ⟨((srt (bsL F)).length + (srt (bsL S)).length) + 1, ?_⟩, sorted_is ((srt_srt _).sublist sub1) p1, sorted_is ((srt_srt _).sublist sub2) p2, uo_law bits_inj hF hS, lay1, lay2, ?_, ?_, ?_, ?_⟩
  · have := sdGo_F (srt (bsL F)) (srt (bsL S)) _ _ 0 0 [] [] (Nat.le_refl _) (Nat.lt_succ_self _)
    rw [List.drop_zero, List.drop_zero, List.nil_append, List.nil_append, sdF_swap _ (srt (bsL F)) (srt (bsL S)) (Nat.le_refl _)] at this
    exact this
  · intro x hx
    have hx := List.mem_reverse.mp hx
    rw [missL_is] at hx
    obtain ⟨o, ho, rfl⟩ := List.mem_map.mp hx
    refine lay_bits (hF o ?_)
    have sub : ∀ T : List (List Int), (missG S T).Sublist T := by
      intro T
      induction T with
      | nil => exact List.Sublist.refl _
      | cons x T ih =>
        rw [missG]
        split
        · exact ih.cons_cons x
        · exact ih.cons x
    exact (sub F).subset ho
  · intro x hx
    rw [leftL_is] at hx
    obtain ⟨o, ho, rfl⟩ := List.mem_map.mp hx
    refine lay_bits (hS o ?_)
    have sub : ∀ (T : List (List Int)) (c : List Int → Nat), (rem T c).Sublist T := by
      intro T
      induction T with
      | nil => exact fun _ => List.Sublist.refl _
      | cons x T ih =>
        intro c
        rw [rem]
        split
        · exact (ih _).cons_cons x
        · exact (ih _).cons x
    exact (sub S _).subset ho
  · have := sub1.length_le; omega
  · have := sub2.length_le; omega
end
section
open PySem PySem.W PyProof.Rows PySem.Calls
set_option maxRecDepth 100000
set_option maxHeartbeats 1000000
/-- the one table that grows was empty -/
theorem oldK_of_grow {s s' : Shared} {G G' : GH} (W : Wd s.heap) (g : Grow s G s' G') (h0 : s.heap.get? TB = some { cls := .none, data := .fields #[] }) : OldK s.heap s'.heap := by
  obtain ⟨vs, e, x⟩ := g.wd.tab
  obtain ⟨ps, C, T⟩ := W.code
  refine ⟨fun b o eb => ?_, fun b o eb => ?_⟩
  · by_cases hb : b = TB
    · subst hb
      rw [h0] at eb
      cases eb
      exact .inr (.inl ⟨T.isCodeTable, rfl, #[], vs, rfl, by rw [Array.empty_append]; exact e⟩)
    · exact .inl (g.keep b o hb eb)
  · by_cases hb : b = TB
    · subst hb; exact ⟨_, e⟩
    · exact ⟨o, g.keep b o hb eb⟩
end
section
open PySem PySem.W PyProof.Rows PySem.Calls
set_option maxRecDepth 100000
set_option maxHeartbeats 1000000
/-- the heap behind the top, without the one table that grows -/
noncomputable def cut (h : Heap) : Heap := { objs := (h.objs.extract 0 173).setIfInBounds TB { cls := .none, data := .freed }, life := h.life }
theorem cut_get {h : Heap} {b : Addr} {o : Obj} (hs : 173 ≤ h.objs.size) : (cut h).get? b = some o ↔ b < 173 ∧ b ≠ TB ∧ h.get? b = some o := by
  unfold cut Heap.get?
  simp only [Array.getElem?_setIfInBounds, Array.getElem?_extract, Array.size_extract]
  by_cases h1 : TB = b
  · subst h1
    have : TB < min 173 h.objs.size := Nat.lt_min.mpr ⟨by decide, Nat.lt_of_lt_of_le (by decide) hs⟩
    simp [this]
  · rw [if_neg h1]
    by_cases h2 : b < 173
    · have h3 : b < min 173 h.objs.size := Nat.lt_min.mpr ⟨h2, Nat.lt_of_lt_of_le h2 hs⟩
      have h1' : ¬ b = TB := fun z => h1 z.symm
      simp [h3, h2, h1']
    · have h3 : ¬ b < min 173 h.objs.size := fun z => h2 (Nat.lt_min.mp z).1
      simp [h3, h2]
end
section
open PySem PySem.W PyProof.Rows PySem.Calls
set_option maxRecDepth 100000
set_option maxHeartbeats 1000000
theorem at_of_map {α β : Type} {f g : α → β} : ∀ {l : List α}, l.map f = l.map g → ∀ x ∈ l, f x = g x
  | [], _, x, hx => nomatch hx
  | a :: l, e, x, hx => by
    rw [List.map_cons, List.map_cons] at e
    injection e with e1 e2
    rcases List.mem_cons.mp hx with rfl | hx
    · exact e1
    · exact at_of_map e2 x hx
theorem memN {β : Type} {x : Nat} {d : β} {l : List (Nat × β)} (h : l.lookup x = some d) : (x, d) ∈ l := by
  induction l with
  | nil => cases h
  | cons p l ih =>
    obtain ⟨y, e⟩ := p
    by_cases q : x = y
    · subst q
      rw [List.lookup_cons, beq_self_eq_true] at h
      cases h
      exact List.mem_cons_self
    · rw [List.lookup_cons, beq_false_of_ne q] at h
      exact List.mem_cons_of_mem _ (ih h)
/-- the needed objects stand -/
structure Fac (h : Heap) : Prop where
  size : 173 ≤ h.objs.size
  objs : ∀ p ∈ hobjs, h.get? p.1 = some p.2
  tab : h.get? TB = some { cls := .none, data := .fields #[] }
theorem Fac.of {w : World} {s : Shared} (y : obsL s = valL w) : Fac s.heap := by
  have e1 := congrArg Prod.fst y
  have e2 := congrArg (fun x => x.2.1) y
  have e3 := congrArg (fun x => x.2.2.2.2.1) y
  refine ⟨Nat.le_of_eq e3.symm, fun p hp => ?_, e2⟩
  have e1 : hadr.map s.heap.get? = hobjs.map (fun p => some p.2) := e1
  unfold hadr at e1
  rw [List.map_map] at e1
  exact at_of_map e1 p hp
theorem Fac.keeps {h h' : Heap} (x : Fac h) (k : ∀ b o, h.get? b = some o → h'.get? b = some o) (hs : h.objs.size ≤ h'.objs.size) : Fac h' := ⟨Nat.le_trans x.size hs, fun p hp => k _ _ (x.objs p hp), k _ _ x.tab⟩
theorem Fac.get {h : Heap} (x : Fac h) {a : Addr} {o : Obj} (e : hobjs.lookup a = some o) (hb : (a < 173 ∧ a ≠ TB) := by decide) : (cut h).get? a = some o :=
  (cut_get x.size).mpr ⟨hb.1, hb.2, x.objs (a, o) (memN e)⟩
theorem Fac.code {h : Heap} (x : Fac h) {c : Addr} {o : Obj} {vs : Array Value} {y q : Str} {t : Tok} (e : hobjs.lookup c = some o) (d : o.data = .fields vs) (n : vs[1]? = some (.str y t)) (hq : y = q) (hb : (c < 173 ∧ c ≠ TB) := by decide) : (cut h).CodeRec (.ref c) q :=
  ⟨c, o, vs, t, rfl, x.get e hb, d, hq ▸ n⟩
theorem Fac.fn {h : Heap} (x : Fac h) {i a : Nat} {o : Obj} {pm doc : Value} {c : Addr} (e : hobjs.lookup a = some o) (d : o.data = .func (docDef (fnName i) (fnArgs i) (fnBody i) (fnScope i) pm (.ref c) doc)) (hc : (cut h).CodeRec (.ref c) (fnName i)) (hb : (a < 173 ∧ a ≠ TB) := by decide) : FnAt (cut h) i a :=
  ⟨o, pm, .ref c, doc, x.get e hb, d, hc⟩
noncomputable def spOkB : List DictEntry → List (Int × Str) → Bool
  | [], [] => true
  | e :: es, r :: rs => decide (e.hash = r.1) && (match e.key with | .int i _ => i == r.1 | _ => false) && (match e.val with | .str x _ => x == r.2 | _ => false) && spOkB es rs
  | _, _ => false
theorem spOk_of : ∀ {es : List DictEntry} {rs : List (Int × Str)}, spOkB es rs = true → spOk es rs
  | [], [], _ => trivial
  | e :: es, r :: rs, h => by
    simp only [spOkB, Bool.and_eq_true, decide_eq_true_eq] at h
    obtain ⟨⟨⟨h1, h2⟩, h3⟩, h4⟩ := h
    refine ⟨⟨h1, ?_, ?_⟩, spOk_of h4⟩
    · split at h2
      · rename_i i t he; exact ⟨t, by rw [he, beq_iff_eq.mp h2]⟩
      · cases h2
    · split at h3
      · rename_i i t he; exact ⟨t, by rw [he, beq_iff_eq.mp h3]⟩
      · cases h3
  | [], _ :: _, h => by cases h
  | _ :: _, [], h => by cases h
theorem Fac.fns {h : Heap} (x : Fac h) : ∀ p ∈ fnT, FnAt (cut h) p.1 p.2 := by
  have k : ∀ {i a c : Nat} {o co : Obj} {pm doc : Value} {vs : Array Value} {y : Str} {t : Tok}, hobjs.lookup a = some o → o.data = .func (docDef (fnName i) (fnArgs i) (fnBody i) (fnScope i) pm (.ref c) doc) → hobjs.lookup c = some co → co.data = .fields vs → vs[1]? = some (.str y t) → y = fnName i → ((a < 173 ∧ a ≠ TB) ∧ (c < 173 ∧ c ≠ TB)) → FnAt (cut h) i a :=
    fun e d ec dc n hq hb => x.fn e d (x.code ec dc n hq hb.2) hb.1
  simp only [fnT, List.forall_mem_cons]
  refine ⟨?_, ?_, ?_, ?_, ?_, ?_, ?_, ?_, ?_, ?_, ?_, ?_, ?_, ?_, ?_, ?_, ?_, ?_, fun _ hp => nomatch hp⟩
  all_goals exact k rfl rfl rfl rfl rfl (by decide +kernel) (by decide)
theorem Fac.fn19 {h : Heap} (x : Fac h) : ∃ o pm doc, (cut h).get? 113 = some o ∧ o.data = .func (docDef (fnName 19) (fnArgs 19) (fnBody 19) (fnScope 19) pm (.ref 112) doc) ∧ (cut h).CodeRec (.ref 112) (fnName 19) :=
  ⟨_, _, _, x.get rfl, rfl, x.code rfl rfl rfl (by decide +kernel)⟩
theorem Fac.code19 {h : Heap} (x : Fac h) : ∃ o vs file tf flags tg inF text tt, (cut h).get? 112 = some o ∧ o.cls = .type "code" ∧ o.data = .fields vs ∧ vs[11]? = some (.ref TB) ∧ vs.getD 18 .none = .str file tf ∧ vs.getD 7 .none = .int flags tg ∧ vs.getD 9 .none = .bool inF ∧ vs.getD 10 .none = .int text tt :=
  ⟨_, _, _, _, _, _, _, _, _, x.get rfl, rfl, rfl, rfl, rfl, rfl, rfl, rfl⟩
theorem Fac.bmod {h : Heap} (x : Fac h) : ∃ ob, (cut h).get? 4 = some ob ∧ ob.cls = .type "module" ∧ ob.dict = some builtinsNs ∧ ob.data = .plain := ⟨_, x.get rfl, rfl, rfl, rfl⟩
theorem Fac.fn9 {h : Heap} (x : Fac h) : FnD (cut h) 9 74 .none (.ref 67) := ⟨_, _, _, _, x.get rfl, rfl, x.code (c := 73) rfl rfl rfl (by decide +kernel)⟩
theorem Fac.fn11 {h : Heap} (x : Fac h) : FnD (cut h) 11 82 (.ref 75) .none := ⟨_, _, _, _, x.get rfl, rfl, x.code (c := 81) rfl rfl rfl (by decide +kernel)⟩
theorem Fac.o75 {h : Heap} (x : Fac h) : ∃ o n, (cut h).get? 75 = some o ∧ o.data = .seq #[.none] n := ⟨_, _, x.get rfl, rfl⟩
theorem Fac.o86 {h : Heap} (x : Fac h) : ∃ o n, (cut h).get? 86 = some o ∧ o.cls = .type "tuple" ∧ o.data = .seq (reT.map fun i => rawInt i).toArray n := ⟨_, _, x.get rfl, rfl, rfl⟩
theorem Fac.o87 {h : Heap} (x : Fac h) : ∃ o y, (cut h).get? 87 = some o ∧ o.cls = .type "re.Pattern" ∧ o.dict = none ∧ o.data = .fields #[y, .int 32 398, .int 1 0, .none, .none, .ref 86, rawInt 0] := ⟨_, _, x.get rfl, rfl, rfl, rfl⟩
theorem Fac.o96 {h : Heap} (x : Fac h) : ∃ o es n, (cut h).get? 96 = some o ∧ o.ExactDict ∧ o.data = .dict es n ∧ spOk es.toList spT := ⟨_, _, _, x.get rfl, ⟨rfl, rfl, rfl⟩, rfl, spOk_of (by decide +kernel)⟩

theorem ns_cut {h : Heap} (x : Fac h) {a : Addr} {m : Str → Option Value} (N : h.Ns a m) (ha : (a < 173 ∧ a ≠ TB) := by decide) : (cut h).Ns a m :=
  let ⟨o, es, ep, e, r⟩ := N; ⟨o, es, ep, (cut_get x.size).mpr ⟨ha.1, ha.2, e⟩, r⟩
theorem ns_same {h₀ h₁ : Heap} (k : ∀ b o, h₀.get? b = some o → h₁.get? b = some o) {a : Addr} {m : Str → Option Value} (N : h₁.Ns a m) {x : Str} {v : Value} (e : h₀.nsMap a x = some v) (y : Str) : m y = h₀.nsMap a y := by
  obtain ⟨o, es, ep, e1, hd, _, hm⟩ := N
  unfold Heap.nsMap at e ⊢
  cases ho : h₀.get? a with
  | none => rw [ho] at e; cases e
  | some o' =>
    rw [k _ _ ho] at e1
    cases e1
    dsimp only
    rw [hd]
    exact (hm y).symm
theorem blt_boot : bltT.map (fun p => bootBuiltins p.1) = bltT.map (fun p => some p.2) := by kernel_rfl
theorem blt_name : ∀ p ∈ bltT, p.1 ≠ "__name__" := by decide +kernel
/-- what the walk asks of the heap, from the head's facts -/
theorem base_of {w : World} {s₀ : Shared} {h : Heap} {mg mb : Str → Option Value} (y : obsL s₀ = valL w) (k : ∀ b o, s₀.heap.get? b = some o → h.get? b = some o) (x : Fac h) (hg : h.Ns mainGlobals mg) (hb : h.Ns builtinsNs mb) (hm : ∀ x : Str, x ≠ "__name__" → mb x = bootBuiltins x) (hl : h.NoLimit) : Base (cut h) := by
  have e3 : globT.map (fun p => s₀.heap.nsMap mainGlobals p.1) = globT.map (fun p => some p.2) := congrArg (fun x => x.2.2.1) y
  have e4 : bltT.map (fun p => s₀.heap.nsMap mainGlobals p.1) = bltT.map (fun p => none) := congrArg (fun x => x.2.2.2.1) y
  have hs := ns_same k hg (x := "law") (v := .ref 172) (at_of_map e3 ("law", .ref 172) (mem_lookup (by rfl)))
  refine ⟨⟨mg, mb, ns_cut x hg, ns_cut x hb, fun a v e => ?_, fun a v e => ⟨?_, ?_⟩⟩, ?_, x.fns, x.fn19, x.code19, x.bmod, x.fn9, x.fn11, x.o75, x.o86, x.o87, x.o96⟩
  · exact (hs a).trans (at_of_map e3 (a, v) (mem_lookup e))
  · exact (hs a).trans (at_of_map e4 (a, v) (mem_lookup e))
  · exact (hm a (blt_name _ (mem_lookup e))).trans (at_of_map blt_boot (a, v) (mem_lookup e))
  · obtain ⟨mc, a, b⟩ := hl
    exact ⟨mc, ns_cut x a, b⟩
theorem wd_of {w : World} {s₀ : Shared} {h : Heap} {mg mb : Str → Option Value} (y : obsL s₀ = valL w) (k : ∀ b o, s₀.heap.get? b = some o → h.get? b = some o) (x : Fac h) (hg : h.Ns mainGlobals mg) (hb : h.Ns builtinsNs mb) (hm : ∀ x : Str, x ≠ "__name__" → mb x = bootBuiltins x) (hl : h.NoLimit) : Wd h :=
  ⟨x.size, ⟨#[], x.tab, trivial⟩, ⟨cut h, base_of y k x hg hb hm hl, fun b o e => (cut_get x.size).mp e⟩⟩
end
section
open PySem PySem.W PyProof.Rows PySem.Calls
set_option maxRecDepth 100000
set_option maxHeartbeats 1000000
noncomputable abbrev rowL : OpenRow := PySem.Challenge.rw_in0054_01.row
theorem pre_ints {args : List WData} (h : rowL.toRowW.claim.pre args = true) : ∃ ns : List Int, args = [.list (ns.map .int)] ∧ ns.length ≤ 63 := by
  obtain ⟨h1, h2⟩ := Bool.and_eq_true_iff.mp h
  obtain ⟨x, r, rfl, k1, k2⟩ := hasAllW_cons h1
  obtain rfl := hasAllW_nil k2
  obtain ⟨xs, rfl, k3⟩ := hasW_list k1
  obtain ⟨ns, rfl⟩ := items_int k3
  refine ⟨ns, rfl, ?_⟩
  have h2 : WTm.holds [] PySem.Challenge.rw_in0054_01.pre { args := [.list (ns.map .int)] } = true := h2
  unfold WTm.holds OpenLaw.pre PySem.Challenge.rw_in0054_01 at h2
  have h2 : (match (match Option.map WData.bool (Num.less? (WData.int 63) (WData.int (ns.map WData.int).length)) with
      | some (WData.bool b) => some (WData.bool !b)
      | _ => none) with
    | some (WData.bool false) => some (WData.bool false)
    | some (WData.bool true) => some (WData.bool true)
    | _ => none) = some (.bool true) := by
    revert h2
    simp [WTm.value]
    intro h2
    split at h2 <;> first | assumption | cases h2
  rw [List.length_map] at h2
  have e : Num.less? (WData.int 63) (WData.int (ns.length : Nat)) = some (decide ((63 : Int) < (ns.length : Nat))) := rfl
  rw [e] at h2
  by_cases hn : (63 : Int) < (ns.length : Nat)
  · rw [decide_eq_true hn] at h2; cases h2
  · omega
theorem ints_rd {G : GH} : ∀ {ns : List Int} {vs : List Value} {cl : Str → Option Addr} {h : Heap} {as : List Addr}, ReadsAllW [] cl h vs (ns.map .int) as → RdA G vs (ns.map .int)
  | [], _, _, _, _, .nil => .nil
  | n :: ns, _, _, _, _, .cons a b => by
    cases a
    exact .cons (.int _ _) (ints_rd b)
theorem lay_one {R : WRecords} {w : World} {s₀ s₁ : Shared} {ns : List Int} {vals : List Value} {as : List Addr} (L : Laid R w s₀ s₁ [.list (ns.map .int)] vals as) : ∃ its : Array Value, vals = [.ref s₀.heap.objs.size] ∧ s₁.heap = s₀.heap.push { cls := .type "list", data := .seq its } ∧ s₀.toks ≤ s₁.toks := by
  obtain ⟨ord, _, e⟩ := L.laid
  simp only [layAllW, layW] at e
  cases q : layAllW R (classAt s₀.heap) w.params ord (ns.map .int) s₀ with
  | none => rw [q] at e; cases e
  | some r =>
    rw [q] at e
    rw [← ofPys_ints] at q
    have hh := X.lay_ints ns s₀ r q
    have ht := X.lay_ints_toks ns s₀ r q
    simp only [Option.some.injEq, Prod.mk.injEq] at e
    obtain ⟨rfl, rfl⟩ := e
    exact ⟨r.1.toArray, by rw [hh], by rw [hh], ht⟩
theorem post_true (args args' : List WData) : rowL.toRowW.claim.post args (.bool true) args' = true := by
  show (WShape.has [] (.bool true) .bool && WTm.holds [] (.eq .res (.lit (.bool true))) { args := args, res := some (.bool true), after := args' }) = true
  simp [WTm.holds, WTm.value, WShape.has, WShape.arms, same]
theorem walk_law {d : DefRec} {kwd : List (Str × Expr)} (hn : d.name = "law") : WalkX vw looseN (fun _ _ => True) obsL valL rowL.toRowW d kwd fun f vs => PySem.call f vs := by
  intro w s₀ s₁ mg mb Gr Y fa o pm cd doc dV kV ho hd hcd hD hmg hg args vals as L hpre hlay hrd hwl hlo
  obtain ⟨ns, rfl, hlen⟩ := pre_ints hpre
  obtain ⟨its, rfl, hh, ht⟩ := lay_one L
  have e3 : globT.map (fun p => s₀.heap.nsMap mainGlobals p.1) = globT.map (fun p => some p.2) := congrArg (fun x => x.2.2.1) Y
  have hlaw := at_of_map e3 ("law", .ref 172) (mem_lookup (by rfl))
  have e172 : mg d.name = some (.ref 172) := by rw [hn]; exact (ns_same L.keeps Gr.T.g hlaw _).trans hlaw
  rw [e172] at hmg
  cases hmg
  have e5 : s₀.heap.objs.size = 173 := congrArg (fun x => x.2.2.2.2.1) Y
  have e6 : s₀.toks = 664 := congrArg (fun x => x.2.2.2.2.2) Y
  have F : Fac s₁.heap := (Fac.of Y).keeps L.keeps (by rw [hh, Heap.size_push]; omega)
  have W : Wd s₁.heap := wd_of Y L.keeps F Gr.T.g Gr.T.b (fun x hx => Gr.T.builtins x hx) Gr.T.nolimit
  have hget : s₁.heap.get? s₀.heap.objs.size = some { cls := .type "list", data := .seq its } := by rw [hh]; exact Heap.get?_push_size _ rfl
  let G : GH := GH.put (fun _ => none) s₀.heap.objs.size { cls := .type "list", data := .seq its }
  have hG : ∀ b o, G b = some o → b = s₀.heap.objs.size ∧ o = { cls := .type "list", data := .seq its } := fun b o e => by
    have e : (if b = s₀.heap.objs.size then some { cls := Value.type "list", data := Data.seq its } else none) = some o := e
    split at e
    · rename_i q; cases e; exact ⟨q, rfl⟩
    · cases e
  have kG : G.In s₁.heap := fun b o e => by obtain ⟨rfl, rfl⟩ := hG b o e; exact hget
  have B : Bare s₁ G := ⟨.of_eq hg, by omega, by
    show (if TB = s₀.heap.objs.size then _ else none) = none
    rw [if_neg (by rw [e5]; decide)]⟩
  have hv : Rv G (.list (ns.map .int)) (.ref s₀.heap.objs.size) := by
    have hrd : ReadsAllW [] (classAt s₀.heap) s₁.heap [.ref s₀.heap.objs.size] [.list (ns.map .int)] as := hrd
    cases hrd with
    | cons r1 r2 =>
      cases r1 with
      | list h1 h2 h3 h4 =>
        rw [hget] at h1
        cases h1
        cases h3
        exact Rd.list GH.put_self rfl rfl rfl (ints_rd h4)
  obtain ⟨B', F', S, sets, s1, s2, r1, r2, K⟩ := law_all ns hlen
  refine law_call (n := 0) K ⟨fun _ => rfl, by decide, by decide⟩ rfl B W kG hv fun s' G' g => ?_
  exact ⟨.inl ⟨.bool true, .bool true, [], rfl, fun _ => rfl, .bool true, post_true _ _, fun _ => ⟨.nil, fun _ ha => nomatch ha⟩⟩, oldK_of_grow W g F.tab, g.os, g.bare.gens⟩
end
section
open PySem PySem.W PyProof.Rows PySem.Calls
set_option maxRecDepth 100000
set_option maxHeartbeats 0
theorem law_said : PySem.Challenge.rw_in0054_01.wellSaid = true := by decide +kernel
theorem law_ok : (chainsOk vw && opensWell rowL.prog && (PySem.W.frees rowL.toRowW && rowL.within.isEmpty)) = true := by decide +kernel
theorem law_bare : rowL.prog.bare := ⟨rfl, rfl, rfl, rfl, rfl, by decide +kernel⟩
theorem law_promised : rowL.toRowW.promised := ⟨[.list []], by decide +kernel, by decide +kernel⟩
end
end Mine
set_option maxRecDepth 100000 in
theorem PySem.Challenge.cw_in0054_01_holds : PySem.Challenge.rw_in0054_01.Holds :=
  holds_law Mine.law_said fun said => holds_openX (r := Mine.rowL) (q := Mine.vw) Mine.left_all (fun _ _ => trivial) (fun _ _ _ _ _ => trivial) (by rfl) (by rfl) (by rfl) (fun _ _ => recFacts_nil rfl) rfl said Mine.law_ok Mine.law_bare Mine.law_promised (Mine.walk_law (by rfl))
