import PyProof.Rows.All
import Wide.All
import OpenK.AllK
import Wide.FinOn
import KE.KLam
import KE.KDictList
import KE.KStateW
import PyProof.SetNew
import Lean
import PySem.Challenge.RW_oy0507_01
set_option Elab.async false
section
open PySem PySem.W
namespace Mine
/-- the matcher's loop upon one sign: the new table of lengths and the best triple so far -/
noncomputable abbrev St4 := List (Int × Int) × Int × Int × Int
noncomputable def inStep (old : List (Int × Int)) (i j : Int) (st : St4) : St4 :=
  (kdfPut st.1 j (kdfLook old (j - 1) 0 + 1), if st.2.2.2 < kdfLook old (j - 1) 0 + 1 then (i - (kdfLook old (j - 1) 0 + 1) + 1, j - (kdfLook old (j - 1) 0 + 1) + 1, kdfLook old (j - 1) 0 + 1) else st.2)
noncomputable def inGo (old : List (Int × Int)) (i blo bhi : Int) : List Int → St4 → St4
  | [], st => st
  | j :: js, st => if j < blo then inGo old i blo bhi js st else if bhi ≤ j then st else inGo old i blo bhi js (inStep old i j st)
noncomputable def outGo (row : Nat → List Int) (alo blo : Int) : Nat → St4
  | 0 => ([], alo, blo, 0)
  | n + 1 => inGo (outGo row alo blo n).1 (alo + n) blo (blo + 6) (row n) ([], (outGo row alo blo n).2)
/-- a block i, j, k within the windows of six that begin at alo, blo -/
noncomputable def Box4 (alo blo : Int) (t : Int × Int × Int) : Prop := alo ≤ t.1 ∧ t.1 + t.2.2 ≤ alo + 6 ∧ blo ≤ t.2.1 ∧ t.2.1 + t.2.2 ≤ blo + 6 ∧ 0 ≤ t.2.2
/-- the matcher's four whiles -/
noncomputable def wDown (g : Int → Int → Bool) (alo blo : Int) : Nat → Int × Int × Int → Int × Int × Int
  | 0, t => t
  | n + 1, t => if alo < t.1 ∧ blo < t.2.1 ∧ g (t.1 - 1) (t.2.1 - 1) = true then wDown g alo blo n (t.1 - 1, t.2.1 - 1, t.2.2 + 1) else t
noncomputable def wUp (g : Int → Int → Bool) (ahi bhi : Int) : Nat → Int × Int × Int → Int × Int × Int
  | 0, t => t
  | n + 1, t => if t.1 + t.2.2 < ahi ∧ t.2.1 + t.2.2 < bhi ∧ g (t.1 + t.2.2) (t.2.1 + t.2.2) = true then wUp g ahi bhi n (t.1, t.2.1, t.2.2 + 1) else t
theorem and_no1 {a b : Bool} (h : a = true) (e : (!a && b) = true) : False := by simp [h] at e
theorem and_no2 {a b : Bool} (h : b = false) (e : (a && b) = true) : False := by simp [h] at e
theorem and_no3 {a b : Bool} (h : a = false) (e : (a && b) = true) : False := by simp [h] at e
theorem and_yes1 {a b : Bool} (h : a = false) (h2 : b = true) : (!a && b) = true := by simp [h, h2]
theorem and_yes2 {a b : Bool} (h : a = true) (h2 : b = true) : (a && b) = true := by simp [h, h2]
theorem wDown_stop {g : Int → Int → Bool} {alo blo i j k : Int} (h : ¬(alo < i ∧ blo < j ∧ g (i - 1) (j - 1) = true)) : ∀ n, wDown g alo blo n (i, j, k) = (i, j, k)
  | 0 => rfl
  | n + 1 => if_neg h
theorem wDown_go {g : Int → Int → Bool} {alo blo i j k : Int} (h1 : alo < i) (h2 : blo < j) (h3 : g (i - 1) (j - 1) = true) : wDown g alo blo (i - alo).toNat (i, j, k) = wDown g alo blo (i - 1 - alo).toNat (i - 1, j - 1, k + 1) := by
  have e : (i - alo).toNat = (i - 1 - alo).toNat + 1 := by omega
  rw [e]
  exact if_pos ⟨h1, h2, h3⟩
theorem wUp_stop {g : Int → Int → Bool} {ahi bhi i j k : Int} (h : ¬(i + k < ahi ∧ j + k < bhi ∧ g (i + k) (j + k) = true)) : ∀ n, wUp g ahi bhi n (i, j, k) = (i, j, k)
  | 0 => rfl
  | n + 1 => if_neg h
theorem wUp_go {g : Int → Int → Bool} {ahi bhi i j k : Int} (h1 : i + k < ahi) (h2 : j + k < bhi) (h3 : g (i + k) (j + k) = true) : wUp g ahi bhi (ahi - (i + k)).toNat (i, j, k) = wUp g ahi bhi (ahi - (i + (k + 1))).toNat (i, j, k + 1) := by
  have e : (ahi - (i + k)).toNat = (ahi - (i + (k + 1))).toNat + 1 := by omega
  rw [e]
  exact if_pos ⟨h1, h2, h3⟩
noncomputable def flmN (S : Str → Bool) (x y : Str) (i j : Int) : Bool := !S (PySem.Txt.item y j) && (PySem.Txt.item x i == PySem.Txt.item y j)
noncomputable def flmJ (S : Str → Bool) (x y : Str) (i j : Int) : Bool := S (PySem.Txt.item y j) && (PySem.Txt.item x i == PySem.Txt.item y j)
noncomputable def flm1 (S : Str → Bool) (x y : Str) (row : Nat → List Int) (alo blo : Int) : Int × Int × Int := wDown (fun i j => !S (PySem.Txt.item y j) && (PySem.Txt.item x i == PySem.Txt.item y j)) alo blo ((outGo row alo blo 6).2.1 - alo).toNat (outGo row alo blo 6).2
noncomputable def flm2 (S : Str → Bool) (x y : Str) (row : Nat → List Int) (alo blo : Int) : Int × Int × Int := wUp (fun i j => !S (PySem.Txt.item y j) && (PySem.Txt.item x i == PySem.Txt.item y j)) (alo + 6) (blo + 6) (alo + 6 - ((flm1 S x y row alo blo).1 + (flm1 S x y row alo blo).2.2)).toNat (flm1 S x y row alo blo)
noncomputable def flm3 (S : Str → Bool) (x y : Str) (row : Nat → List Int) (alo blo : Int) : Int × Int × Int := wDown (fun i j => S (PySem.Txt.item y j) && (PySem.Txt.item x i == PySem.Txt.item y j)) alo blo ((flm2 S x y row alo blo).1 - alo).toNat (flm2 S x y row alo blo)
noncomputable def flmOut (S : Str → Bool) (x y : Str) (row : Nat → List Int) (alo blo : Int) : Int × Int × Int := wUp (fun i j => S (PySem.Txt.item y j) && (PySem.Txt.item x i == PySem.Txt.item y j)) (alo + 6) (blo + 6) (alo + 6 - ((flm3 S x y row alo blo).1 + (flm3 S x y row alo blo).2.2)).toNat (flm3 S x y row alo blo)
theorem flmOut_of {S : Str → Bool} {x y : Str} {row : Nat → List Int} {alo blo : Int} {cc : List (Int × Int)} {a b c a1 b1 c1 a2 b2 c2 a3 b3 c3 a4 b4 c4 : Int} (h0 : (cc, a, b, c) = outGo row alo blo 6)
    (h1 : (a1, b1, c1) = wDown (fun i j => !S (PySem.Txt.item y j) && (PySem.Txt.item x i == PySem.Txt.item y j)) alo blo (a - alo).toNat (a, b, c))
    (h2 : (a2, b2, c2) = wUp (fun i j => !S (PySem.Txt.item y j) && (PySem.Txt.item x i == PySem.Txt.item y j)) (alo + 6) (blo + 6) (alo + 6 - (a1 + c1)).toNat (a1, b1, c1))
    (h3 : (a3, b3, c3) = wDown (fun i j => S (PySem.Txt.item y j) && (PySem.Txt.item x i == PySem.Txt.item y j)) alo blo (a2 - alo).toNat (a2, b2, c2))
    (h4 : (a4, b4, c4) = wUp (fun i j => S (PySem.Txt.item y j) && (PySem.Txt.item x i == PySem.Txt.item y j)) (alo + 6) (blo + 6) (alo + 6 - (a3 + c3)).toNat (a3, b3, c3)) : (a4, b4, c4) = flmOut S x y row alo blo := by
  have e1 : (a1, b1, c1) = flm1 S x y row alo blo := by unfold flm1; rw [← h0]; exact h1
  have e2 : (a2, b2, c2) = flm2 S x y row alo blo := by unfold flm2; rw [← e1]; exact h2
  have e3 : (a3, b3, c3) = flm3 S x y row alo blo := by unfold flm3; rw [← e2]; exact h3
  unfold flmOut; rw [← e3]; exact h4
end Mine
end
section
open PySem PySem.W PySem.Calls PyProof.Rows
set_option maxRecDepth 100000
namespace Mine
noncomputable abbrev bmeth (id : String) (a : Addr) : Obj := { cls := .type "builtin_function_or_method", data := .fields #[.builtin id, .ref a] }
theorem slot_md_get : Slot "method_descriptor" "__get__" "method_descriptor.__get__" :=
  .of (owner := "method_descriptor") (n := "__get__") (by rw [typeLookup_type, builtinLookup_eq_fast]; kernel_rfl) (by decide +kernel) (by decide +kernel) (by decide +kernel)
    (by first | exact .inl (by decide +kernel) | exact .inr (by decide +kernel)) (by rw [isSubtype_type]; kernel_rfl)
theorem entry_md_get : entryFor table "method_descriptor.__get__" = some Builtin.«method_descriptor.__get__» := entryFor_of_tree (by kernel_rfl)
theorem args_md_get (a b c : Value) : argsOk "method_descriptor.__get__" ⟨[a, b, c], []⟩ := by unfold argsOk; kernel_rfl
theorem type_dget : typeOf (.builtin "dict.get") = pure (.type "method_descriptor") := by show builtinType _ = _; rw [builtinType_eq_fast]; kernel_rfl
theorem type_scon : typeOf (.builtin "set.__contains__") = pure (.type "method_descriptor") := by show builtinType _ = _; rw [builtinType_eq_fast]; kernel_rfl
theorem told_dget : Manifest.toldItsClass.contains "dict.get" = false := by decide +kernel
theorem told_scon : Manifest.toldItsClass.contains "set.__contains__" = false := by decide +kernel
theorem owner_dget : ".".intercalate ("dict.get".cutAt '.').dropLast = "dict" := by decide +kernel
theorem owner_scon : ".".intercalate ("set.__contains__".cutAt '.').dropLast = "set" := by decide +kernel
section
variable {M : Model} {A : Around} {E : Value → Shared → Prop} {s : Shared} {a : Addr}
theorem run_mdget {id owner : String} {P : PySem.Fin → Shared → Prop} (ho : ".".intercalate (id.cutAt '.').dropLast = owner) (ht : Manifest.toldItsClass.contains id = false) (hT : s.TypeIs (.ref a) owner)
    (hs : isSubtype (.type owner) (.type owner) = pure true)
    (h : P (.done (.ret (.ref s.heap.objs.size))) { s with heap := s.heap.push (bmeth id a) }) :
    wpAny M A (Builtin.«method_descriptor.__get__» ⟨[.builtin id, .ref a, .type owner], []⟩) P E s := by
  unfold Builtin.«method_descriptor.__get__»
  refine wpAny_bind (wpAny_of_eq (a := (.builtin id, some (.ref a), some (.type owner))) (by first | rfl | kernel_rfl) ?_)
  dsimp only
  rw [ht]
  simp only [Bool.false_eq_true, if_false]
  refine wpAny_bind ?_
  wp_delta
  refine wpAny_bind ?_
  wp_delta
  iterate 4 wp_step
  rw [ho]
  repeat (any_goals (first | assumption | wp_step))
end
section
variable {prog : Program} {w : World} {A : Around} {E : Value → Shared → Prop} {s : Shared} {a : Addr}
theorem code_mdget {id owner : String} {R : Result → Shared → Prop} (hty : typeOf (.builtin id) = pure (.type "method_descriptor")) (ho : ".".intercalate (id.cutAt '.').dropLast = owner) (ht : Manifest.toldItsClass.contains id = false) (hT : s.TypeIs (.ref a) owner)
    (hs : isSubtype (.type owner) (.type owner) = pure true)
    (h : R (.ok (.ret (.ref s.heap.objs.size))) { s with heap := s.heap.push (bmeth id a) }) :
    codeAny (model prog w) A (.call (.builtin "method_descriptor.__get__") ⟨[.builtin id, .ref a, .type owner], []⟩) R s := by
  refine codeAny_call_builtin slot_md_get.plain entry_md_get (slot_md_get.check _ _ _ _ _ _ _ _ hty (args_md_get _ _ _) ?_)
  exact run_mdget ho ht hT hs h
theorem md_set : typeLookup (.type "method_descriptor") "__set__" = pure none := by rw [typeLookup_type, builtinLookup_eq_fast]; kernel_rfl
theorem md_delete : typeLookup (.type "method_descriptor") "__delete__" = pure none := by rw [typeLookup_type, builtinLookup_eq_fast]; kernel_rfl
theorem sub_dict : isSubtype (.type "dict") (.type "dict") = pure true := by rw [isSubtype_type]; kernel_rfl
theorem sub_set : isSubtype (.type "set") (.type "set") = pure true := by rw [isSubtype_type]; kernel_rfl
theorem entry_set_ga : entryFor table "set.__getattribute__" = some Builtin.«object.__getattribute__» :=
  entryFor_alias (id' := "object.__getattribute__") (by kernel_rfl) (by decide +kernel) (by decide +kernel) (by kernel_rfl)
theorem ga_hit_dict (es : Array DictEntry) (k : Nat) (sl : Array (Option Value)) (u : Tok) :
    Meets (Builtin.«object.__getattribute__» ⟨[.ref a, .str "get" u], []⟩) (fun A R s => s.heap.get? a = some { cls := .type "dict", dict := none, data := .dict es k, slots := sl } ∧ R (.ok (.ret (.ref s.heap.objs.size))) { s with heap := s.heap.push (bmeth "dict.get" a) }) :=
  Meets.of_wp fun prog w A R s hs => by
    obtain ⟨hp, g, d, tk, os⟩ := s
    obtain ⟨hx, hs⟩ := hs
    have hT : (⟨hp, g, d, tk, os⟩ : Shared).TypeIs (.ref a) "dict" := ⟨_, hx, rfl⟩
    have f1 := F.slot_dict_get.lookup
    have f2 := slot_md_get.lookup
    have f3 := type_dget
    have f4 := md_set
    have f5 := md_delete
    unfold Builtin.«object.__getattribute__»
    repeat (any_goals (first | assumption | wp_step))
    exact code_mdget type_dget owner_dget told_dget hT sub_dict (wpAny_pure ⟨_, rfl, hs⟩)
theorem ga_hit_set (es : Array (Int × Value)) (k : Nat) (t : SetTable) (sl : Array (Option Value)) (u : Tok) :
    Meets (Builtin.«object.__getattribute__» ⟨[.ref a, .str "__contains__" u], []⟩) (fun A R s => s.heap.get? a = some { cls := .type "set", dict := none, data := .set es k t, slots := sl } ∧ R (.ok (.ret (.ref s.heap.objs.size))) { s with heap := s.heap.push (bmeth "set.__contains__" a) }) :=
  Meets.of_wp fun prog w A R s hs => by
    obtain ⟨hp, g, d, tk, os⟩ := s
    obtain ⟨hx, hs⟩ := hs
    have hT : (⟨hp, g, d, tk, os⟩ : Shared).TypeIs (.ref a) "set" := ⟨_, hx, rfl⟩
    have f1 := F.slot_set_contains.lookup
    have f2 := slot_md_get.lookup
    have f3 := type_scon
    have f4 := md_set
    have f5 := md_delete
    unfold Builtin.«object.__getattribute__»
    repeat (any_goals (first | assumption | wp_step))
    exact code_mdget type_scon owner_scon told_scon hT sub_set (wpAny_pure ⟨_, rfl, hs⟩)
theorem getAttr_dict_get {es : Array DictEntry} {k : Nat} {sl : Array (Option Value)} {Q : Value → Shared → Prop}
    (hx : s.heap.get? a = some { cls := .type "dict", dict := none, data := .dict es k, slots := sl })
    (h : Q (.ref s.heap.objs.size) { s with heap := s.heap.push (bmeth "dict.get" a), toks := s.toks + 1 }) :
    wpAny (model prog w) A (getAttr (.ref a) "get" true) Q E s := by
  obtain ⟨hp, g, d, tk, os⟩ := s
  have hT : ∀ tk', (⟨hp, g, d, tk', os⟩ : Shared).TypeIs (.ref a) "dict" := fun _ => ⟨_, hx, rfl⟩
  have f3 := F.slot_dict_getattribute.lookup
  have f4 := F.slot_dict_getattribute.bind (.ref a)
  unfold getAttr getAttrBy
  repeat (any_goals (first | assumption | exact hT _ | ((with_reducible show wpAny _ _ (call (Value.builtin "dict.__getattribute__") _ _) _ _ _); refine call_meets F.slot_dict_getattribute (hT _) am_entry_dict_getattribute (F.args_dict_getattribute_2 _ _) (ga_hit_dict es k sl _) ⟨hx, ?_⟩) | wp_step))
  exact wpAny_pure h
theorem getAttr_set_contains {es : Array (Int × Value)} {k : Nat} {t : SetTable} {sl : Array (Option Value)} {Q : Value → Shared → Prop}
    (hx : s.heap.get? a = some { cls := .type "set", dict := none, data := .set es k t, slots := sl })
    (h : Q (.ref s.heap.objs.size) { s with heap := s.heap.push (bmeth "set.__contains__" a), toks := s.toks + 1 }) :
    wpAny (model prog w) A (getAttr (.ref a) "__contains__" true) Q E s := by
  obtain ⟨hp, g, d, tk, os⟩ := s
  have hT : ∀ tk', (⟨hp, g, d, tk', os⟩ : Shared).TypeIs (.ref a) "set" := fun _ => ⟨_, hx, rfl⟩
  have f3 := F.slot_set_getattribute.lookup
  have f4 := F.slot_set_getattribute.bind (.ref a)
  unfold getAttr getAttrBy
  repeat (any_goals (first | assumption | exact hT _ | ((with_reducible show wpAny _ _ (call (Value.builtin "set.__getattribute__") _ _) _ _ _); refine call_meets F.slot_set_getattribute (hT _) entry_set_ga (F.args_set_getattribute_2 _ _) (ga_hit_set es k t sl _) ⟨hx, ?_⟩) | wp_step))
  exact wpAny_pure h
theorem mro_dict_module : isSubtype (.type "dict") (.type "module") = pure false := by rw [isSubtype_type]; kernel_rfl
theorem mro_set_module : isSubtype (.type "set") (.type "module") = pure false := by rw [isSubtype_type]; kernel_rfl
theorem bound_ok {id T : String} {sig : Manifest.Signature} {o : Obj} {pos : List Value} {Q : Unit → Shared → Prop} (hsig : Manifest.signature? id = some sig) (hk : builtinKind id = some .method) (hv : Manifest.varargsMethods.contains id = false)
    (ho : s.heap.get? a = some o) (hT : o.cls = .type T) (hd : (match o.data with | .cls _ => true | _ => false) = false) (hm : isSubtype (.type T) (.type "module") = pure false)
    (hc : Bind.checkArgs id { sig with full := s!"{Bind.lastOf T}.{Bind.lastOf id}" } ⟨.ref a :: pos, []⟩ = pure ()) (h : Q () s) : wpAny (model prog w) A (checkBoundCall id ⟨.ref a :: pos, []⟩) Q E s := by
  have hT' : s.TypeIs (.ref a) T := ⟨o, ho, hT⟩
  unfold checkBoundCall
  rw [hsig, hk]
  dsimp only
  rw [show ((Manifest.AttrKind.method != Manifest.AttrKind.method && Manifest.AttrKind.method != Manifest.AttrKind.classMethod)) = false from by decide]
  simp only [Bool.false_eq_true, if_false]
  refine wpAny_bind ?_
  refine wpAny_isInstance hT' hm ?_
  rw [hv]
  simp only [Bool.or_self, Bool.false_eq_true, if_false]
  refine wpAny_bind ?_
  unfold isType
  refine wpAny_bind (wpAny_loadPart ho (wpAny_pure ?_))
  refine KFB.if_not hd ?_
  refine wpAny_bind (wpAny_typeOf hT' ?_)
  exact wpAny_of_eq hc h
theorem sg_dget : (Manifest.signature? "dict.get").isSome = true := by decide +kernel
noncomputable def sig_dget : Manifest.Signature := (Manifest.signature? "dict.get").get sg_dget
theorem hsig_dget : Manifest.signature? "dict.get" = some sig_dget := (Option.some_get _).symm
theorem kd_dget : builtinKind "dict.get" = some .method := by kernel_rfl
theorem va_dget : Manifest.varargsMethods.contains "dict.get" = false := by decide +kernel
theorem chk_dget (a : Addr) (x y : Value) : Bind.checkArgs "dict.get" { sig_dget with full := s!"{Bind.lastOf "dict"}.{Bind.lastOf "dict.get"}" } ⟨[.ref a, x, y], []⟩ = pure () := by kernel_rfl
theorem bound_dget {o : Obj} {x y : Value} {Q : Unit → Shared → Prop} (ho : s.heap.get? a = some o) (hT : o.cls = .type "dict") (hd : (match o.data with | .cls _ => true | _ => false) = false) (h : Q () s) :
    wpAny (model prog w) A (checkBoundCall "dict.get" ⟨[.ref a, x, y], []⟩) Q E s :=
  bound_ok (id := "dict.get") (T := "dict") (pos := [x, y]) hsig_dget kd_dget va_dget ho hT hd mro_dict_module (chk_dget a x y) h
theorem sg_scon : (Manifest.signature? "set.__contains__").isSome = true := by decide +kernel
noncomputable def sig_scon : Manifest.Signature := (Manifest.signature? "set.__contains__").get sg_scon
theorem hsig_scon : Manifest.signature? "set.__contains__" = some sig_scon := (Option.some_get _).symm
theorem kd_scon : builtinKind "set.__contains__" = some .method := by kernel_rfl
theorem va_scon : Manifest.varargsMethods.contains "set.__contains__" = false := by decide +kernel
theorem chk_scon (a : Addr) (x : Value) : Bind.checkArgs "set.__contains__" { sig_scon with full := s!"{Bind.lastOf "set"}.{Bind.lastOf "set.__contains__"}" } ⟨[.ref a, x], []⟩ = pure () := by kernel_rfl
theorem bound_scon {o : Obj} {x : Value} {Q : Unit → Shared → Prop} (ho : s.heap.get? a = some o) (hT : o.cls = .type "set") (hd : (match o.data with | .cls _ => true | _ => false) = false) (h : Q () s) :
    wpAny (model prog w) A (checkBoundCall "set.__contains__" ⟨[.ref a, x], []⟩) Q E s :=
  bound_ok (id := "set.__contains__") (T := "set") (pos := [x]) hsig_scon kd_scon va_scon ho hT hd mro_set_module (chk_scon a x) h
theorem code_bmeth {id : String} {q : Addr} {pos : List Value} {R : Result → Shared → Prop} (ho : s.heap.get? q = some (bmeth id a))
    (ck : ∀ (Q : Unit → Shared → Prop) (E' : Value → Shared → Prop) (A' : Around), Q () s → wpAny (model prog w) A' (checkBoundCall id ⟨.ref a :: pos, []⟩) Q E' s) (hq : (Code.builtin id ⟨.ref a :: pos, []⟩).quiet = true)
    (h : codeAny (model prog w) A (.builtin id ⟨.ref a :: pos, []⟩) R s) : codeAny (model prog w) A (.call (.ref q) ⟨pos, []⟩) R s := by
  refine codeAny_of_tree ?_
  show wpAny _ _ (callAny (.ref q) ⟨pos, []⟩) _ _ s
  simp only [callAny]
  refine wpAny_bind (wpAny_load ho ?_)
  simp only [bmeth, show (Value.type "builtin_function_or_method" == Value.type "method" || Value.type "builtin_function_or_method" == Value.type "builtin_function_or_method" || Value.type "builtin_function_or_method" == Value.type "method-wrapper") = true by decide, if_true]
  refine KFB.if_so (by decide) ?_
  refine wpAny_bind (ck _ _ _ ?_)
  refine wpAny_bind (wpAny_pure (wpAny_pure ?_))
  exact ⟨hq, h⟩
end
end Mine
end
section
open PySem PySem.W PyProof.Rows
namespace Mine
universe u
/-- a whole array's any, by its list -/
theorem any_full {α : Type u} (as : Array α) (p : α → Bool) : Array.any as p 0 as.size = PySem.W.R.anyR as.toList p := by
  rw [← PySem.W.R.anyR_eq]
  cases as with
  | mk l => simp
noncomputable def anyF {α : Type u} (as : Array α) (p : α → Bool) (start : Nat := 0) (stop : Nat := as.size) : Bool :=
  @Bool.rec (fun _ => Bool) (Array.any as p start stop) (@Bool.rec (fun _ => Bool) (Array.any as p start stop) (PySem.W.R.anyR as.toList p) (Nat.beq stop as.size)) (Nat.beq start 0)
theorem anyF_eq : @Array.any.{u} = @anyF.{u} := by
  funext α as p start stop
  unfold anyF
  cases h : Nat.beq start 0 with
  | false => rfl
  | true =>
    cases h2 : Nat.beq stop as.size with
    | false => rfl
    | true =>
      have e1 := Nat.eq_of_beq_eq_true h
      have e2 := Nat.eq_of_beq_eq_true h2
      subst e1 e2
      exact any_full as p
/-- equality as data: a def that bears it holds no proof -/
inductive IdT : Builtin → Builtin → Type
  | refl (a : Builtin) : IdT a a
theorem IdT.eq {a b : Builtin} (h : IdT a b) : a = b := by
  cases h
  rfl
set_option maxRecDepth 100000 in
set_option maxHeartbeats 40000000 in
noncomputable def newQ : (f : Builtin) × IdT PySem.W.Fast.tw4202317264376624991 f := by
  refine ⟨?f, ?h⟩
  case h =>
    delta PySem.W.Fast.tw4202317264376624991
    have hE := anyF_eq.{0}
    generalize @Array.any.{0} = a at hE ⊢
    subst hE
    exact IdT.refl _
noncomputable def newT : Builtin := newQ.1
theorem newT_eq : Builtin.«type.__new__» = newT := PySem.W.Fast.te4202317264376624991.trans newQ.2.eq
end Mine
end
section
open PySem PySem.W PyProof.Rows
set_option maxRecDepth 100000
namespace Mine
noncomputable def nS : List Stmt → Nat → Stmt
  | [], _ => .Pass ⟨0, 0, 0, 0⟩
  | s :: _, 0 => s
  | _ :: l, n + 1 => nS l n
noncomputable def bS : Stmt → List Stmt
  | .FunctionDef _ _ b _ _ _ _ _ _ _ => b
  | .ClassDef _ _ _ b _ _ _ _ _ _ _ => b
  | _ => []
noncomputable def bd0 : List Stmt := bS (nS PySem.Challenge.pw_oy0507_01.main.body 0)
noncomputable def bd2x0 : List Stmt := bS (nS (bS (nS PySem.Challenge.pw_oy0507_01.main.body 2)) 0)
noncomputable def bd2x1 : List Stmt := bS (nS (bS (nS PySem.Challenge.pw_oy0507_01.main.body 2)) 1)
noncomputable def bd2x2 : List Stmt := bS (nS (bS (nS PySem.Challenge.pw_oy0507_01.main.body 2)) 2)
noncomputable def bd2x3 : List Stmt := bS (nS (bS (nS PySem.Challenge.pw_oy0507_01.main.body 2)) 3)
noncomputable def bd3x4 : List Stmt := bS (nS (bS (nS PySem.Challenge.pw_oy0507_01.main.body 3)) 4)
noncomputable def bd3x5 : List Stmt := bS (nS (bS (nS PySem.Challenge.pw_oy0507_01.main.body 3)) 5)
noncomputable def bd3x6 : List Stmt := bS (nS (bS (nS PySem.Challenge.pw_oy0507_01.main.body 3)) 6)
noncomputable def bd3x8 : List Stmt := bS (nS (bS (nS PySem.Challenge.pw_oy0507_01.main.body 3)) 8)
noncomputable def bd3x9 : List Stmt := bS (nS (bS (nS PySem.Challenge.pw_oy0507_01.main.body 3)) 9)
noncomputable def bd3x10 : List Stmt := bS (nS (bS (nS PySem.Challenge.pw_oy0507_01.main.body 3)) 10)
noncomputable def bd4 : List Stmt := bS (nS PySem.Challenge.pw_oy0507_01.main.body 4)
noncomputable def bd5x1 : List Stmt := bS (nS (bS (nS PySem.Challenge.pw_oy0507_01.main.body 5)) 1)
noncomputable def bd5x2 : List Stmt := bS (nS (bS (nS PySem.Challenge.pw_oy0507_01.main.body 5)) 2)
noncomputable def bd5x3 : List Stmt := bS (nS (bS (nS PySem.Challenge.pw_oy0507_01.main.body 5)) 3)
noncomputable def bd5x4 : List Stmt := bS (nS (bS (nS PySem.Challenge.pw_oy0507_01.main.body 5)) 4)
noncomputable def bd5x5 : List Stmt := bS (nS (bS (nS PySem.Challenge.pw_oy0507_01.main.body 5)) 5)
noncomputable def bd5x6 : List Stmt := bS (nS (bS (nS PySem.Challenge.pw_oy0507_01.main.body 5)) 6)
noncomputable def bd5x7 : List Stmt := bS (nS (bS (nS PySem.Challenge.pw_oy0507_01.main.body 5)) 7)
noncomputable def bd5x8 : List Stmt := bS (nS (bS (nS PySem.Challenge.pw_oy0507_01.main.body 5)) 8)
noncomputable def bd5x9 : List Stmt := bS (nS (bS (nS PySem.Challenge.pw_oy0507_01.main.body 5)) 9)
noncomputable def bd5x10 : List Stmt := bS (nS (bS (nS PySem.Challenge.pw_oy0507_01.main.body 5)) 10)
noncomputable def bd5x11 : List Stmt := bS (nS (bS (nS PySem.Challenge.pw_oy0507_01.main.body 5)) 11)
noncomputable def bd5x12 : List Stmt := bS (nS (bS (nS PySem.Challenge.pw_oy0507_01.main.body 5)) 12)
noncomputable def bd7 : List Stmt := bS (nS PySem.Challenge.pw_oy0507_01.main.body 7)
noncomputable def bd28 : List Stmt := bS (nS PySem.Challenge.pw_oy0507_01.main.body 28)
noncomputable def bd30 : List Stmt := bS (nS PySem.Challenge.pw_oy0507_01.main.body 30)
noncomputable def bd31 : List Stmt := bS (nS PySem.Challenge.pw_oy0507_01.main.body 31)
noncomputable def bd32 : List Stmt := bS (nS PySem.Challenge.pw_oy0507_01.main.body 32)
noncomputable def bd33 : List Stmt := bS (nS PySem.Challenge.pw_oy0507_01.main.body 33)
noncomputable def bd34 : List Stmt := bS (nS PySem.Challenge.pw_oy0507_01.main.body 34)
noncomputable def dS : List Stmt → Str
  | .Expr (.Constant (.str s) _ _) _ :: _ => s
  | _ => ⟨#[]⟩
noncomputable def dc0 : Str := dS bd0
noncomputable def dc2x0 : Str := dS bd2x0
noncomputable def dc2x1 : Str := dS bd2x1
noncomputable def dc2x2 : Str := dS bd2x2
noncomputable def dc2x3 : Str := dS bd2x3
noncomputable def dc3x4 : Str := dS bd3x4
noncomputable def dc3x5 : Str := dS bd3x5
noncomputable def dc3x6 : Str := dS bd3x6
noncomputable def dc3x8 : Str := dS bd3x8
noncomputable def dc3x9 : Str := dS bd3x9
noncomputable def dc3x10 : Str := dS bd3x10
noncomputable def dc4 : Str := dS bd4
noncomputable def dc5x1 : Str := dS bd5x1
noncomputable def dc5x2 : Str := dS bd5x2
noncomputable def dc5x3 : Str := dS bd5x3
noncomputable def dc5x4 : Str := dS bd5x4
noncomputable def dc5x5 : Str := dS bd5x5
noncomputable def dc5x6 : Str := dS bd5x6
noncomputable def dc5x7 : Str := dS bd5x7
noncomputable def dc5x8 : Str := dS bd5x8
noncomputable def dc5x9 : Str := dS bd5x9
noncomputable def dc5x10 : Str := dS bd5x10
noncomputable def dc5x11 : Str := dS bd5x11
noncomputable def dc5x12 : Str := dS bd5x12
noncomputable def dc7 : Str := dS bd7
noncomputable def dc28 : Str := dS bd28
noncomputable def dc30 : Str := dS bd30
noncomputable def dc31 : Str := dS bd31
noncomputable def dc32 : Str := dS bd32
noncomputable def dc33 : Str := dS bd33
noncomputable def dc34 : Str := dS bd34
noncomputable def dc2 : Str := dS (bS (nS PySem.Challenge.pw_oy0507_01.main.body 2))
noncomputable def dc3 : Str := dS (bS (nS PySem.Challenge.pw_oy0507_01.main.body 3))
noncomputable def dn53 : List Nat := nat_lit 32 :: nat_lit 99 :: nat_lit 97 :: nat_lit 115 :: nat_lit 101 :: nat_lit 32 :: nat_lit 116 :: nat_lit 105 :: nat_lit 109 :: nat_lit 101 :: nat_lit 32 :: nat_lit 105 :: nat_lit 115 :: nat_lit 32 :: nat_lit 108 :: nat_lit 105 :: nat_lit 110 :: nat_lit 101 :: nat_lit 97 :: nat_lit 114 :: nat_lit 46 :: nat_lit 10 :: []
noncomputable def dn52 : List Nat := nat_lit 32 :: nat_lit 119 :: nat_lit 97 :: nat_lit 121 :: nat_lit 32 :: nat_lit 111 :: nat_lit 110 :: nat_lit 32 :: nat_lit 104 :: nat_lit 111 :: nat_lit 119 :: nat_lit 32 :: nat_lit 109 :: nat_lit 97 :: nat_lit 110 :: nat_lit 121 :: nat_lit 10 :: nat_lit 101 :: nat_lit 108 :: nat_lit 101 :: nat_lit 109 :: nat_lit 101 :: nat_lit 110 :: nat_lit 116 :: nat_lit 115 :: nat_lit 32 :: nat_lit 116 :: nat_lit 104 :: nat_lit 101 :: nat_lit 32 :: nat_lit 115 :: nat_lit 101 :: nat_lit 113 :: nat_lit 117 :: nat_lit 101 :: nat_lit 110 :: nat_lit 99 :: nat_lit 101 :: nat_lit 115 :: nat_lit 32 :: nat_lit 104 :: nat_lit 97 :: nat_lit 118 :: nat_lit 101 :: nat_lit 32 :: nat_lit 105 :: nat_lit 110 :: nat_lit 32 :: nat_lit 99 :: nat_lit 111 :: nat_lit 109 :: nat_lit 109 :: nat_lit 111 :: nat_lit 110 :: nat_lit 59 :: nat_lit 32 :: nat_lit 98 :: nat_lit 101 :: nat_lit 115 :: nat_lit 116 :: dn53
noncomputable def dn51 : List Nat := nat_lit 115 :: nat_lit 101 :: nat_lit 32 :: nat_lit 97 :: nat_lit 110 :: nat_lit 100 :: nat_lit 32 :: nat_lit 104 :: nat_lit 97 :: nat_lit 115 :: nat_lit 10 :: nat_lit 101 :: nat_lit 120 :: nat_lit 112 :: nat_lit 101 :: nat_lit 99 :: nat_lit 116 :: nat_lit 101 :: nat_lit 100 :: nat_lit 45 :: nat_lit 99 :: nat_lit 97 :: nat_lit 115 :: nat_lit 101 :: nat_lit 32 :: nat_lit 98 :: nat_lit 101 :: nat_lit 104 :: nat_lit 97 :: nat_lit 118 :: nat_lit 105 :: nat_lit 111 :: nat_lit 114 :: nat_lit 32 :: nat_lit 100 :: nat_lit 101 :: nat_lit 112 :: nat_lit 101 :: nat_lit 110 :: nat_lit 100 :: nat_lit 101 :: nat_lit 110 :: nat_lit 116 :: nat_lit 32 :: nat_lit 105 :: nat_lit 110 :: nat_lit 32 :: nat_lit 97 :: nat_lit 32 :: nat_lit 99 :: nat_lit 111 :: nat_lit 109 :: nat_lit 112 :: nat_lit 108 :: nat_lit 105 :: nat_lit 99 :: nat_lit 97 :: nat_lit 116 :: nat_lit 101 :: nat_lit 100 :: dn52
noncomputable def dn50 : List Nat := nat_lit 101 :: nat_lit 100 :: nat_lit 10 :: nat_lit 99 :: nat_lit 97 :: nat_lit 115 :: nat_lit 101 :: nat_lit 46 :: nat_lit 32 :: nat_lit 32 :: nat_lit 83 :: nat_lit 101 :: nat_lit 113 :: nat_lit 117 :: nat_lit 101 :: nat_lit 110 :: nat_lit 99 :: nat_lit 101 :: nat_lit 77 :: nat_lit 97 :: nat_lit 116 :: nat_lit 99 :: nat_lit 104 :: nat_lit 101 :: nat_lit 114 :: nat_lit 32 :: nat_lit 105 :: nat_lit 115 :: nat_lit 32 :: nat_lit 113 :: nat_lit 117 :: nat_lit 97 :: nat_lit 100 :: nat_lit 114 :: nat_lit 97 :: nat_lit 116 :: nat_lit 105 :: nat_lit 99 :: nat_lit 32 :: nat_lit 116 :: nat_lit 105 :: nat_lit 109 :: nat_lit 101 :: nat_lit 32 :: nat_lit 102 :: nat_lit 111 :: nat_lit 114 :: nat_lit 32 :: nat_lit 116 :: nat_lit 104 :: nat_lit 101 :: nat_lit 32 :: nat_lit 119 :: nat_lit 111 :: nat_lit 114 :: nat_lit 115 :: nat_lit 116 :: nat_lit 32 :: nat_lit 99 :: nat_lit 97 :: dn51
noncomputable def dn49 : List Nat := nat_lit 66 :: nat_lit 97 :: nat_lit 115 :: nat_lit 105 :: nat_lit 99 :: nat_lit 32 :: nat_lit 82 :: nat_lit 45 :: nat_lit 79 :: nat_lit 32 :: nat_lit 105 :: nat_lit 115 :: nat_lit 32 :: nat_lit 99 :: nat_lit 117 :: nat_lit 98 :: nat_lit 105 :: nat_lit 99 :: nat_lit 32 :: nat_lit 116 :: nat_lit 105 :: nat_lit 109 :: nat_lit 101 :: nat_lit 32 :: nat_lit 119 :: nat_lit 111 :: nat_lit 114 :: nat_lit 115 :: nat_lit 116 :: nat_lit 32 :: nat_lit 99 :: nat_lit 97 :: nat_lit 115 :: nat_lit 101 :: nat_lit 32 :: nat_lit 97 :: nat_lit 110 :: nat_lit 100 :: nat_lit 32 :: nat_lit 113 :: nat_lit 117 :: nat_lit 97 :: nat_lit 100 :: nat_lit 114 :: nat_lit 97 :: nat_lit 116 :: nat_lit 105 :: nat_lit 99 :: nat_lit 32 :: nat_lit 116 :: nat_lit 105 :: nat_lit 109 :: nat_lit 101 :: nat_lit 32 :: nat_lit 101 :: nat_lit 120 :: nat_lit 112 :: nat_lit 101 :: nat_lit 99 :: nat_lit 116 :: dn50
noncomputable def dn48 : List Nat := nat_lit 111 :: nat_lit 110 :: nat_lit 32 :: nat_lit 83 :: nat_lit 101 :: nat_lit 113 :: nat_lit 117 :: nat_lit 101 :: nat_lit 110 :: nat_lit 99 :: nat_lit 101 :: nat_lit 77 :: nat_lit 97 :: nat_lit 116 :: nat_lit 99 :: nat_lit 104 :: nat_lit 101 :: nat_lit 114 :: nat_lit 32 :: nat_lit 99 :: nat_lit 97 :: nat_lit 110 :: nat_lit 32 :: nat_lit 98 :: nat_lit 101 :: nat_lit 32 :: nat_lit 117 :: nat_lit 115 :: nat_lit 101 :: nat_lit 100 :: nat_lit 32 :: nat_lit 116 :: nat_lit 111 :: nat_lit 32 :: nat_lit 100 :: nat_lit 111 :: nat_lit 32 :: nat_lit 117 :: nat_lit 115 :: nat_lit 101 :: nat_lit 102 :: nat_lit 117 :: nat_lit 108 :: nat_lit 32 :: nat_lit 119 :: nat_lit 111 :: nat_lit 114 :: nat_lit 107 :: nat_lit 46 :: nat_lit 10 :: nat_lit 10 :: nat_lit 84 :: nat_lit 105 :: nat_lit 109 :: nat_lit 105 :: nat_lit 110 :: nat_lit 103 :: nat_lit 58 :: nat_lit 32 :: nat_lit 32 :: dn49
noncomputable def dn47 : List Nat := nat_lit 99 :: nat_lit 104 :: nat_lit 101 :: nat_lit 115 :: nat_lit 40 :: nat_lit 41 :: nat_lit 32 :: nat_lit 105 :: nat_lit 110 :: nat_lit 32 :: nat_lit 116 :: nat_lit 104 :: nat_lit 105 :: nat_lit 115 :: nat_lit 32 :: nat_lit 109 :: nat_lit 111 :: nat_lit 100 :: nat_lit 117 :: nat_lit 108 :: nat_lit 101 :: nat_lit 44 :: nat_lit 32 :: nat_lit 119 :: nat_lit 104 :: nat_lit 105 :: nat_lit 99 :: nat_lit 104 :: nat_lit 32 :: nat_lit 115 :: nat_lit 104 :: nat_lit 111 :: nat_lit 119 :: nat_lit 115 :: nat_lit 32 :: nat_lit 104 :: nat_lit 111 :: nat_lit 119 :: nat_lit 10 :: nat_lit 115 :: nat_lit 105 :: nat_lit 109 :: nat_lit 112 :: nat_lit 108 :: nat_lit 101 :: nat_lit 32 :: nat_lit 99 :: nat_lit 111 :: nat_lit 100 :: nat_lit 101 :: nat_lit 32 :: nat_lit 98 :: nat_lit 117 :: nat_lit 105 :: nat_lit 108 :: nat_lit 100 :: nat_lit 105 :: nat_lit 110 :: nat_lit 103 :: nat_lit 32 :: dn48
noncomputable def dn46 : List Nat := nat_lit 105 :: nat_lit 108 :: nat_lit 97 :: nat_lit 114 :: nat_lit 32 :: nat_lit 40 :: nat_lit 110 :: nat_lit 101 :: nat_lit 97 :: nat_lit 114 :: nat_lit 45 :: nat_lit 109 :: nat_lit 97 :: nat_lit 116 :: nat_lit 99 :: nat_lit 104 :: nat_lit 105 :: nat_lit 110 :: nat_lit 103 :: nat_lit 41 :: nat_lit 32 :: nat_lit 108 :: nat_lit 105 :: nat_lit 110 :: nat_lit 101 :: nat_lit 115 :: nat_lit 46 :: nat_lit 10 :: nat_lit 10 :: nat_lit 83 :: nat_lit 101 :: nat_lit 101 :: nat_lit 32 :: nat_lit 97 :: nat_lit 108 :: nat_lit 115 :: nat_lit 111 :: nat_lit 32 :: nat_lit 102 :: nat_lit 117 :: nat_lit 110 :: nat_lit 99 :: nat_lit 116 :: nat_lit 105 :: nat_lit 111 :: nat_lit 110 :: nat_lit 32 :: nat_lit 103 :: nat_lit 101 :: nat_lit 116 :: nat_lit 95 :: nat_lit 99 :: nat_lit 108 :: nat_lit 111 :: nat_lit 115 :: nat_lit 101 :: nat_lit 95 :: nat_lit 109 :: nat_lit 97 :: nat_lit 116 :: dn47
noncomputable def dn45 : List Nat := nat_lit 32 :: nat_lit 111 :: nat_lit 102 :: nat_lit 32 :: nat_lit 108 :: nat_lit 105 :: nat_lit 110 :: nat_lit 101 :: nat_lit 115 :: nat_lit 44 :: nat_lit 32 :: nat_lit 97 :: nat_lit 110 :: nat_lit 100 :: nat_lit 32 :: nat_lit 116 :: nat_lit 111 :: nat_lit 32 :: nat_lit 99 :: nat_lit 111 :: nat_lit 109 :: nat_lit 112 :: nat_lit 97 :: nat_lit 114 :: nat_lit 101 :: nat_lit 10 :: nat_lit 115 :: nat_lit 101 :: nat_lit 113 :: nat_lit 117 :: nat_lit 101 :: nat_lit 110 :: nat_lit 99 :: nat_lit 101 :: nat_lit 115 :: nat_lit 32 :: nat_lit 111 :: nat_lit 102 :: nat_lit 32 :: nat_lit 99 :: nat_lit 104 :: nat_lit 97 :: nat_lit 114 :: nat_lit 97 :: nat_lit 99 :: nat_lit 116 :: nat_lit 101 :: nat_lit 114 :: nat_lit 115 :: nat_lit 32 :: nat_lit 119 :: nat_lit 105 :: nat_lit 116 :: nat_lit 104 :: nat_lit 105 :: nat_lit 110 :: nat_lit 32 :: nat_lit 115 :: nat_lit 105 :: nat_lit 109 :: dn46
noncomputable def dn44 : List Nat := nat_lit 114 :: nat_lit 101 :: nat_lit 110 :: nat_lit 99 :: nat_lit 101 :: nat_lit 114 :: nat_lit 44 :: nat_lit 32 :: nat_lit 119 :: nat_lit 104 :: nat_lit 105 :: nat_lit 99 :: nat_lit 104 :: nat_lit 10 :: nat_lit 117 :: nat_lit 115 :: nat_lit 101 :: nat_lit 115 :: nat_lit 32 :: nat_lit 83 :: nat_lit 101 :: nat_lit 113 :: nat_lit 117 :: nat_lit 101 :: nat_lit 110 :: nat_lit 99 :: nat_lit 101 :: nat_lit 77 :: nat_lit 97 :: nat_lit 116 :: nat_lit 99 :: nat_lit 104 :: nat_lit 101 :: nat_lit 114 :: nat_lit 32 :: nat_lit 98 :: nat_lit 111 :: nat_lit 116 :: nat_lit 104 :: nat_lit 32 :: nat_lit 116 :: nat_lit 111 :: nat_lit 32 :: nat_lit 99 :: nat_lit 111 :: nat_lit 109 :: nat_lit 112 :: nat_lit 97 :: nat_lit 114 :: nat_lit 101 :: nat_lit 32 :: nat_lit 115 :: nat_lit 101 :: nat_lit 113 :: nat_lit 117 :: nat_lit 101 :: nat_lit 110 :: nat_lit 99 :: nat_lit 101 :: nat_lit 115 :: dn45
noncomputable def dn43 : List Nat := nat_lit 10 :: nat_lit 10 :: nat_lit 83 :: nat_lit 101 :: nat_lit 101 :: nat_lit 32 :: nat_lit 116 :: nat_lit 104 :: nat_lit 101 :: nat_lit 32 :: nat_lit 68 :: nat_lit 105 :: nat_lit 102 :: nat_lit 102 :: nat_lit 101 :: nat_lit 114 :: nat_lit 32 :: nat_lit 99 :: nat_lit 108 :: nat_lit 97 :: nat_lit 115 :: nat_lit 115 :: nat_lit 32 :: nat_lit 102 :: nat_lit 111 :: nat_lit 114 :: nat_lit 32 :: nat_lit 97 :: nat_lit 32 :: nat_lit 102 :: nat_lit 97 :: nat_lit 110 :: nat_lit 99 :: nat_lit 121 :: nat_lit 32 :: nat_lit 104 :: nat_lit 117 :: nat_lit 109 :: nat_lit 97 :: nat_lit 110 :: nat_lit 45 :: nat_lit 102 :: nat_lit 114 :: nat_lit 105 :: nat_lit 101 :: nat_lit 110 :: nat_lit 100 :: nat_lit 108 :: nat_lit 121 :: nat_lit 32 :: nat_lit 102 :: nat_lit 105 :: nat_lit 108 :: nat_lit 101 :: nat_lit 32 :: nat_lit 100 :: nat_lit 105 :: nat_lit 102 :: nat_lit 102 :: nat_lit 101 :: dn44
noncomputable def dn42 : List Nat := nat_lit 32 :: nat_lit 97 :: nat_lit 91 :: nat_lit 48 :: nat_lit 58 :: nat_lit 56 :: nat_lit 93 :: nat_lit 32 :: nat_lit 98 :: nat_lit 91 :: nat_lit 48 :: nat_lit 58 :: nat_lit 56 :: nat_lit 93 :: nat_lit 10 :: nat_lit 105 :: nat_lit 110 :: nat_lit 115 :: nat_lit 101 :: nat_lit 114 :: nat_lit 116 :: nat_lit 32 :: nat_lit 97 :: nat_lit 91 :: nat_lit 56 :: nat_lit 58 :: nat_lit 56 :: nat_lit 93 :: nat_lit 32 :: nat_lit 98 :: nat_lit 91 :: nat_lit 56 :: nat_lit 58 :: nat_lit 49 :: nat_lit 55 :: nat_lit 93 :: nat_lit 10 :: nat_lit 32 :: nat_lit 101 :: nat_lit 113 :: nat_lit 117 :: nat_lit 97 :: nat_lit 108 :: nat_lit 32 :: nat_lit 97 :: nat_lit 91 :: nat_lit 56 :: nat_lit 58 :: nat_lit 50 :: nat_lit 57 :: nat_lit 93 :: nat_lit 32 :: nat_lit 98 :: nat_lit 91 :: nat_lit 49 :: nat_lit 55 :: nat_lit 58 :: nat_lit 51 :: nat_lit 56 :: nat_lit 93 :: dn43
noncomputable def dn41 : List Nat := nat_lit 101 :: nat_lit 115 :: nat_lit 40 :: nat_lit 41 :: nat_lit 58 :: nat_lit 10 :: nat_lit 46 :: nat_lit 46 :: nat_lit 46 :: nat_lit 32 :: nat_lit 32 :: nat_lit 32 :: nat_lit 32 :: nat_lit 32 :: nat_lit 112 :: nat_lit 114 :: nat_lit 105 :: nat_lit 110 :: nat_lit 116 :: nat_lit 40 :: nat_lit 34 :: nat_lit 37 :: nat_lit 54 :: nat_lit 115 :: nat_lit 32 :: nat_lit 97 :: nat_lit 91 :: nat_lit 37 :: nat_lit 100 :: nat_lit 58 :: nat_lit 37 :: nat_lit 100 :: nat_lit 93 :: nat_lit 32 :: nat_lit 98 :: nat_lit 91 :: nat_lit 37 :: nat_lit 100 :: nat_lit 58 :: nat_lit 37 :: nat_lit 100 :: nat_lit 93 :: nat_lit 34 :: nat_lit 32 :: nat_lit 37 :: nat_lit 32 :: nat_lit 111 :: nat_lit 112 :: nat_lit 99 :: nat_lit 111 :: nat_lit 100 :: nat_lit 101 :: nat_lit 41 :: nat_lit 10 :: nat_lit 32 :: nat_lit 101 :: nat_lit 113 :: nat_lit 117 :: nat_lit 97 :: nat_lit 108 :: dn42
noncomputable def dn40 : List Nat := nat_lit 101 :: nat_lit 32 :: nat_lit 115 :: nat_lit 101 :: nat_lit 99 :: nat_lit 111 :: nat_lit 110 :: nat_lit 100 :: nat_lit 44 :: nat_lit 10 :: nat_lit 117 :: nat_lit 115 :: nat_lit 101 :: nat_lit 32 :: nat_lit 46 :: nat_lit 103 :: nat_lit 101 :: nat_lit 116 :: nat_lit 95 :: nat_lit 111 :: nat_lit 112 :: nat_lit 99 :: nat_lit 111 :: nat_lit 100 :: nat_lit 101 :: nat_lit 115 :: nat_lit 40 :: nat_lit 41 :: nat_lit 58 :: nat_lit 10 :: nat_lit 10 :: nat_lit 62 :: nat_lit 62 :: nat_lit 62 :: nat_lit 32 :: nat_lit 102 :: nat_lit 111 :: nat_lit 114 :: nat_lit 32 :: nat_lit 111 :: nat_lit 112 :: nat_lit 99 :: nat_lit 111 :: nat_lit 100 :: nat_lit 101 :: nat_lit 32 :: nat_lit 105 :: nat_lit 110 :: nat_lit 32 :: nat_lit 115 :: nat_lit 46 :: nat_lit 103 :: nat_lit 101 :: nat_lit 116 :: nat_lit 95 :: nat_lit 111 :: nat_lit 112 :: nat_lit 99 :: nat_lit 111 :: nat_lit 100 :: dn41
noncomputable def dn39 : List Nat := nat_lit 73 :: nat_lit 102 :: nat_lit 32 :: nat_lit 121 :: nat_lit 111 :: nat_lit 117 :: nat_lit 32 :: nat_lit 119 :: nat_lit 97 :: nat_lit 110 :: nat_lit 116 :: nat_lit 32 :: nat_lit 116 :: nat_lit 111 :: nat_lit 32 :: nat_lit 107 :: nat_lit 110 :: nat_lit 111 :: nat_lit 119 :: nat_lit 32 :: nat_lit 104 :: nat_lit 111 :: nat_lit 119 :: nat_lit 32 :: nat_lit 116 :: nat_lit 111 :: nat_lit 32 :: nat_lit 99 :: nat_lit 104 :: nat_lit 97 :: nat_lit 110 :: nat_lit 103 :: nat_lit 101 :: nat_lit 32 :: nat_lit 116 :: nat_lit 104 :: nat_lit 101 :: nat_lit 32 :: nat_lit 102 :: nat_lit 105 :: nat_lit 114 :: nat_lit 115 :: nat_lit 116 :: nat_lit 32 :: nat_lit 115 :: nat_lit 101 :: nat_lit 113 :: nat_lit 117 :: nat_lit 101 :: nat_lit 110 :: nat_lit 99 :: nat_lit 101 :: nat_lit 32 :: nat_lit 105 :: nat_lit 110 :: nat_lit 116 :: nat_lit 111 :: nat_lit 32 :: nat_lit 116 :: nat_lit 104 :: dn40
noncomputable def dn38 : List Nat := nat_lit 32 :: nat_lit 116 :: nat_lit 104 :: nat_lit 101 :: nat_lit 32 :: nat_lit 108 :: nat_lit 97 :: nat_lit 115 :: nat_lit 116 :: nat_lit 10 :: nat_lit 116 :: nat_lit 117 :: nat_lit 112 :: nat_lit 108 :: nat_lit 101 :: nat_lit 32 :: nat_lit 101 :: nat_lit 108 :: nat_lit 101 :: nat_lit 109 :: nat_lit 101 :: nat_lit 110 :: nat_lit 116 :: nat_lit 32 :: nat_lit 40 :: nat_lit 110 :: nat_lit 117 :: nat_lit 109 :: nat_lit 98 :: nat_lit 101 :: nat_lit 114 :: nat_lit 32 :: nat_lit 111 :: nat_lit 102 :: nat_lit 32 :: nat_lit 101 :: nat_lit 108 :: nat_lit 101 :: nat_lit 109 :: nat_lit 101 :: nat_lit 110 :: nat_lit 116 :: nat_lit 115 :: nat_lit 32 :: nat_lit 109 :: nat_lit 97 :: nat_lit 116 :: nat_lit 99 :: nat_lit 104 :: nat_lit 101 :: nat_lit 100 :: nat_lit 41 :: nat_lit 32 :: nat_lit 105 :: nat_lit 115 :: nat_lit 32 :: nat_lit 48 :: nat_lit 46 :: nat_lit 10 :: nat_lit 10 :: dn39
noncomputable def dn37 : List Nat := nat_lit 109 :: nat_lit 109 :: nat_lit 121 :: nat_lit 44 :: nat_lit 32 :: nat_lit 40 :: nat_lit 108 :: nat_lit 101 :: nat_lit 110 :: nat_lit 40 :: nat_lit 97 :: nat_lit 41 :: nat_lit 44 :: nat_lit 32 :: nat_lit 108 :: nat_lit 101 :: nat_lit 110 :: nat_lit 40 :: nat_lit 98 :: nat_lit 41 :: nat_lit 44 :: nat_lit 32 :: nat_lit 48 :: nat_lit 41 :: nat_lit 44 :: nat_lit 32 :: nat_lit 97 :: nat_lit 110 :: nat_lit 100 :: nat_lit 32 :: nat_lit 116 :: nat_lit 104 :: nat_lit 105 :: nat_lit 115 :: nat_lit 32 :: nat_lit 105 :: nat_lit 115 :: nat_lit 32 :: nat_lit 116 :: nat_lit 104 :: nat_lit 101 :: nat_lit 32 :: nat_lit 111 :: nat_lit 110 :: nat_lit 108 :: nat_lit 121 :: nat_lit 32 :: nat_lit 99 :: nat_lit 97 :: nat_lit 115 :: nat_lit 101 :: nat_lit 32 :: nat_lit 105 :: nat_lit 110 :: nat_lit 32 :: nat_lit 119 :: nat_lit 104 :: nat_lit 105 :: nat_lit 99 :: nat_lit 104 :: dn38
noncomputable def dn36 : List Nat := nat_lit 108 :: nat_lit 97 :: nat_lit 115 :: nat_lit 116 :: nat_lit 32 :: nat_lit 116 :: nat_lit 117 :: nat_lit 112 :: nat_lit 108 :: nat_lit 101 :: nat_lit 32 :: nat_lit 114 :: nat_lit 101 :: nat_lit 116 :: nat_lit 117 :: nat_lit 114 :: nat_lit 110 :: nat_lit 101 :: nat_lit 100 :: nat_lit 32 :: nat_lit 98 :: nat_lit 121 :: nat_lit 32 :: nat_lit 46 :: nat_lit 103 :: nat_lit 101 :: nat_lit 116 :: nat_lit 95 :: nat_lit 109 :: nat_lit 97 :: nat_lit 116 :: nat_lit 99 :: nat_lit 104 :: nat_lit 105 :: nat_lit 110 :: nat_lit 103 :: nat_lit 95 :: nat_lit 98 :: nat_lit 108 :: nat_lit 111 :: nat_lit 99 :: nat_lit 107 :: nat_lit 115 :: nat_lit 40 :: nat_lit 41 :: nat_lit 32 :: nat_lit 105 :: nat_lit 115 :: nat_lit 32 :: nat_lit 97 :: nat_lit 108 :: nat_lit 119 :: nat_lit 97 :: nat_lit 121 :: nat_lit 115 :: nat_lit 32 :: nat_lit 97 :: nat_lit 10 :: nat_lit 100 :: nat_lit 117 :: dn37
noncomputable def dn35 : List Nat := nat_lit 108 :: nat_lit 101 :: nat_lit 109 :: nat_lit 101 :: nat_lit 110 :: nat_lit 116 :: nat_lit 115 :: nat_lit 10 :: nat_lit 97 :: nat_lit 91 :: nat_lit 50 :: nat_lit 57 :: nat_lit 93 :: nat_lit 32 :: nat_lit 97 :: nat_lit 110 :: nat_lit 100 :: nat_lit 32 :: nat_lit 98 :: nat_lit 91 :: nat_lit 51 :: nat_lit 56 :: nat_lit 93 :: nat_lit 32 :: nat_lit 109 :: nat_lit 97 :: nat_lit 116 :: nat_lit 99 :: nat_lit 104 :: nat_lit 32 :: nat_lit 102 :: nat_lit 111 :: nat_lit 114 :: nat_lit 32 :: nat_lit 48 :: nat_lit 32 :: nat_lit 101 :: nat_lit 108 :: nat_lit 101 :: nat_lit 109 :: nat_lit 101 :: nat_lit 110 :: nat_lit 116 :: nat_lit 115 :: nat_lit 10 :: nat_lit 10 :: nat_lit 78 :: nat_lit 111 :: nat_lit 116 :: nat_lit 101 :: nat_lit 32 :: nat_lit 116 :: nat_lit 104 :: nat_lit 97 :: nat_lit 116 :: nat_lit 32 :: nat_lit 116 :: nat_lit 104 :: nat_lit 101 :: nat_lit 32 :: dn36
noncomputable def dn34 : List Nat := nat_lit 32 :: nat_lit 97 :: nat_lit 110 :: nat_lit 100 :: nat_lit 32 :: nat_lit 98 :: nat_lit 91 :: nat_lit 48 :: nat_lit 93 :: nat_lit 32 :: nat_lit 109 :: nat_lit 97 :: nat_lit 116 :: nat_lit 99 :: nat_lit 104 :: nat_lit 32 :: nat_lit 102 :: nat_lit 111 :: nat_lit 114 :: nat_lit 32 :: nat_lit 56 :: nat_lit 32 :: nat_lit 101 :: nat_lit 108 :: nat_lit 101 :: nat_lit 109 :: nat_lit 101 :: nat_lit 110 :: nat_lit 116 :: nat_lit 115 :: nat_lit 10 :: nat_lit 97 :: nat_lit 91 :: nat_lit 56 :: nat_lit 93 :: nat_lit 32 :: nat_lit 97 :: nat_lit 110 :: nat_lit 100 :: nat_lit 32 :: nat_lit 98 :: nat_lit 91 :: nat_lit 49 :: nat_lit 55 :: nat_lit 93 :: nat_lit 32 :: nat_lit 109 :: nat_lit 97 :: nat_lit 116 :: nat_lit 99 :: nat_lit 104 :: nat_lit 32 :: nat_lit 102 :: nat_lit 111 :: nat_lit 114 :: nat_lit 32 :: nat_lit 50 :: nat_lit 49 :: nat_lit 32 :: nat_lit 101 :: dn35
noncomputable def dn33 : List Nat := nat_lit 32 :: nat_lit 112 :: nat_lit 114 :: nat_lit 105 :: nat_lit 110 :: nat_lit 116 :: nat_lit 40 :: nat_lit 34 :: nat_lit 97 :: nat_lit 91 :: nat_lit 37 :: nat_lit 100 :: nat_lit 93 :: nat_lit 32 :: nat_lit 97 :: nat_lit 110 :: nat_lit 100 :: nat_lit 32 :: nat_lit 98 :: nat_lit 91 :: nat_lit 37 :: nat_lit 100 :: nat_lit 93 :: nat_lit 32 :: nat_lit 109 :: nat_lit 97 :: nat_lit 116 :: nat_lit 99 :: nat_lit 104 :: nat_lit 32 :: nat_lit 102 :: nat_lit 111 :: nat_lit 114 :: nat_lit 32 :: nat_lit 37 :: nat_lit 100 :: nat_lit 32 :: nat_lit 101 :: nat_lit 108 :: nat_lit 101 :: nat_lit 109 :: nat_lit 101 :: nat_lit 110 :: nat_lit 116 :: nat_lit 115 :: nat_lit 34 :: nat_lit 32 :: nat_lit 37 :: nat_lit 32 :: nat_lit 98 :: nat_lit 108 :: nat_lit 111 :: nat_lit 99 :: nat_lit 107 :: nat_lit 41 :: nat_lit 10 :: nat_lit 97 :: nat_lit 91 :: nat_lit 48 :: nat_lit 93 :: dn34
noncomputable def dn32 : List Nat := nat_lit 105 :: nat_lit 115 :: nat_lit 32 :: nat_lit 104 :: nat_lit 97 :: nat_lit 110 :: nat_lit 100 :: nat_lit 121 :: nat_lit 58 :: nat_lit 10 :: nat_lit 10 :: nat_lit 62 :: nat_lit 62 :: nat_lit 62 :: nat_lit 32 :: nat_lit 102 :: nat_lit 111 :: nat_lit 114 :: nat_lit 32 :: nat_lit 98 :: nat_lit 108 :: nat_lit 111 :: nat_lit 99 :: nat_lit 107 :: nat_lit 32 :: nat_lit 105 :: nat_lit 110 :: nat_lit 32 :: nat_lit 115 :: nat_lit 46 :: nat_lit 103 :: nat_lit 101 :: nat_lit 116 :: nat_lit 95 :: nat_lit 109 :: nat_lit 97 :: nat_lit 116 :: nat_lit 99 :: nat_lit 104 :: nat_lit 105 :: nat_lit 110 :: nat_lit 103 :: nat_lit 95 :: nat_lit 98 :: nat_lit 108 :: nat_lit 111 :: nat_lit 99 :: nat_lit 107 :: nat_lit 115 :: nat_lit 40 :: nat_lit 41 :: nat_lit 58 :: nat_lit 10 :: nat_lit 46 :: nat_lit 46 :: nat_lit 46 :: nat_lit 32 :: nat_lit 32 :: nat_lit 32 :: nat_lit 32 :: dn33
noncomputable def dn31 : List Nat := nat_lit 114 :: nat_lit 101 :: nat_lit 115 :: nat_lit 116 :: nat_lit 101 :: nat_lit 100 :: nat_lit 32 :: nat_lit 105 :: nat_lit 110 :: nat_lit 32 :: nat_lit 119 :: nat_lit 104 :: nat_lit 101 :: nat_lit 114 :: nat_lit 101 :: nat_lit 32 :: nat_lit 116 :: nat_lit 104 :: nat_lit 101 :: nat_lit 32 :: nat_lit 115 :: nat_lit 101 :: nat_lit 113 :: nat_lit 117 :: nat_lit 101 :: nat_lit 110 :: nat_lit 99 :: nat_lit 101 :: nat_lit 115 :: nat_lit 32 :: nat_lit 109 :: nat_lit 97 :: nat_lit 116 :: nat_lit 99 :: nat_lit 104 :: nat_lit 44 :: nat_lit 10 :: nat_lit 46 :: nat_lit 103 :: nat_lit 101 :: nat_lit 116 :: nat_lit 95 :: nat_lit 109 :: nat_lit 97 :: nat_lit 116 :: nat_lit 99 :: nat_lit 104 :: nat_lit 105 :: nat_lit 110 :: nat_lit 103 :: nat_lit 95 :: nat_lit 98 :: nat_lit 108 :: nat_lit 111 :: nat_lit 99 :: nat_lit 107 :: nat_lit 115 :: nat_lit 40 :: nat_lit 41 :: nat_lit 32 :: dn32
noncomputable def dn30 : List Nat := nat_lit 62 :: nat_lit 62 :: nat_lit 62 :: nat_lit 32 :: nat_lit 112 :: nat_lit 114 :: nat_lit 105 :: nat_lit 110 :: nat_lit 116 :: nat_lit 40 :: nat_lit 114 :: nat_lit 111 :: nat_lit 117 :: nat_lit 110 :: nat_lit 100 :: nat_lit 40 :: nat_lit 115 :: nat_lit 46 :: nat_lit 114 :: nat_lit 97 :: nat_lit 116 :: nat_lit 105 :: nat_lit 111 :: nat_lit 40 :: nat_lit 41 :: nat_lit 44 :: nat_lit 32 :: nat_lit 50 :: nat_lit 41 :: nat_lit 41 :: nat_lit 10 :: nat_lit 48 :: nat_lit 46 :: nat_lit 56 :: nat_lit 55 :: nat_lit 10 :: nat_lit 62 :: nat_lit 62 :: nat_lit 62 :: nat_lit 10 :: nat_lit 10 :: nat_lit 73 :: nat_lit 102 :: nat_lit 32 :: nat_lit 121 :: nat_lit 111 :: nat_lit 117 :: nat_lit 39 :: nat_lit 114 :: nat_lit 101 :: nat_lit 32 :: nat_lit 111 :: nat_lit 110 :: nat_lit 108 :: nat_lit 121 :: nat_lit 32 :: nat_lit 105 :: nat_lit 110 :: nat_lit 116 :: nat_lit 101 :: dn31
noncomputable def dn29 : List Nat := nat_lit 105 :: nat_lit 111 :: nat_lit 40 :: nat_lit 41 :: nat_lit 32 :: nat_lit 118 :: nat_lit 97 :: nat_lit 108 :: nat_lit 117 :: nat_lit 101 :: nat_lit 32 :: nat_lit 111 :: nat_lit 118 :: nat_lit 101 :: nat_lit 114 :: nat_lit 32 :: nat_lit 48 :: nat_lit 46 :: nat_lit 54 :: nat_lit 32 :: nat_lit 109 :: nat_lit 101 :: nat_lit 97 :: nat_lit 110 :: nat_lit 115 :: nat_lit 32 :: nat_lit 116 :: nat_lit 104 :: nat_lit 101 :: nat_lit 10 :: nat_lit 115 :: nat_lit 101 :: nat_lit 113 :: nat_lit 117 :: nat_lit 101 :: nat_lit 110 :: nat_lit 99 :: nat_lit 101 :: nat_lit 115 :: nat_lit 32 :: nat_lit 97 :: nat_lit 114 :: nat_lit 101 :: nat_lit 32 :: nat_lit 99 :: nat_lit 108 :: nat_lit 111 :: nat_lit 115 :: nat_lit 101 :: nat_lit 32 :: nat_lit 109 :: nat_lit 97 :: nat_lit 116 :: nat_lit 99 :: nat_lit 104 :: nat_lit 101 :: nat_lit 115 :: nat_lit 58 :: nat_lit 10 :: nat_lit 10 :: dn30
noncomputable def dn28 : List Nat := nat_lit 101 :: nat_lit 32 :: nat_lit 34 :: nat_lit 115 :: nat_lit 105 :: nat_lit 109 :: nat_lit 105 :: nat_lit 108 :: nat_lit 97 :: nat_lit 114 :: nat_lit 105 :: nat_lit 116 :: nat_lit 121 :: nat_lit 34 :: nat_lit 32 :: nat_lit 111 :: nat_lit 102 :: nat_lit 32 :: nat_lit 116 :: nat_lit 104 :: nat_lit 101 :: nat_lit 10 :: nat_lit 115 :: nat_lit 101 :: nat_lit 113 :: nat_lit 117 :: nat_lit 101 :: nat_lit 110 :: nat_lit 99 :: nat_lit 101 :: nat_lit 115 :: nat_lit 46 :: nat_lit 32 :: nat_lit 32 :: nat_lit 65 :: nat_lit 115 :: nat_lit 32 :: nat_lit 97 :: nat_lit 32 :: nat_lit 114 :: nat_lit 117 :: nat_lit 108 :: nat_lit 101 :: nat_lit 32 :: nat_lit 111 :: nat_lit 102 :: nat_lit 32 :: nat_lit 116 :: nat_lit 104 :: nat_lit 117 :: nat_lit 109 :: nat_lit 98 :: nat_lit 44 :: nat_lit 32 :: nat_lit 97 :: nat_lit 32 :: nat_lit 46 :: nat_lit 114 :: nat_lit 97 :: nat_lit 116 :: dn29
noncomputable def dn27 : List Nat := nat_lit 101 :: nat_lit 97 :: nat_lit 100 :: nat_lit 59 :: nat_lit 34 :: nat_lit 41 :: nat_lit 10 :: nat_lit 62 :: nat_lit 62 :: nat_lit 62 :: nat_lit 10 :: nat_lit 10 :: nat_lit 46 :: nat_lit 114 :: nat_lit 97 :: nat_lit 116 :: nat_lit 105 :: nat_lit 111 :: nat_lit 40 :: nat_lit 41 :: nat_lit 32 :: nat_lit 114 :: nat_lit 101 :: nat_lit 116 :: nat_lit 117 :: nat_lit 114 :: nat_lit 110 :: nat_lit 115 :: nat_lit 32 :: nat_lit 97 :: nat_lit 32 :: nat_lit 102 :: nat_lit 108 :: nat_lit 111 :: nat_lit 97 :: nat_lit 116 :: nat_lit 32 :: nat_lit 105 :: nat_lit 110 :: nat_lit 32 :: nat_lit 91 :: nat_lit 48 :: nat_lit 44 :: nat_lit 32 :: nat_lit 49 :: nat_lit 93 :: nat_lit 44 :: nat_lit 32 :: nat_lit 109 :: nat_lit 101 :: nat_lit 97 :: nat_lit 115 :: nat_lit 117 :: nat_lit 114 :: nat_lit 105 :: nat_lit 110 :: nat_lit 103 :: nat_lit 32 :: nat_lit 116 :: nat_lit 104 :: dn28
noncomputable def dn26 : List Nat := nat_lit 10 :: nat_lit 46 :: nat_lit 46 :: nat_lit 46 :: nat_lit 32 :: nat_lit 32 :: nat_lit 32 :: nat_lit 32 :: nat_lit 32 :: nat_lit 32 :: nat_lit 32 :: nat_lit 32 :: nat_lit 32 :: nat_lit 32 :: nat_lit 32 :: nat_lit 32 :: nat_lit 32 :: nat_lit 32 :: nat_lit 32 :: nat_lit 32 :: nat_lit 32 :: nat_lit 32 :: nat_lit 32 :: nat_lit 32 :: nat_lit 32 :: nat_lit 34 :: nat_lit 112 :: nat_lit 114 :: nat_lit 105 :: nat_lit 118 :: nat_lit 97 :: nat_lit 116 :: nat_lit 101 :: nat_lit 32 :: nat_lit 118 :: nat_lit 111 :: nat_lit 108 :: nat_lit 97 :: nat_lit 116 :: nat_lit 105 :: nat_lit 108 :: nat_lit 101 :: nat_lit 32 :: nat_lit 84 :: nat_lit 104 :: nat_lit 114 :: nat_lit 101 :: nat_lit 97 :: nat_lit 100 :: nat_lit 32 :: nat_lit 99 :: nat_lit 117 :: nat_lit 114 :: nat_lit 114 :: nat_lit 101 :: nat_lit 110 :: nat_lit 116 :: nat_lit 84 :: nat_lit 104 :: nat_lit 114 :: dn27
noncomputable def dn25 : List Nat := nat_lit 32 :: nat_lit 34 :: nat_lit 44 :: nat_lit 10 :: nat_lit 46 :: nat_lit 46 :: nat_lit 46 :: nat_lit 32 :: nat_lit 32 :: nat_lit 32 :: nat_lit 32 :: nat_lit 32 :: nat_lit 32 :: nat_lit 32 :: nat_lit 32 :: nat_lit 32 :: nat_lit 32 :: nat_lit 32 :: nat_lit 32 :: nat_lit 32 :: nat_lit 32 :: nat_lit 32 :: nat_lit 32 :: nat_lit 32 :: nat_lit 32 :: nat_lit 32 :: nat_lit 32 :: nat_lit 32 :: nat_lit 34 :: nat_lit 112 :: nat_lit 114 :: nat_lit 105 :: nat_lit 118 :: nat_lit 97 :: nat_lit 116 :: nat_lit 101 :: nat_lit 32 :: nat_lit 84 :: nat_lit 104 :: nat_lit 114 :: nat_lit 101 :: nat_lit 97 :: nat_lit 100 :: nat_lit 32 :: nat_lit 99 :: nat_lit 117 :: nat_lit 114 :: nat_lit 114 :: nat_lit 101 :: nat_lit 110 :: nat_lit 116 :: nat_lit 84 :: nat_lit 104 :: nat_lit 114 :: nat_lit 101 :: nat_lit 97 :: nat_lit 100 :: nat_lit 59 :: nat_lit 34 :: nat_lit 44 :: dn26
noncomputable def dn24 : List Nat := nat_lit 97 :: nat_lit 110 :: nat_lit 107 :: nat_lit 115 :: nat_lit 32 :: nat_lit 116 :: nat_lit 111 :: nat_lit 32 :: nat_lit 98 :: nat_lit 101 :: nat_lit 32 :: nat_lit 34 :: nat_lit 106 :: nat_lit 117 :: nat_lit 110 :: nat_lit 107 :: nat_lit 34 :: nat_lit 58 :: nat_lit 10 :: nat_lit 10 :: nat_lit 62 :: nat_lit 62 :: nat_lit 62 :: nat_lit 32 :: nat_lit 115 :: nat_lit 32 :: nat_lit 61 :: nat_lit 32 :: nat_lit 83 :: nat_lit 101 :: nat_lit 113 :: nat_lit 117 :: nat_lit 101 :: nat_lit 110 :: nat_lit 99 :: nat_lit 101 :: nat_lit 77 :: nat_lit 97 :: nat_lit 116 :: nat_lit 99 :: nat_lit 104 :: nat_lit 101 :: nat_lit 114 :: nat_lit 40 :: nat_lit 108 :: nat_lit 97 :: nat_lit 109 :: nat_lit 98 :: nat_lit 100 :: nat_lit 97 :: nat_lit 32 :: nat_lit 120 :: nat_lit 58 :: nat_lit 32 :: nat_lit 120 :: nat_lit 32 :: nat_lit 61 :: nat_lit 61 :: nat_lit 32 :: nat_lit 34 :: dn25
noncomputable def dn23 : List Nat := nat_lit 32 :: nat_lit 60 :: nat_lit 119 :: nat_lit 105 :: nat_lit 110 :: nat_lit 107 :: nat_lit 62 :: nat_lit 46 :: nat_lit 10 :: nat_lit 10 :: nat_lit 69 :: nat_lit 120 :: nat_lit 97 :: nat_lit 109 :: nat_lit 112 :: nat_lit 108 :: nat_lit 101 :: nat_lit 44 :: nat_lit 32 :: nat_lit 99 :: nat_lit 111 :: nat_lit 109 :: nat_lit 112 :: nat_lit 97 :: nat_lit 114 :: nat_lit 105 :: nat_lit 110 :: nat_lit 103 :: nat_lit 32 :: nat_lit 116 :: nat_lit 119 :: nat_lit 111 :: nat_lit 32 :: nat_lit 115 :: nat_lit 116 :: nat_lit 114 :: nat_lit 105 :: nat_lit 110 :: nat_lit 103 :: nat_lit 115 :: nat_lit 44 :: nat_lit 32 :: nat_lit 97 :: nat_lit 110 :: nat_lit 100 :: nat_lit 32 :: nat_lit 99 :: nat_lit 111 :: nat_lit 110 :: nat_lit 115 :: nat_lit 105 :: nat_lit 100 :: nat_lit 101 :: nat_lit 114 :: nat_lit 105 :: nat_lit 110 :: nat_lit 103 :: nat_lit 32 :: nat_lit 98 :: nat_lit 108 :: dn24
noncomputable def dn22 : List Nat := nat_lit 115 :: nat_lit 32 :: nat_lit 105 :: nat_lit 115 :: nat_lit 32 :: nat_lit 116 :: nat_lit 104 :: nat_lit 101 :: nat_lit 32 :: nat_lit 111 :: nat_lit 110 :: nat_lit 108 :: nat_lit 121 :: nat_lit 32 :: nat_lit 109 :: nat_lit 101 :: nat_lit 116 :: nat_lit 104 :: nat_lit 111 :: nat_lit 100 :: nat_lit 32 :: nat_lit 111 :: nat_lit 102 :: nat_lit 32 :: nat_lit 116 :: nat_lit 104 :: nat_lit 101 :: nat_lit 32 :: nat_lit 51 :: nat_lit 32 :: nat_lit 116 :: nat_lit 104 :: nat_lit 97 :: nat_lit 116 :: nat_lit 32 :: nat_lit 104 :: nat_lit 97 :: nat_lit 115 :: nat_lit 32 :: nat_lit 97 :: nat_lit 32 :: nat_lit 42 :: nat_lit 99 :: nat_lit 111 :: nat_lit 110 :: nat_lit 99 :: nat_lit 101 :: nat_lit 112 :: nat_lit 116 :: nat_lit 42 :: nat_lit 32 :: nat_lit 111 :: nat_lit 102 :: nat_lit 10 :: nat_lit 34 :: nat_lit 106 :: nat_lit 117 :: nat_lit 110 :: nat_lit 107 :: nat_lit 34 :: dn23
noncomputable def dn21 : List Nat := nat_lit 114 :: nat_lit 32 :: nat_lit 109 :: nat_lit 97 :: nat_lit 121 :: nat_lit 98 :: nat_lit 101 :: nat_lit 32 :: nat_lit 34 :: nat_lit 60 :: nat_lit 80 :: nat_lit 62 :: nat_lit 34 :: nat_lit 32 :: nat_lit 108 :: nat_lit 105 :: nat_lit 110 :: nat_lit 101 :: nat_lit 115 :: nat_lit 32 :: nat_lit 105 :: nat_lit 110 :: nat_lit 32 :: nat_lit 72 :: nat_lit 84 :: nat_lit 77 :: nat_lit 76 :: nat_lit 32 :: nat_lit 102 :: nat_lit 105 :: nat_lit 108 :: nat_lit 101 :: nat_lit 115 :: nat_lit 41 :: nat_lit 46 :: nat_lit 32 :: nat_lit 32 :: nat_lit 84 :: nat_lit 104 :: nat_lit 97 :: nat_lit 116 :: nat_lit 32 :: nat_lit 109 :: nat_lit 97 :: nat_lit 121 :: nat_lit 32 :: nat_lit 98 :: nat_lit 101 :: nat_lit 10 :: nat_lit 98 :: nat_lit 101 :: nat_lit 99 :: nat_lit 97 :: nat_lit 117 :: nat_lit 115 :: nat_lit 101 :: nat_lit 32 :: nat_lit 116 :: nat_lit 104 :: nat_lit 105 :: dn22
noncomputable def dn20 : List Nat := nat_lit 107 :: nat_lit 32 :: nat_lit 108 :: nat_lit 105 :: nat_lit 110 :: nat_lit 101 :: nat_lit 115 :: nat_lit 34 :: nat_lit 44 :: nat_lit 32 :: nat_lit 116 :: nat_lit 104 :: nat_lit 111 :: nat_lit 117 :: nat_lit 103 :: nat_lit 104 :: nat_lit 32 :: nat_lit 40 :: nat_lit 108 :: nat_lit 105 :: nat_lit 107 :: nat_lit 101 :: nat_lit 32 :: nat_lit 98 :: nat_lit 108 :: nat_lit 97 :: nat_lit 110 :: nat_lit 107 :: nat_lit 32 :: nat_lit 108 :: nat_lit 105 :: nat_lit 110 :: nat_lit 101 :: nat_lit 115 :: nat_lit 32 :: nat_lit 105 :: nat_lit 110 :: nat_lit 10 :: nat_lit 111 :: nat_lit 114 :: nat_lit 100 :: nat_lit 105 :: nat_lit 110 :: nat_lit 97 :: nat_lit 114 :: nat_lit 121 :: nat_lit 32 :: nat_lit 116 :: nat_lit 101 :: nat_lit 120 :: nat_lit 116 :: nat_lit 32 :: nat_lit 102 :: nat_lit 105 :: nat_lit 108 :: nat_lit 101 :: nat_lit 115 :: nat_lit 44 :: nat_lit 32 :: nat_lit 111 :: dn21
noncomputable def dn19 : List Nat := nat_lit 115 :: nat_lit 32 :: nat_lit 116 :: nat_lit 111 :: nat_lit 32 :: nat_lit 98 :: nat_lit 101 :: nat_lit 32 :: nat_lit 116 :: nat_lit 104 :: nat_lit 101 :: nat_lit 32 :: nat_lit 108 :: nat_lit 101 :: nat_lit 97 :: nat_lit 115 :: nat_lit 116 :: nat_lit 32 :: nat_lit 118 :: nat_lit 117 :: nat_lit 108 :: nat_lit 110 :: nat_lit 101 :: nat_lit 114 :: nat_lit 97 :: nat_lit 98 :: nat_lit 108 :: nat_lit 101 :: nat_lit 10 :: nat_lit 116 :: nat_lit 111 :: nat_lit 32 :: nat_lit 115 :: nat_lit 121 :: nat_lit 110 :: nat_lit 99 :: nat_lit 105 :: nat_lit 110 :: nat_lit 103 :: nat_lit 32 :: nat_lit 117 :: nat_lit 112 :: nat_lit 32 :: nat_lit 111 :: nat_lit 110 :: nat_lit 32 :: nat_lit 98 :: nat_lit 108 :: nat_lit 111 :: nat_lit 99 :: nat_lit 107 :: nat_lit 115 :: nat_lit 32 :: nat_lit 111 :: nat_lit 102 :: nat_lit 32 :: nat_lit 34 :: nat_lit 106 :: nat_lit 117 :: nat_lit 110 :: dn20
noncomputable def dn18 : List Nat := nat_lit 105 :: nat_lit 116 :: nat_lit 105 :: nat_lit 118 :: nat_lit 101 :: nat_lit 32 :: nat_lit 100 :: nat_lit 105 :: nat_lit 102 :: nat_lit 102 :: nat_lit 101 :: nat_lit 114 :: nat_lit 101 :: nat_lit 110 :: nat_lit 99 :: nat_lit 101 :: nat_lit 10 :: nat_lit 114 :: nat_lit 101 :: nat_lit 112 :: nat_lit 111 :: nat_lit 114 :: nat_lit 116 :: nat_lit 115 :: nat_lit 32 :: nat_lit 116 :: nat_lit 104 :: nat_lit 97 :: nat_lit 110 :: nat_lit 32 :: nat_lit 100 :: nat_lit 111 :: nat_lit 101 :: nat_lit 115 :: nat_lit 32 :: nat_lit 100 :: nat_lit 105 :: nat_lit 102 :: nat_lit 102 :: nat_lit 46 :: nat_lit 32 :: nat_lit 32 :: nat_lit 84 :: nat_lit 104 :: nat_lit 105 :: nat_lit 115 :: nat_lit 32 :: nat_lit 109 :: nat_lit 101 :: nat_lit 116 :: nat_lit 104 :: nat_lit 111 :: nat_lit 100 :: nat_lit 32 :: nat_lit 97 :: nat_lit 112 :: nat_lit 112 :: nat_lit 101 :: nat_lit 97 :: nat_lit 114 :: dn19
noncomputable def dn17 : List Nat := nat_lit 113 :: nat_lit 117 :: nat_lit 101 :: nat_lit 110 :: nat_lit 99 :: nat_lit 101 :: nat_lit 46 :: nat_lit 10 :: nat_lit 84 :: nat_lit 104 :: nat_lit 97 :: nat_lit 116 :: nat_lit 44 :: nat_lit 32 :: nat_lit 97 :: nat_lit 110 :: nat_lit 100 :: nat_lit 32 :: nat_lit 116 :: nat_lit 104 :: nat_lit 101 :: nat_lit 32 :: nat_lit 109 :: nat_lit 101 :: nat_lit 116 :: nat_lit 104 :: nat_lit 111 :: nat_lit 100 :: nat_lit 32 :: nat_lit 104 :: nat_lit 101 :: nat_lit 114 :: nat_lit 101 :: nat_lit 44 :: nat_lit 32 :: nat_lit 97 :: nat_lit 112 :: nat_lit 112 :: nat_lit 101 :: nat_lit 97 :: nat_lit 114 :: nat_lit 32 :: nat_lit 116 :: nat_lit 111 :: nat_lit 32 :: nat_lit 121 :: nat_lit 105 :: nat_lit 101 :: nat_lit 108 :: nat_lit 100 :: nat_lit 32 :: nat_lit 109 :: nat_lit 111 :: nat_lit 114 :: nat_lit 101 :: nat_lit 32 :: nat_lit 105 :: nat_lit 110 :: nat_lit 116 :: nat_lit 117 :: dn18
noncomputable def dn16 : List Nat := nat_lit 10 :: nat_lit 110 :: nat_lit 111 :: nat_lit 116 :: nat_lit 105 :: nat_lit 111 :: nat_lit 110 :: nat_lit 44 :: nat_lit 32 :: nat_lit 112 :: nat_lit 97 :: nat_lit 105 :: nat_lit 114 :: nat_lit 105 :: nat_lit 110 :: nat_lit 103 :: nat_lit 32 :: nat_lit 117 :: nat_lit 112 :: nat_lit 32 :: nat_lit 101 :: nat_lit 108 :: nat_lit 101 :: nat_lit 109 :: nat_lit 101 :: nat_lit 110 :: nat_lit 116 :: nat_lit 115 :: nat_lit 32 :: nat_lit 116 :: nat_lit 104 :: nat_lit 97 :: nat_lit 116 :: nat_lit 32 :: nat_lit 97 :: nat_lit 112 :: nat_lit 112 :: nat_lit 101 :: nat_lit 97 :: nat_lit 114 :: nat_lit 32 :: nat_lit 117 :: nat_lit 110 :: nat_lit 105 :: nat_lit 113 :: nat_lit 117 :: nat_lit 101 :: nat_lit 108 :: nat_lit 121 :: nat_lit 32 :: nat_lit 105 :: nat_lit 110 :: nat_lit 32 :: nat_lit 101 :: nat_lit 97 :: nat_lit 99 :: nat_lit 104 :: nat_lit 32 :: nat_lit 115 :: nat_lit 101 :: dn17
noncomputable def dn15 : List Nat := nat_lit 112 :: nat_lit 108 :: nat_lit 101 :: nat_lit 115 :: nat_lit 39 :: nat_lit 32 :: nat_lit 101 :: nat_lit 121 :: nat_lit 101 :: nat_lit 115 :: nat_lit 46 :: nat_lit 32 :: nat_lit 32 :: nat_lit 84 :: nat_lit 104 :: nat_lit 101 :: nat_lit 32 :: nat_lit 87 :: nat_lit 105 :: nat_lit 110 :: nat_lit 100 :: nat_lit 111 :: nat_lit 119 :: nat_lit 115 :: nat_lit 40 :: nat_lit 116 :: nat_lit 109 :: nat_lit 41 :: nat_lit 32 :: nat_lit 119 :: nat_lit 105 :: nat_lit 110 :: nat_lit 100 :: nat_lit 105 :: nat_lit 102 :: nat_lit 102 :: nat_lit 32 :: nat_lit 104 :: nat_lit 97 :: nat_lit 115 :: nat_lit 32 :: nat_lit 97 :: nat_lit 110 :: nat_lit 111 :: nat_lit 116 :: nat_lit 104 :: nat_lit 101 :: nat_lit 114 :: nat_lit 32 :: nat_lit 105 :: nat_lit 110 :: nat_lit 116 :: nat_lit 101 :: nat_lit 114 :: nat_lit 101 :: nat_lit 115 :: nat_lit 116 :: nat_lit 105 :: nat_lit 110 :: nat_lit 103 :: dn16
noncomputable def dn14 : List Nat := nat_lit 42 :: nat_lit 32 :: nat_lit 38 :: nat_lit 32 :: nat_lit 106 :: nat_lit 117 :: nat_lit 110 :: nat_lit 107 :: nat_lit 45 :: nat_lit 102 :: nat_lit 114 :: nat_lit 101 :: nat_lit 101 :: nat_lit 32 :: nat_lit 109 :: nat_lit 97 :: nat_lit 116 :: nat_lit 99 :: nat_lit 104 :: nat_lit 105 :: nat_lit 110 :: nat_lit 103 :: nat_lit 32 :: nat_lit 115 :: nat_lit 117 :: nat_lit 98 :: nat_lit 115 :: nat_lit 101 :: nat_lit 113 :: nat_lit 117 :: nat_lit 101 :: nat_lit 110 :: nat_lit 99 :: nat_lit 101 :: nat_lit 46 :: nat_lit 32 :: nat_lit 32 :: nat_lit 84 :: nat_lit 104 :: nat_lit 97 :: nat_lit 116 :: nat_lit 39 :: nat_lit 115 :: nat_lit 32 :: nat_lit 119 :: nat_lit 104 :: nat_lit 97 :: nat_lit 116 :: nat_lit 10 :: nat_lit 99 :: nat_lit 97 :: nat_lit 116 :: nat_lit 99 :: nat_lit 104 :: nat_lit 101 :: nat_lit 115 :: nat_lit 32 :: nat_lit 112 :: nat_lit 101 :: nat_lit 111 :: dn15
noncomputable def dn13 : List Nat := nat_lit 40 :: nat_lit 116 :: nat_lit 109 :: nat_lit 41 :: nat_lit 32 :: nat_lit 100 :: nat_lit 105 :: nat_lit 102 :: nat_lit 102 :: nat_lit 44 :: nat_lit 32 :: nat_lit 116 :: nat_lit 104 :: nat_lit 101 :: nat_lit 32 :: nat_lit 102 :: nat_lit 117 :: nat_lit 110 :: nat_lit 100 :: nat_lit 97 :: nat_lit 109 :: nat_lit 101 :: nat_lit 110 :: nat_lit 116 :: nat_lit 97 :: nat_lit 108 :: nat_lit 32 :: nat_lit 110 :: nat_lit 111 :: nat_lit 116 :: nat_lit 105 :: nat_lit 111 :: nat_lit 110 :: nat_lit 32 :: nat_lit 105 :: nat_lit 115 :: nat_lit 32 :: nat_lit 116 :: nat_lit 104 :: nat_lit 101 :: nat_lit 10 :: nat_lit 108 :: nat_lit 111 :: nat_lit 110 :: nat_lit 103 :: nat_lit 101 :: nat_lit 115 :: nat_lit 116 :: nat_lit 32 :: nat_lit 42 :: nat_lit 99 :: nat_lit 111 :: nat_lit 110 :: nat_lit 116 :: nat_lit 105 :: nat_lit 103 :: nat_lit 117 :: nat_lit 111 :: nat_lit 117 :: nat_lit 115 :: dn14
noncomputable def dn12 : List Nat := nat_lit 117 :: nat_lit 109 :: nat_lit 97 :: nat_lit 110 :: nat_lit 45 :: nat_lit 102 :: nat_lit 114 :: nat_lit 105 :: nat_lit 101 :: nat_lit 110 :: nat_lit 100 :: nat_lit 108 :: nat_lit 121 :: nat_lit 32 :: nat_lit 100 :: nat_lit 105 :: nat_lit 102 :: nat_lit 102 :: nat_lit 34 :: nat_lit 32 :: nat_lit 98 :: nat_lit 101 :: nat_lit 116 :: nat_lit 119 :: nat_lit 101 :: nat_lit 101 :: nat_lit 110 :: nat_lit 32 :: nat_lit 116 :: nat_lit 119 :: nat_lit 111 :: nat_lit 10 :: nat_lit 115 :: nat_lit 101 :: nat_lit 113 :: nat_lit 117 :: nat_lit 101 :: nat_lit 110 :: nat_lit 99 :: nat_lit 101 :: nat_lit 115 :: nat_lit 46 :: nat_lit 32 :: nat_lit 32 :: nat_lit 85 :: nat_lit 110 :: nat_lit 108 :: nat_lit 105 :: nat_lit 107 :: nat_lit 101 :: nat_lit 32 :: nat_lit 101 :: nat_lit 46 :: nat_lit 103 :: nat_lit 46 :: nat_lit 32 :: nat_lit 85 :: nat_lit 78 :: nat_lit 73 :: nat_lit 88 :: dn13
noncomputable def dn11 : List Nat := nat_lit 111 :: nat_lit 111 :: nat_lit 107 :: nat_lit 32 :: nat_lit 114 :: nat_lit 105 :: nat_lit 103 :: nat_lit 104 :: nat_lit 116 :: nat_lit 34 :: nat_lit 32 :: nat_lit 116 :: nat_lit 111 :: nat_lit 32 :: nat_lit 112 :: nat_lit 101 :: nat_lit 111 :: nat_lit 112 :: nat_lit 108 :: nat_lit 101 :: nat_lit 46 :: nat_lit 10 :: nat_lit 10 :: nat_lit 83 :: nat_lit 101 :: nat_lit 113 :: nat_lit 117 :: nat_lit 101 :: nat_lit 110 :: nat_lit 99 :: nat_lit 101 :: nat_lit 77 :: nat_lit 97 :: nat_lit 116 :: nat_lit 99 :: nat_lit 104 :: nat_lit 101 :: nat_lit 114 :: nat_lit 32 :: nat_lit 116 :: nat_lit 114 :: nat_lit 105 :: nat_lit 101 :: nat_lit 115 :: nat_lit 32 :: nat_lit 116 :: nat_lit 111 :: nat_lit 32 :: nat_lit 99 :: nat_lit 111 :: nat_lit 109 :: nat_lit 112 :: nat_lit 117 :: nat_lit 116 :: nat_lit 101 :: nat_lit 32 :: nat_lit 97 :: nat_lit 32 :: nat_lit 34 :: nat_lit 104 :: dn12
noncomputable def dn10 : List Nat := nat_lit 110 :: nat_lit 105 :: nat_lit 109 :: nat_lit 97 :: nat_lit 108 :: nat_lit 32 :: nat_lit 101 :: nat_lit 100 :: nat_lit 105 :: nat_lit 116 :: nat_lit 10 :: nat_lit 115 :: nat_lit 101 :: nat_lit 113 :: nat_lit 117 :: nat_lit 101 :: nat_lit 110 :: nat_lit 99 :: nat_lit 101 :: nat_lit 115 :: nat_lit 44 :: nat_lit 32 :: nat_lit 98 :: nat_lit 117 :: nat_lit 116 :: nat_lit 32 :: nat_lit 100 :: nat_lit 111 :: nat_lit 101 :: nat_lit 115 :: nat_lit 32 :: nat_lit 116 :: nat_lit 101 :: nat_lit 110 :: nat_lit 100 :: nat_lit 32 :: nat_lit 116 :: nat_lit 111 :: nat_lit 32 :: nat_lit 121 :: nat_lit 105 :: nat_lit 101 :: nat_lit 108 :: nat_lit 100 :: nat_lit 32 :: nat_lit 109 :: nat_lit 97 :: nat_lit 116 :: nat_lit 99 :: nat_lit 104 :: nat_lit 101 :: nat_lit 115 :: nat_lit 32 :: nat_lit 116 :: nat_lit 104 :: nat_lit 97 :: nat_lit 116 :: nat_lit 32 :: nat_lit 34 :: nat_lit 108 :: dn11
noncomputable def dn9 : List Nat := nat_lit 101 :: nat_lit 32 :: nat_lit 114 :: nat_lit 105 :: nat_lit 103 :: nat_lit 104 :: nat_lit 116 :: nat_lit 10 :: nat_lit 111 :: nat_lit 102 :: nat_lit 32 :: nat_lit 116 :: nat_lit 104 :: nat_lit 101 :: nat_lit 32 :: nat_lit 109 :: nat_lit 97 :: nat_lit 116 :: nat_lit 99 :: nat_lit 104 :: nat_lit 105 :: nat_lit 110 :: nat_lit 103 :: nat_lit 32 :: nat_lit 115 :: nat_lit 117 :: nat_lit 98 :: nat_lit 115 :: nat_lit 101 :: nat_lit 113 :: nat_lit 117 :: nat_lit 101 :: nat_lit 110 :: nat_lit 99 :: nat_lit 101 :: nat_lit 46 :: nat_lit 32 :: nat_lit 32 :: nat_lit 84 :: nat_lit 104 :: nat_lit 105 :: nat_lit 115 :: nat_lit 32 :: nat_lit 100 :: nat_lit 111 :: nat_lit 101 :: nat_lit 115 :: nat_lit 32 :: nat_lit 110 :: nat_lit 111 :: nat_lit 116 :: nat_lit 32 :: nat_lit 121 :: nat_lit 105 :: nat_lit 101 :: nat_lit 108 :: nat_lit 100 :: nat_lit 32 :: nat_lit 109 :: nat_lit 105 :: dn10
noncomputable def dn8 : List Nat := nat_lit 114 :: nat_lit 115 :: nat_lit 105 :: nat_lit 118 :: nat_lit 101 :: nat_lit 108 :: nat_lit 121 :: nat_lit 32 :: nat_lit 116 :: nat_lit 111 :: nat_lit 32 :: nat_lit 116 :: nat_lit 104 :: nat_lit 101 :: nat_lit 32 :: nat_lit 112 :: nat_lit 105 :: nat_lit 101 :: nat_lit 99 :: nat_lit 101 :: nat_lit 115 :: nat_lit 32 :: nat_lit 111 :: nat_lit 102 :: nat_lit 32 :: nat_lit 116 :: nat_lit 104 :: nat_lit 101 :: nat_lit 32 :: nat_lit 115 :: nat_lit 101 :: nat_lit 113 :: nat_lit 117 :: nat_lit 101 :: nat_lit 110 :: nat_lit 99 :: nat_lit 101 :: nat_lit 115 :: nat_lit 32 :: nat_lit 116 :: nat_lit 111 :: nat_lit 32 :: nat_lit 116 :: nat_lit 104 :: nat_lit 101 :: nat_lit 32 :: nat_lit 108 :: nat_lit 101 :: nat_lit 102 :: nat_lit 116 :: nat_lit 32 :: nat_lit 97 :: nat_lit 110 :: nat_lit 100 :: nat_lit 32 :: nat_lit 116 :: nat_lit 111 :: nat_lit 32 :: nat_lit 116 :: nat_lit 104 :: dn9
noncomputable def dn7 : List Nat := nat_lit 79 :: nat_lit 32 :: nat_lit 100 :: nat_lit 111 :: nat_lit 101 :: nat_lit 115 :: nat_lit 110 :: nat_lit 39 :: nat_lit 116 :: nat_lit 32 :: nat_lit 97 :: nat_lit 100 :: nat_lit 100 :: nat_lit 114 :: nat_lit 101 :: nat_lit 115 :: nat_lit 115 :: nat_lit 32 :: nat_lit 106 :: nat_lit 117 :: nat_lit 110 :: nat_lit 107 :: nat_lit 41 :: nat_lit 46 :: nat_lit 32 :: nat_lit 32 :: nat_lit 84 :: nat_lit 104 :: nat_lit 101 :: nat_lit 32 :: nat_lit 115 :: nat_lit 97 :: nat_lit 109 :: nat_lit 101 :: nat_lit 32 :: nat_lit 105 :: nat_lit 100 :: nat_lit 101 :: nat_lit 97 :: nat_lit 32 :: nat_lit 105 :: nat_lit 115 :: nat_lit 32 :: nat_lit 116 :: nat_lit 104 :: nat_lit 101 :: nat_lit 110 :: nat_lit 32 :: nat_lit 97 :: nat_lit 112 :: nat_lit 112 :: nat_lit 108 :: nat_lit 105 :: nat_lit 101 :: nat_lit 100 :: nat_lit 10 :: nat_lit 114 :: nat_lit 101 :: nat_lit 99 :: nat_lit 117 :: dn8
noncomputable def dn6 : List Nat := nat_lit 117 :: nat_lit 115 :: nat_lit 32 :: nat_lit 109 :: nat_lit 97 :: nat_lit 116 :: nat_lit 99 :: nat_lit 104 :: nat_lit 105 :: nat_lit 110 :: nat_lit 103 :: nat_lit 32 :: nat_lit 115 :: nat_lit 117 :: nat_lit 98 :: nat_lit 115 :: nat_lit 101 :: nat_lit 113 :: nat_lit 117 :: nat_lit 101 :: nat_lit 110 :: nat_lit 99 :: nat_lit 101 :: nat_lit 32 :: nat_lit 116 :: nat_lit 104 :: nat_lit 97 :: nat_lit 116 :: nat_lit 32 :: nat_lit 99 :: nat_lit 111 :: nat_lit 110 :: nat_lit 116 :: nat_lit 97 :: nat_lit 105 :: nat_lit 110 :: nat_lit 115 :: nat_lit 32 :: nat_lit 110 :: nat_lit 111 :: nat_lit 32 :: nat_lit 34 :: nat_lit 106 :: nat_lit 117 :: nat_lit 110 :: nat_lit 107 :: nat_lit 34 :: nat_lit 10 :: nat_lit 101 :: nat_lit 108 :: nat_lit 101 :: nat_lit 109 :: nat_lit 101 :: nat_lit 110 :: nat_lit 116 :: nat_lit 115 :: nat_lit 32 :: nat_lit 40 :: nat_lit 82 :: nat_lit 45 :: dn7
noncomputable def dn5 : List Nat := nat_lit 110 :: nat_lit 32 :: nat_lit 109 :: nat_lit 97 :: nat_lit 116 :: nat_lit 99 :: nat_lit 104 :: nat_lit 105 :: nat_lit 110 :: nat_lit 103 :: nat_lit 34 :: nat_lit 46 :: nat_lit 32 :: nat_lit 32 :: nat_lit 84 :: nat_lit 104 :: nat_lit 101 :: nat_lit 32 :: nat_lit 98 :: nat_lit 97 :: nat_lit 115 :: nat_lit 105 :: nat_lit 99 :: nat_lit 32 :: nat_lit 105 :: nat_lit 100 :: nat_lit 101 :: nat_lit 97 :: nat_lit 32 :: nat_lit 105 :: nat_lit 115 :: nat_lit 32 :: nat_lit 116 :: nat_lit 111 :: nat_lit 32 :: nat_lit 102 :: nat_lit 105 :: nat_lit 110 :: nat_lit 100 :: nat_lit 10 :: nat_lit 116 :: nat_lit 104 :: nat_lit 101 :: nat_lit 32 :: nat_lit 108 :: nat_lit 111 :: nat_lit 110 :: nat_lit 103 :: nat_lit 101 :: nat_lit 115 :: nat_lit 116 :: nat_lit 32 :: nat_lit 99 :: nat_lit 111 :: nat_lit 110 :: nat_lit 116 :: nat_lit 105 :: nat_lit 103 :: nat_lit 117 :: nat_lit 111 :: dn6
noncomputable def dn4 : List Nat := nat_lit 108 :: nat_lit 105 :: nat_lit 102 :: nat_lit 102 :: nat_lit 32 :: nat_lit 97 :: nat_lit 110 :: nat_lit 100 :: nat_lit 32 :: nat_lit 79 :: nat_lit 98 :: nat_lit 101 :: nat_lit 114 :: nat_lit 115 :: nat_lit 104 :: nat_lit 101 :: nat_lit 108 :: nat_lit 112 :: nat_lit 32 :: nat_lit 117 :: nat_lit 110 :: nat_lit 100 :: nat_lit 101 :: nat_lit 114 :: nat_lit 32 :: nat_lit 116 :: nat_lit 104 :: nat_lit 101 :: nat_lit 10 :: nat_lit 104 :: nat_lit 121 :: nat_lit 112 :: nat_lit 101 :: nat_lit 114 :: nat_lit 98 :: nat_lit 111 :: nat_lit 108 :: nat_lit 105 :: nat_lit 99 :: nat_lit 32 :: nat_lit 110 :: nat_lit 97 :: nat_lit 109 :: nat_lit 101 :: nat_lit 32 :: nat_lit 34 :: nat_lit 103 :: nat_lit 101 :: nat_lit 115 :: nat_lit 116 :: nat_lit 97 :: nat_lit 108 :: nat_lit 116 :: nat_lit 32 :: nat_lit 112 :: nat_lit 97 :: nat_lit 116 :: nat_lit 116 :: nat_lit 101 :: nat_lit 114 :: dn5
noncomputable def dn3 : List Nat := nat_lit 99 :: nat_lit 105 :: nat_lit 101 :: nat_lit 114 :: nat_lit 32 :: nat_lit 116 :: nat_lit 104 :: nat_lit 97 :: nat_lit 110 :: nat_lit 44 :: nat_lit 32 :: nat_lit 97 :: nat_lit 110 :: nat_lit 32 :: nat_lit 97 :: nat_lit 108 :: nat_lit 103 :: nat_lit 111 :: nat_lit 114 :: nat_lit 105 :: nat_lit 116 :: nat_lit 104 :: nat_lit 109 :: nat_lit 10 :: nat_lit 112 :: nat_lit 117 :: nat_lit 98 :: nat_lit 108 :: nat_lit 105 :: nat_lit 115 :: nat_lit 104 :: nat_lit 101 :: nat_lit 100 :: nat_lit 32 :: nat_lit 105 :: nat_lit 110 :: nat_lit 32 :: nat_lit 116 :: nat_lit 104 :: nat_lit 101 :: nat_lit 32 :: nat_lit 108 :: nat_lit 97 :: nat_lit 116 :: nat_lit 101 :: nat_lit 32 :: nat_lit 49 :: nat_lit 57 :: nat_lit 56 :: nat_lit 48 :: nat_lit 39 :: nat_lit 115 :: nat_lit 32 :: nat_lit 98 :: nat_lit 121 :: nat_lit 32 :: nat_lit 82 :: nat_lit 97 :: nat_lit 116 :: nat_lit 99 :: dn4
noncomputable def dn2 : List Nat := nat_lit 104 :: nat_lit 97 :: nat_lit 115 :: nat_lit 104 :: nat_lit 97 :: nat_lit 98 :: nat_lit 108 :: nat_lit 101 :: nat_lit 46 :: nat_lit 32 :: nat_lit 32 :: nat_lit 84 :: nat_lit 104 :: nat_lit 101 :: nat_lit 32 :: nat_lit 98 :: nat_lit 97 :: nat_lit 115 :: nat_lit 105 :: nat_lit 99 :: nat_lit 10 :: nat_lit 97 :: nat_lit 108 :: nat_lit 103 :: nat_lit 111 :: nat_lit 114 :: nat_lit 105 :: nat_lit 116 :: nat_lit 104 :: nat_lit 109 :: nat_lit 32 :: nat_lit 112 :: nat_lit 114 :: nat_lit 101 :: nat_lit 100 :: nat_lit 97 :: nat_lit 116 :: nat_lit 101 :: nat_lit 115 :: nat_lit 44 :: nat_lit 32 :: nat_lit 97 :: nat_lit 110 :: nat_lit 100 :: nat_lit 32 :: nat_lit 105 :: nat_lit 115 :: nat_lit 32 :: nat_lit 97 :: nat_lit 32 :: nat_lit 108 :: nat_lit 105 :: nat_lit 116 :: nat_lit 116 :: nat_lit 108 :: nat_lit 101 :: nat_lit 32 :: nat_lit 102 :: nat_lit 97 :: nat_lit 110 :: dn3
noncomputable def dn1 : List Nat := nat_lit 115 :: nat_lit 101 :: nat_lit 113 :: nat_lit 117 :: nat_lit 101 :: nat_lit 110 :: nat_lit 99 :: nat_lit 101 :: nat_lit 115 :: nat_lit 32 :: nat_lit 111 :: nat_lit 102 :: nat_lit 10 :: nat_lit 97 :: nat_lit 110 :: nat_lit 121 :: nat_lit 32 :: nat_lit 116 :: nat_lit 121 :: nat_lit 112 :: nat_lit 101 :: nat_lit 44 :: nat_lit 32 :: nat_lit 115 :: nat_lit 111 :: nat_lit 32 :: nat_lit 108 :: nat_lit 111 :: nat_lit 110 :: nat_lit 103 :: nat_lit 32 :: nat_lit 97 :: nat_lit 115 :: nat_lit 32 :: nat_lit 116 :: nat_lit 104 :: nat_lit 101 :: nat_lit 32 :: nat_lit 115 :: nat_lit 101 :: nat_lit 113 :: nat_lit 117 :: nat_lit 101 :: nat_lit 110 :: nat_lit 99 :: nat_lit 101 :: nat_lit 32 :: nat_lit 101 :: nat_lit 108 :: nat_lit 101 :: nat_lit 109 :: nat_lit 101 :: nat_lit 110 :: nat_lit 116 :: nat_lit 115 :: nat_lit 32 :: nat_lit 97 :: nat_lit 114 :: nat_lit 101 :: nat_lit 32 :: dn2
noncomputable def dn0 : List Nat := nat_lit 10 :: nat_lit 83 :: nat_lit 101 :: nat_lit 113 :: nat_lit 117 :: nat_lit 101 :: nat_lit 110 :: nat_lit 99 :: nat_lit 101 :: nat_lit 77 :: nat_lit 97 :: nat_lit 116 :: nat_lit 99 :: nat_lit 104 :: nat_lit 101 :: nat_lit 114 :: nat_lit 32 :: nat_lit 105 :: nat_lit 115 :: nat_lit 32 :: nat_lit 97 :: nat_lit 32 :: nat_lit 102 :: nat_lit 108 :: nat_lit 101 :: nat_lit 120 :: nat_lit 105 :: nat_lit 98 :: nat_lit 108 :: nat_lit 101 :: nat_lit 32 :: nat_lit 99 :: nat_lit 108 :: nat_lit 97 :: nat_lit 115 :: nat_lit 115 :: nat_lit 32 :: nat_lit 102 :: nat_lit 111 :: nat_lit 114 :: nat_lit 32 :: nat_lit 99 :: nat_lit 111 :: nat_lit 109 :: nat_lit 112 :: nat_lit 97 :: nat_lit 114 :: nat_lit 105 :: nat_lit 110 :: nat_lit 103 :: nat_lit 32 :: nat_lit 112 :: nat_lit 97 :: nat_lit 105 :: nat_lit 114 :: nat_lit 115 :: nat_lit 32 :: nat_lit 111 :: nat_lit 102 :: nat_lit 32 :: dn1
noncomputable def dc5 : Str := Str.mk (Array.mk dn0)
theorem doc_eq : dS (bS (nS PySem.Challenge.pw_oy0507_01.main.body 5)) = dc5 := by
  have h : dS (bS (nS PySem.Challenge.pw_oy0507_01.main.body 5)) = Str.ofString (String.ofList (dn0.map Char.ofNat)) := by kernel_rfl
  rw [h, PySem.W.Fast.ofString_ofList]
  kernel_rfl
noncomputable def putB (d : Str) : List Stmt → List Stmt
  | .Expr (.Constant (.str _) k p) q :: l => .Expr (.Constant (.str d) k p) q :: l
  | l => l
noncomputable def putC (d : Str) : Stmt → Stmt
  | .ClassDef n b k body dl tp sc ts bi sa pos => .ClassDef n b k (putB d body) dl tp sc ts bi sa pos
  | s => s
noncomputable def pBody : List Stmt := PySem.Challenge.pw_oy0507_01.main.body
noncomputable def stsA : List Stmt := [nS pBody 0, nS pBody 1, nS pBody 2]
noncomputable def stsB : List Stmt := [nS pBody 3]
noncomputable def stsC : List Stmt := [nS pBody 4, nS pBody 5]
noncomputable def stsD : List Stmt := [nS pBody 6, nS pBody 7, nS pBody 8, nS pBody 9, nS pBody 10, nS pBody 11, nS pBody 12, nS pBody 13, nS pBody 14, nS pBody 15, nS pBody 16, nS pBody 17, nS pBody 18, nS pBody 19, nS pBody 20, nS pBody 21, nS pBody 22, nS pBody 23, nS pBody 24, nS pBody 25, nS pBody 26, nS pBody 27, nS pBody 28, nS pBody 29, nS pBody 30, nS pBody 31, nS pBody 32, nS pBody 33, nS pBody 34]
noncomputable def stsC2 : List Stmt := [nS pBody 4, putC dc5 (nS pBody 5)]
theorem stsC_eq : stsC = stsC2 := by
  have h : stsC = [nS pBody 4, putC (dS (bS (nS PySem.Challenge.pw_oy0507_01.main.body 5))) (nS pBody 5)] := by kernel_rfl
  rw [h, doc_eq]
  rfl
theorem body_cut : behindTheImports PySem.Challenge.pw_oy0507_01 = stsA ++ (stsB ++ (stsC ++ (stsD ++ []))) := by kernel_rfl
noncomputable def o0_11 (P : Params) : Obj := Obj.mk (Value.type "tuple") none (Data.seq #[]) #[]
noncomputable def o0_12 (P : Params) : Obj := Obj.mk Value.none none (Data.fields #[]) #[]
noncomputable def o0_13 (P : Params) : Obj := Obj.mk (Value.type "code") none (Data.fields #[Value.str (Str.ofString "<module>") 182, Value.str (Str.ofString "<module>") 183, Value.str (Str.ofString "/claim/cut.py") 184, Value.int 1 0, Value.int 0 0, Value.int 0 0, Value.int 0 0, Value.int 0 0, Value.ref 11, Value.bool false, Value.int 181 0, Value.ref 12, Value.none, Value.none, Value.none, Value.none, Value.int 185 0, Value.int 1 0, Value.str (Str.ofString "/claim/cut.py") 186]) #[]
noncomputable def o0_14 (P : Params) : Obj := Obj.mk (Value.type "frame") none Data.plain #[some (Value.ref 13), some (Value.ref 3), some (Value.ref 3), none, some (Value.str (Str.ofString "__main__") 164), none, some (Value.ref 0)]
noncomputable def oA_3 (P : Params) : Obj := Obj.mk (Value.type "dict") none (Data.dict #[DictEntry.mk (PyData.keyHash P (Str.ofString "__name__")) (Value.str (Str.ofString "__name__") 165) (Value.str (Str.ofString "cpy313.difflib") 194), DictEntry.mk (PyData.keyHash P (Str.ofString "__doc__")) (Value.str (Str.ofString "__doc__") 166) Value.none, DictEntry.mk (PyData.keyHash P (Str.ofString "__package__")) (Value.str (Str.ofString "__package__") 167) Value.none, DictEntry.mk (PyData.keyHash P (Str.ofString "__loader__")) (Value.str (Str.ofString "__loader__") 168) (Value.builtin "__main__.__loader__#opaque"), DictEntry.mk (PyData.keyHash P (Str.ofString "__spec__")) (Value.str (Str.ofString "__spec__") 169) Value.none, DictEntry.mk (PyData.keyHash P (Str.ofString "__annotations__")) (Value.str (Str.ofString "__annotations__") 170) (Value.ref 6), DictEntry.mk (PyData.keyHash P (Str.ofString "__builtins__")) (Value.str (Str.ofString "__builtins__") 171) (Value.ref 4), DictEntry.mk (PyData.keyHash P (Str.ofString "__file__")) (Value.str (Str.ofString "__file__") 173) (Value.str (Str.ofString "/claim/cut.py") 172), DictEntry.mk (PyData.keyHash P (Str.ofString "__cached__")) (Value.str (Str.ofString "__cached__") 174) Value.none, DictEntry.mk (PyData.keyHash P (Str.ofString "_wall")) (Value.str (Str.ofString "_wall") 193) (Value.ref 21), DictEntry.mk (PyData.keyHash P (Str.ofString "_tuplegetter")) (Value.str (Str.ofString "_tuplegetter") 252) (Value.ref 60)] 11) #[]
noncomputable def oA_12 (P : Params) : Obj := Obj.mk Value.none none (Data.fields #[Value.int 1 0, Value.int 0 0, Value.ref 20, Value.int 5 0, Value.int 0 0, Value.ref 27]) #[]
noncomputable def oA_15 (P : Params) : Obj := Obj.mk (Value.type "tuple") none (Data.seq #[]) #[]
noncomputable def oA_16 (P : Params) : Obj := Obj.mk Value.none none (Data.fields #[]) #[]
noncomputable def oA_17 (P : Params) : Obj := Obj.mk (Value.type "tuple") none (Data.seq #[Value.str (Str.ofString "k") 190]) #[]
noncomputable def oA_18 (P : Params) : Obj := Obj.mk (Value.type "tuple") none (Data.seq #[]) #[]
noncomputable def oA_19 (P : Params) : Obj := Obj.mk Value.none none (Data.func (FuncData.mk (Str.ofString "_wall") (Str.ofString "_wall") (Arguments.mk [] [Arg.mk (Str.ofString "k") none (Pos.mk 1 10 1 11)] none [] [] none []) (FuncBody.stmts bd0) (Scope.mk ScopeKind.function [(Str.ofString "k", NameKind.local)] false false []) 0 [] Value.none Value.none Value.none Value.none none Value.none Value.none 0)) #[]
noncomputable def oA_20 (P : Params) : Obj := Obj.mk (Value.type "code") none (Data.fields #[Value.str (Str.ofString "_wall") 187, Value.str (Str.ofString "_wall") 188, Value.str (Str.ofString "/claim/cut.py") 189, Value.int 1 0, Value.int 1 0, Value.int 0 0, Value.int 0 0, Value.int 3 0, Value.ref 15, Value.bool true, Value.int 181 0, Value.ref 16, Value.none, Value.ref 17, Value.ref 18, Value.ref 19, Value.int 191 0, Value.int 1 0, Value.str (Str.ofString "/claim/cut.py") 192]) #[]
noncomputable def oA_21 (P : Params) : Obj := Obj.mk (Value.type "function") none (Data.func (FuncData.mk (Str.ofString "_wall") (Str.ofString "_wall") (Arguments.mk [] [Arg.mk (Str.ofString "k") none (Pos.mk 1 10 1 11)] none [] [] none []) (FuncBody.stmts bd0) (Scope.mk ScopeKind.function [(Str.ofString "k", NameKind.local)] false false []) 3 [] Value.none Value.none Value.none (Value.str (Str.ofString "__main__") 164) none (Value.ref 20) Value.none 0)) #[]
noncomputable def oA_22 (P : Params) : Obj := Obj.mk (Value.type "tuple") none (Data.seq #[]) #[]
noncomputable def oA_23 (P : Params) : Obj := Obj.mk (Value.type "builtin_function_or_method") none (Data.fields #[Value.builtin "type.__prepare__", Value.type "type"]) #[]
noncomputable def oA_24 (P : Params) : Obj := Obj.mk (Value.type "dict") none (Data.dict #[DictEntry.mk (PyData.keyHash P (Str.ofString "__module__")) (Value.str (Str.ofString "__module__") 203) (Value.str (Str.ofString "cpy313.difflib") 194), DictEntry.mk (PyData.keyHash P (Str.ofString "__qualname__")) (Value.str (Str.ofString "__qualname__") 205) (Value.str (Str.ofString "_tuplegetter") 204), DictEntry.mk (PyData.keyHash P (Str.ofString "__firstlineno__")) (Value.str (Str.ofString "__firstlineno__") 207) (Value.int 5 206), DictEntry.mk (PyData.keyHash P (Str.ofString "__init__")) (Value.str (Str.ofString "__init__") 216) (Value.ref 35), DictEntry.mk (PyData.keyHash P (Str.ofString "__get__")) (Value.str (Str.ofString "__get__") 225) (Value.ref 43), DictEntry.mk (PyData.keyHash P (Str.ofString "__set__")) (Value.str (Str.ofString "__set__") 234) (Value.ref 50), DictEntry.mk (PyData.keyHash P (Str.ofString "__delete__")) (Value.str (Str.ofString "__delete__") 242) (Value.ref 57), DictEntry.mk (PyData.keyHash P (Str.ofString "__static_attributes__")) (Value.str (Str.ofString "__static_attributes__") 245) (Value.ref 58)] 8) #[]
noncomputable def oA_25 (P : Params) : Obj := Obj.mk (Value.type "tuple") none (Data.seq #[]) #[]
noncomputable def oA_26 (P : Params) : Obj := Obj.mk Value.none none (Data.fields #[Value.int 7 0, Value.int 4 0, Value.ref 34, Value.int 11 0, Value.int 4 0, Value.ref 42, Value.int 18 0, Value.int 4 0, Value.ref 49, Value.int 21 0, Value.int 4 0, Value.ref 56]) #[]
noncomputable def oA_27 (P : Params) : Obj := Obj.mk (Value.type "code") none (Data.fields #[Value.str (Str.ofString "_tuplegetter") 198, Value.str (Str.ofString "_tuplegetter") 199, Value.str (Str.ofString "/claim/cut.py") 200, Value.int 5 0, Value.int 0 0, Value.int 0 0, Value.int 0 0, Value.int 0 0, Value.ref 25, Value.bool false, Value.int 181 0, Value.ref 26, Value.none, Value.none, Value.none, Value.none, Value.int 201 0, Value.int 5 0, Value.str (Str.ofString "/claim/cut.py") 202]) #[]
noncomputable def oA_28 (P : Params) : Obj := Obj.mk (Value.type "frame") none Data.plain #[some (Value.ref 27), some (Value.ref 3), some (Value.ref 24), none, some (Value.str (Str.ofString "cpy313.difflib") 194), none, some (Value.ref 0)]
noncomputable def oA_29 (P : Params) : Obj := Obj.mk (Value.type "tuple") none (Data.seq #[]) #[]
noncomputable def oA_30 (P : Params) : Obj := Obj.mk Value.none none (Data.fields #[]) #[]
noncomputable def oA_31 (P : Params) : Obj := Obj.mk (Value.type "tuple") none (Data.seq #[Value.str (Str.ofString "self") 211, Value.str (Str.ofString "index") 212, Value.str (Str.ofString "doc") 213]) #[]
noncomputable def oA_32 (P : Params) : Obj := Obj.mk (Value.type "tuple") none (Data.seq #[]) #[]
noncomputable def oA_33 (P : Params) : Obj := Obj.mk Value.none none (Data.func (FuncData.mk (Str.ofString "__init__") (Str.ofString "_tuplegetter.__init__") (Arguments.mk [] [Arg.mk (Str.ofString "self") none (Pos.mk 7 17 7 21), Arg.mk (Str.ofString "index") none (Pos.mk 7 23 7 28), Arg.mk (Str.ofString "doc") none (Pos.mk 7 30 7 33)] none [] [] none []) (FuncBody.stmts bd2x0) (Scope.mk ScopeKind.function [(Str.ofString "self", NameKind.local), (Str.ofString "index", NameKind.local), (Str.ofString "doc", NameKind.local)] false false []) 0 [] Value.none Value.none Value.none Value.none none Value.none Value.none 0)) #[]
noncomputable def oA_34 (P : Params) : Obj := Obj.mk (Value.type "code") none (Data.fields #[Value.str (Str.ofString "__init__") 208, Value.str (Str.ofString "_tuplegetter.__init__") 209, Value.str (Str.ofString "/claim/cut.py") 210, Value.int 7 0, Value.int 3 0, Value.int 0 0, Value.int 0 0, Value.int 3 0, Value.ref 29, Value.bool true, Value.int 181 0, Value.ref 30, Value.none, Value.ref 31, Value.ref 32, Value.ref 33, Value.int 214 0, Value.int 7 0, Value.str (Str.ofString "/claim/cut.py") 215]) #[]
noncomputable def oA_35 (P : Params) : Obj := Obj.mk (Value.type "function") none (Data.func (FuncData.mk (Str.ofString "__init__") (Str.ofString "_tuplegetter.__init__") (Arguments.mk [] [Arg.mk (Str.ofString "self") none (Pos.mk 7 17 7 21), Arg.mk (Str.ofString "index") none (Pos.mk 7 23 7 28), Arg.mk (Str.ofString "doc") none (Pos.mk 7 30 7 33)] none [] [] none []) (FuncBody.stmts bd2x0) (Scope.mk ScopeKind.function [(Str.ofString "self", NameKind.local), (Str.ofString "index", NameKind.local), (Str.ofString "doc", NameKind.local)] false false []) 3 [] Value.none Value.none Value.none (Value.str (Str.ofString "cpy313.difflib") 194) none (Value.ref 34) Value.none 0)) #[]
noncomputable def oA_36 (P : Params) : Obj := Obj.mk (Value.type "tuple") none (Data.seq #[Value.none]) #[]
noncomputable def oA_37 (P : Params) : Obj := Obj.mk (Value.type "tuple") none (Data.seq #[]) #[]
noncomputable def oA_38 (P : Params) : Obj := Obj.mk Value.none none (Data.fields #[]) #[]
noncomputable def oA_39 (P : Params) : Obj := Obj.mk (Value.type "tuple") none (Data.seq #[Value.str (Str.ofString "self") 220, Value.str (Str.ofString "obj") 221, Value.str (Str.ofString "objtype") 222]) #[]
noncomputable def oA_40 (P : Params) : Obj := Obj.mk (Value.type "tuple") none (Data.seq #[]) #[]
noncomputable def oA_41 (P : Params) : Obj := Obj.mk Value.none none (Data.func (FuncData.mk (Str.ofString "__get__") (Str.ofString "_tuplegetter.__get__") (Arguments.mk [] [Arg.mk (Str.ofString "self") none (Pos.mk 11 16 11 20), Arg.mk (Str.ofString "obj") none (Pos.mk 11 22 11 25), Arg.mk (Str.ofString "objtype") none (Pos.mk 11 27 11 34)] none [] [] none [Expr.Constant Const.none 0 (Pos.mk 11 35 11 39)]) (FuncBody.stmts bd2x1) (Scope.mk ScopeKind.function [(Str.ofString "self", NameKind.local), (Str.ofString "obj", NameKind.local), (Str.ofString "objtype", NameKind.local), (Str.ofString "issubclass", NameKind.globalImplicit), (Str.ofString "type", NameKind.globalImplicit), (Str.ofString "tuple", NameKind.globalImplicit), (Str.ofString "_wall", NameKind.globalImplicit)] false false []) 0 [] Value.none Value.none Value.none Value.none none Value.none Value.none 0)) #[]
noncomputable def oA_42 (P : Params) : Obj := Obj.mk (Value.type "code") none (Data.fields #[Value.str (Str.ofString "__get__") 217, Value.str (Str.ofString "_tuplegetter.__get__") 218, Value.str (Str.ofString "/claim/cut.py") 219, Value.int 11 0, Value.int 3 0, Value.int 0 0, Value.int 0 0, Value.int 3 0, Value.ref 37, Value.bool true, Value.int 181 0, Value.ref 38, Value.none, Value.ref 39, Value.ref 40, Value.ref 41, Value.int 223 0, Value.int 11 0, Value.str (Str.ofString "/claim/cut.py") 224]) #[]
noncomputable def oA_43 (P : Params) : Obj := Obj.mk (Value.type "function") none (Data.func (FuncData.mk (Str.ofString "__get__") (Str.ofString "_tuplegetter.__get__") (Arguments.mk [] [Arg.mk (Str.ofString "self") none (Pos.mk 11 16 11 20), Arg.mk (Str.ofString "obj") none (Pos.mk 11 22 11 25), Arg.mk (Str.ofString "objtype") none (Pos.mk 11 27 11 34)] none [] [] none [Expr.Constant Const.none 0 (Pos.mk 11 35 11 39)]) (FuncBody.stmts bd2x1) (Scope.mk ScopeKind.function [(Str.ofString "self", NameKind.local), (Str.ofString "obj", NameKind.local), (Str.ofString "objtype", NameKind.local), (Str.ofString "issubclass", NameKind.globalImplicit), (Str.ofString "type", NameKind.globalImplicit), (Str.ofString "tuple", NameKind.globalImplicit), (Str.ofString "_wall", NameKind.globalImplicit)] false false []) 3 [] (Value.ref 36) Value.none Value.none (Value.str (Str.ofString "cpy313.difflib") 194) none (Value.ref 42) Value.none 0)) #[]
noncomputable def oA_44 (P : Params) : Obj := Obj.mk (Value.type "tuple") none (Data.seq #[]) #[]
noncomputable def oA_45 (P : Params) : Obj := Obj.mk Value.none none (Data.fields #[]) #[]
noncomputable def oA_46 (P : Params) : Obj := Obj.mk (Value.type "tuple") none (Data.seq #[Value.str (Str.ofString "self") 229, Value.str (Str.ofString "obj") 230, Value.str (Str.ofString "value") 231]) #[]
noncomputable def oA_47 (P : Params) : Obj := Obj.mk (Value.type "tuple") none (Data.seq #[]) #[]
noncomputable def oA_48 (P : Params) : Obj := Obj.mk Value.none none (Data.func (FuncData.mk (Str.ofString "__set__") (Str.ofString "_tuplegetter.__set__") (Arguments.mk [] [Arg.mk (Str.ofString "self") none (Pos.mk 18 16 18 20), Arg.mk (Str.ofString "obj") none (Pos.mk 18 22 18 25), Arg.mk (Str.ofString "value") none (Pos.mk 18 27 18 32)] none [] [] none []) (FuncBody.stmts bd2x2) (Scope.mk ScopeKind.function [(Str.ofString "self", NameKind.local), (Str.ofString "obj", NameKind.local), (Str.ofString "value", NameKind.local), (Str.ofString "AttributeError", NameKind.globalImplicit)] false false []) 0 [] Value.none Value.none Value.none Value.none none Value.none Value.none 0)) #[]
noncomputable def oA_49 (P : Params) : Obj := Obj.mk (Value.type "code") none (Data.fields #[Value.str (Str.ofString "__set__") 226, Value.str (Str.ofString "_tuplegetter.__set__") 227, Value.str (Str.ofString "/claim/cut.py") 228, Value.int 18 0, Value.int 3 0, Value.int 0 0, Value.int 0 0, Value.int 3 0, Value.ref 44, Value.bool true, Value.int 181 0, Value.ref 45, Value.none, Value.ref 46, Value.ref 47, Value.ref 48, Value.int 232 0, Value.int 18 0, Value.str (Str.ofString "/claim/cut.py") 233]) #[]
noncomputable def oA_50 (P : Params) : Obj := Obj.mk (Value.type "function") none (Data.func (FuncData.mk (Str.ofString "__set__") (Str.ofString "_tuplegetter.__set__") (Arguments.mk [] [Arg.mk (Str.ofString "self") none (Pos.mk 18 16 18 20), Arg.mk (Str.ofString "obj") none (Pos.mk 18 22 18 25), Arg.mk (Str.ofString "value") none (Pos.mk 18 27 18 32)] none [] [] none []) (FuncBody.stmts bd2x2) (Scope.mk ScopeKind.function [(Str.ofString "self", NameKind.local), (Str.ofString "obj", NameKind.local), (Str.ofString "value", NameKind.local), (Str.ofString "AttributeError", NameKind.globalImplicit)] false false []) 3 [] Value.none Value.none Value.none (Value.str (Str.ofString "cpy313.difflib") 194) none (Value.ref 49) Value.none 0)) #[]
noncomputable def oA_51 (P : Params) : Obj := Obj.mk (Value.type "tuple") none (Data.seq #[]) #[]
noncomputable def oA_52 (P : Params) : Obj := Obj.mk Value.none none (Data.fields #[]) #[]
noncomputable def oA_53 (P : Params) : Obj := Obj.mk (Value.type "tuple") none (Data.seq #[Value.str (Str.ofString "self") 238, Value.str (Str.ofString "obj") 239]) #[]
noncomputable def oA_54 (P : Params) : Obj := Obj.mk (Value.type "tuple") none (Data.seq #[]) #[]
noncomputable def oA_55 (P : Params) : Obj := Obj.mk Value.none none (Data.func (FuncData.mk (Str.ofString "__delete__") (Str.ofString "_tuplegetter.__delete__") (Arguments.mk [] [Arg.mk (Str.ofString "self") none (Pos.mk 21 19 21 23), Arg.mk (Str.ofString "obj") none (Pos.mk 21 25 21 28)] none [] [] none []) (FuncBody.stmts bd2x3) (Scope.mk ScopeKind.function [(Str.ofString "self", NameKind.local), (Str.ofString "obj", NameKind.local), (Str.ofString "AttributeError", NameKind.globalImplicit)] false false []) 0 [] Value.none Value.none Value.none Value.none none Value.none Value.none 0)) #[]
noncomputable def oA_56 (P : Params) : Obj := Obj.mk (Value.type "code") none (Data.fields #[Value.str (Str.ofString "__delete__") 235, Value.str (Str.ofString "_tuplegetter.__delete__") 236, Value.str (Str.ofString "/claim/cut.py") 237, Value.int 21 0, Value.int 2 0, Value.int 0 0, Value.int 0 0, Value.int 3 0, Value.ref 51, Value.bool true, Value.int 181 0, Value.ref 52, Value.none, Value.ref 53, Value.ref 54, Value.ref 55, Value.int 240 0, Value.int 21 0, Value.str (Str.ofString "/claim/cut.py") 241]) #[]
noncomputable def oA_57 (P : Params) : Obj := Obj.mk (Value.type "function") none (Data.func (FuncData.mk (Str.ofString "__delete__") (Str.ofString "_tuplegetter.__delete__") (Arguments.mk [] [Arg.mk (Str.ofString "self") none (Pos.mk 21 19 21 23), Arg.mk (Str.ofString "obj") none (Pos.mk 21 25 21 28)] none [] [] none []) (FuncBody.stmts bd2x3) (Scope.mk ScopeKind.function [(Str.ofString "self", NameKind.local), (Str.ofString "obj", NameKind.local), (Str.ofString "AttributeError", NameKind.globalImplicit)] false false []) 3 [] Value.none Value.none Value.none (Value.str (Str.ofString "cpy313.difflib") 194) none (Value.ref 56) Value.none 0)) #[]
noncomputable def oA_58 (P : Params) : Obj := Obj.mk (Value.type "tuple") none (Data.seq #[Value.str (Str.ofString "__doc__") 243, Value.str (Str.ofString "index") 244]) #[]
noncomputable def oA_59 (P : Params) : Obj := Obj.mk (Value.type "dict") none (Data.dict #[DictEntry.mk (PyData.keyHash P (Str.ofString "__module__")) (Value.str (Str.ofString "__module__") 203) (Value.str (Str.ofString "cpy313.difflib") 194), DictEntry.mk (PyData.keyHash P (Str.ofString "__firstlineno__")) (Value.str (Str.ofString "__firstlineno__") 207) (Value.int 5 206), DictEntry.mk (PyData.keyHash P (Str.ofString "__init__")) (Value.str (Str.ofString "__init__") 216) (Value.ref 35), DictEntry.mk (PyData.keyHash P (Str.ofString "__get__")) (Value.str (Str.ofString "__get__") 225) (Value.ref 43), DictEntry.mk (PyData.keyHash P (Str.ofString "__set__")) (Value.str (Str.ofString "__set__") 234) (Value.ref 50), DictEntry.mk (PyData.keyHash P (Str.ofString "__delete__")) (Value.str (Str.ofString "__delete__") 242) (Value.ref 57), DictEntry.mk (PyData.keyHash P (Str.ofString "__static_attributes__")) (Value.str (Str.ofString "__static_attributes__") 245) (Value.ref 58), DictEntry.mk (PyData.keyHash P (Str.ofString "__dict__")) (Value.str (Str.ofString "__dict__") 247) (Value.ref 61), DictEntry.mk (PyData.keyHash P (Str.ofString "__weakref__")) (Value.str (Str.ofString "__weakref__") 249) (Value.ref 62), DictEntry.mk (PyData.keyHash P (Str.ofString "__doc__")) (Value.str (Str.ofString "__doc__") 250) Value.none] 4) #[]
noncomputable def oA_60 (P : Params) : Obj := Obj.mk (Value.type "type") none (Data.cls (ClassData.mk (Str.ofString "_tuplegetter") [Value.type "object"] [Value.ref 60, Value.type "object"] 59 (Str.ofString "_tuplegetter") true [] [] false none false)) #[none, none, some (Value.str (Str.ofString "_tuplegetter") 196), some (Value.str (Str.ofString "_tuplegetter") 204), some (Value.builtin "object.__new__"), some (Value.bool true)]
noncomputable def oA_61 (P : Params) : Obj := Obj.mk (Value.type "getset_descriptor") none (Data.fields #[Value.str (Str.ofString "__dict__") 246, Value.ref 60, Value.builtin "function.__dict__", Value.builtin "function.__dict__#set"]) #[]
noncomputable def oA_62 (P : Params) : Obj := Obj.mk (Value.type "getset_descriptor") none (Data.fields #[Value.str (Str.ofString "__weakref__") 248, Value.ref 60, Value.builtin "ExceptionGroup.__weakref__", Value.none]) #[]
noncomputable def oA_63 (P : Params) : Obj := Obj.mk (Value.type "super") none (Data.fields #[Value.ref 60, Value.ref 60, Value.ref 60]) #[]
noncomputable def oA_64 (P : Params) : Obj := Obj.mk (Value.type "builtin_function_or_method") none (Data.fields #[Value.builtin "object.__init_subclass__", Value.ref 60]) #[]
noncomputable def oB_3 (P : Params) : Obj := Obj.mk (Value.type "dict") none (Data.dict #[DictEntry.mk (PyData.keyHash P (Str.ofString "__name__")) (Value.str (Str.ofString "__name__") 165) (Value.str (Str.ofString "cpy313.difflib") 194), DictEntry.mk (PyData.keyHash P (Str.ofString "__doc__")) (Value.str (Str.ofString "__doc__") 166) Value.none, DictEntry.mk (PyData.keyHash P (Str.ofString "__package__")) (Value.str (Str.ofString "__package__") 167) Value.none, DictEntry.mk (PyData.keyHash P (Str.ofString "__loader__")) (Value.str (Str.ofString "__loader__") 168) (Value.builtin "__main__.__loader__#opaque"), DictEntry.mk (PyData.keyHash P (Str.ofString "__spec__")) (Value.str (Str.ofString "__spec__") 169) Value.none, DictEntry.mk (PyData.keyHash P (Str.ofString "__annotations__")) (Value.str (Str.ofString "__annotations__") 170) (Value.ref 6), DictEntry.mk (PyData.keyHash P (Str.ofString "__builtins__")) (Value.str (Str.ofString "__builtins__") 171) (Value.ref 4), DictEntry.mk (PyData.keyHash P (Str.ofString "__file__")) (Value.str (Str.ofString "__file__") 173) (Value.str (Str.ofString "/claim/cut.py") 172), DictEntry.mk (PyData.keyHash P (Str.ofString "__cached__")) (Value.str (Str.ofString "__cached__") 174) Value.none, DictEntry.mk (PyData.keyHash P (Str.ofString "_wall")) (Value.str (Str.ofString "_wall") 193) (Value.ref 21), DictEntry.mk (PyData.keyHash P (Str.ofString "_tuplegetter")) (Value.str (Str.ofString "_tuplegetter") 252) (Value.ref 60), DictEntry.mk (PyData.keyHash P (Str.ofString "Match")) (Value.str (Str.ofString "Match") 380) (Value.ref 135)] 12) #[]
noncomputable def oB_12 (P : Params) : Obj := Obj.mk Value.none none (Data.fields #[Value.int 1 0, Value.int 0 0, Value.ref 20, Value.int 5 0, Value.int 0 0, Value.ref 27, Value.int 23 0, Value.int 0 0, Value.ref 71]) #[]
noncomputable def oB_65 (P : Params) : Obj := Obj.mk (Value.type "tuple") none (Data.seq #[Value.type "tuple"]) #[]
noncomputable def oB_66 (P : Params) : Obj := Obj.mk (Value.type "builtin_function_or_method") none (Data.fields #[Value.builtin "type.__prepare__", Value.type "type"]) #[]
noncomputable def oB_67 (P : Params) : Obj := Obj.mk (Value.type "dict") none (Data.dict #[DictEntry.mk (PyData.keyHash P (Str.ofString "__module__")) (Value.str (Str.ofString "__module__") 260) (Value.str (Str.ofString "cpy313.difflib") 194), DictEntry.mk (PyData.keyHash P (Str.ofString "__qualname__")) (Value.str (Str.ofString "__qualname__") 262) (Value.str (Str.ofString "Match") 261), DictEntry.mk (PyData.keyHash P (Str.ofString "__firstlineno__")) (Value.str (Str.ofString "__firstlineno__") 264) (Value.int 23 263), DictEntry.mk (PyData.keyHash P (Str.ofString "__doc__")) (Value.str (Str.ofString "__doc__") 266) (Value.str (Str.ofString "Match(a, b, size)") 265), DictEntry.mk (PyData.keyHash P (Str.ofString "__slots__")) (Value.str (Str.ofString "__slots__") 268) (Value.ref 73), DictEntry.mk (PyData.keyHash P (Str.ofString "_fields")) (Value.str (Str.ofString "_fields") 272) (Value.ref 74), DictEntry.mk (PyData.keyHash P (Str.ofString "_field_defaults")) (Value.str (Str.ofString "_field_defaults") 273) (Value.ref 75), DictEntry.mk (PyData.keyHash P (Str.ofString "__new__")) (Value.str (Str.ofString "__new__") 284) (Value.ref 82), DictEntry.mk (PyData.keyHash P (Str.ofString "_make")) (Value.str (Str.ofString "_make") 306) (Value.ref 91), DictEntry.mk (PyData.keyHash P (Str.ofString "_replace")) (Value.str (Str.ofString "_replace") 317) (Value.ref 100), DictEntry.mk (PyData.keyHash P (Str.ofString "__replace__")) (Value.str (Str.ofString "__replace__") 318) (Value.ref 100), DictEntry.mk (PyData.keyHash P (Str.ofString "__repr__")) (Value.str (Str.ofString "__repr__") 326) (Value.ref 107), DictEntry.mk (PyData.keyHash P (Str.ofString "_asdict")) (Value.str (Str.ofString "_asdict") 333) (Value.ref 114), DictEntry.mk (PyData.keyHash P (Str.ofString "__getnewargs__")) (Value.str (Str.ofString "__getnewargs__") 341) (Value.ref 121), DictEntry.mk (PyData.keyHash P (Str.ofString "__match_args__")) (Value.str (Str.ofString "__match_args__") 345) (Value.ref 122), DictEntry.mk (PyData.keyHash P (Str.ofString "a")) (Value.str (Str.ofString "a") 355) (Value.ref 124), DictEntry.mk (PyData.keyHash P (Str.ofString "b")) (Value.str (Str.ofString "b") 365) (Value.ref 127), DictEntry.mk (PyData.keyHash P (Str.ofString "size")) (Value.str (Str.ofString "size") 375) (Value.ref 130), DictEntry.mk (PyData.keyHash P (Str.ofString "__static_attributes__")) (Value.str (Str.ofString "__static_attributes__") 376) (Value.ref 132), DictEntry.mk (PyData.keyHash P (Str.ofString "__classcell__")) (Value.str (Str.ofString "__classcell__") 377) (Value.ref 68)] 20) #[]
noncomputable def oB_68 (P : Params) : Obj := Obj.mk (Value.type "cell") none (Data.cell (some (Value.ref 135))) #[]
noncomputable def oB_69 (P : Params) : Obj := Obj.mk (Value.type "tuple") none (Data.seq #[]) #[]
noncomputable def oB_70 (P : Params) : Obj := Obj.mk Value.none none (Data.fields #[Value.int 29 0, Value.int 4 0, Value.ref 81, Value.int 34 0, Value.int 4 0, Value.ref 88, Value.int 41 0, Value.int 4 0, Value.ref 99, Value.int 52 0, Value.int 4 0, Value.ref 106, Value.int 56 0, Value.int 4 0, Value.ref 113, Value.int 59 0, Value.int 4 0, Value.ref 120]) #[]
noncomputable def oB_71 (P : Params) : Obj := Obj.mk (Value.type "code") none (Data.fields #[Value.str (Str.ofString "Match") 255, Value.str (Str.ofString "Match") 256, Value.str (Str.ofString "/claim/cut.py") 257, Value.int 23 0, Value.int 0 0, Value.int 0 0, Value.int 0 0, Value.int 0 0, Value.ref 69, Value.bool false, Value.int 181 0, Value.ref 70, Value.none, Value.none, Value.none, Value.none, Value.int 258 0, Value.int 23 0, Value.str (Str.ofString "/claim/cut.py") 259]) #[]
noncomputable def oB_72 (P : Params) : Obj := Obj.mk (Value.type "frame") none Data.plain #[some (Value.ref 71), some (Value.ref 3), some (Value.ref 67), none, some (Value.str (Str.ofString "cpy313.difflib") 194), none, some (Value.ref 0)]
noncomputable def oB_73 (P : Params) : Obj := Obj.mk (Value.type "tuple") none (Data.seq #[]) #[]
noncomputable def oB_74 (P : Params) : Obj := Obj.mk (Value.type "tuple") none (Data.seq #[Value.str (Str.ofString "a") 269, Value.str (Str.ofString "b") 270, Value.str (Str.ofString "size") 271]) #[]
noncomputable def oB_75 (P : Params) : Obj := Obj.mk (Value.type "dict") none (Data.dict #[]) #[]
noncomputable def oB_76 (P : Params) : Obj := Obj.mk (Value.type "tuple") none (Data.seq #[]) #[]
noncomputable def oB_77 (P : Params) : Obj := Obj.mk Value.none none (Data.fields #[]) #[]
noncomputable def oB_78 (P : Params) : Obj := Obj.mk (Value.type "tuple") none (Data.seq #[Value.str (Str.ofString "_cls") 277, Value.str (Str.ofString "a") 278, Value.str (Str.ofString "b") 279, Value.str (Str.ofString "size") 280]) #[]
noncomputable def oB_79 (P : Params) : Obj := Obj.mk (Value.type "tuple") none (Data.seq #[]) #[]
noncomputable def oB_80 (P : Params) : Obj := Obj.mk Value.none none (Data.func (FuncData.mk (Str.ofString "__new__") (Str.ofString "Match.__new__") (Arguments.mk [] [Arg.mk (Str.ofString "_cls") none (Pos.mk 29 16 29 20), Arg.mk (Str.ofString "a") none (Pos.mk 29 22 29 23), Arg.mk (Str.ofString "b") none (Pos.mk 29 25 29 26), Arg.mk (Str.ofString "size") none (Pos.mk 29 28 29 32)] none [] [] none []) (FuncBody.stmts bd3x4) (Scope.mk ScopeKind.function [(Str.ofString "_cls", NameKind.local), (Str.ofString "a", NameKind.local), (Str.ofString "b", NameKind.local), (Str.ofString "size", NameKind.local), (Str.ofString "tuple", NameKind.globalImplicit)] false false []) 0 [] Value.none Value.none Value.none Value.none none Value.none Value.none 0)) #[]
noncomputable def oB_81 (P : Params) : Obj := Obj.mk (Value.type "code") none (Data.fields #[Value.str (Str.ofString "__new__") 274, Value.str (Str.ofString "Match.__new__") 275, Value.str (Str.ofString "/claim/cut.py") 276, Value.int 29 0, Value.int 4 0, Value.int 0 0, Value.int 0 0, Value.int 3 0, Value.ref 76, Value.bool true, Value.int 181 0, Value.ref 77, Value.none, Value.ref 78, Value.ref 79, Value.ref 80, Value.int 281 0, Value.int 29 0, Value.str (Str.ofString "/claim/cut.py") 282]) #[]
noncomputable def oB_82 (P : Params) : Obj := Obj.mk (Value.type "function") none (Data.func (FuncData.mk (Str.ofString "__new__") (Str.ofString "Match.__new__") (Arguments.mk [] [Arg.mk (Str.ofString "_cls") none (Pos.mk 29 16 29 20), Arg.mk (Str.ofString "a") none (Pos.mk 29 22 29 23), Arg.mk (Str.ofString "b") none (Pos.mk 29 25 29 26), Arg.mk (Str.ofString "size") none (Pos.mk 29 28 29 32)] none [] [] none []) (FuncBody.stmts bd3x4) (Scope.mk ScopeKind.function [(Str.ofString "_cls", NameKind.local), (Str.ofString "a", NameKind.local), (Str.ofString "b", NameKind.local), (Str.ofString "size", NameKind.local), (Str.ofString "tuple", NameKind.globalImplicit)] false false []) 3 [] Value.none Value.none (Value.str dc3x4 283) (Value.str (Str.ofString "cpy313.difflib") 194) none (Value.ref 81) Value.none 0)) #[]
noncomputable def oB_83 (P : Params) : Obj := Obj.mk (Value.type "tuple") none (Data.seq #[]) #[]
noncomputable def oB_84 (P : Params) : Obj := Obj.mk Value.none none (Data.fields #[]) #[]
noncomputable def oB_85 (P : Params) : Obj := Obj.mk (Value.type "tuple") none (Data.seq #[Value.str (Str.ofString "cls") 288, Value.str (Str.ofString "iterable") 289, Value.str (Str.ofString "result") 290]) #[]
noncomputable def oB_86 (P : Params) : Obj := Obj.mk (Value.type "tuple") none (Data.seq #[]) #[]
noncomputable def oB_87 (P : Params) : Obj := Obj.mk Value.none none (Data.func (FuncData.mk (Str.ofString "_make") (Str.ofString "Match._make") (Arguments.mk [] [Arg.mk (Str.ofString "cls") none (Pos.mk 34 14 34 17), Arg.mk (Str.ofString "iterable") none (Pos.mk 34 19 34 27)] none [] [] none []) (FuncBody.stmts bd3x5) (Scope.mk ScopeKind.function [(Str.ofString "cls", NameKind.local), (Str.ofString "iterable", NameKind.local), (Str.ofString "result", NameKind.local), (Str.ofString "tuple", NameKind.globalImplicit), (Str.ofString "len", NameKind.globalImplicit), (Str.ofString "TypeError", NameKind.globalImplicit)] false false []) 0 [] Value.none Value.none Value.none Value.none none Value.none Value.none 0)) #[]
noncomputable def oB_88 (P : Params) : Obj := Obj.mk (Value.type "code") none (Data.fields #[Value.str (Str.ofString "_make") 285, Value.str (Str.ofString "Match._make") 286, Value.str (Str.ofString "/claim/cut.py") 287, Value.int 33 0, Value.int 2 0, Value.int 0 0, Value.int 0 0, Value.int 3 0, Value.ref 83, Value.bool true, Value.int 181 0, Value.ref 84, Value.none, Value.ref 85, Value.ref 86, Value.ref 87, Value.int 291 0, Value.int 33 0, Value.str (Str.ofString "/claim/cut.py") 292]) #[]
noncomputable def oB_89 (P : Params) : Obj := Obj.mk (Value.type "function") none (Data.func (FuncData.mk (Str.ofString "_make") (Str.ofString "Match._make") (Arguments.mk [] [Arg.mk (Str.ofString "cls") none (Pos.mk 34 14 34 17), Arg.mk (Str.ofString "iterable") none (Pos.mk 34 19 34 27)] none [] [] none []) (FuncBody.stmts bd3x5) (Scope.mk ScopeKind.function [(Str.ofString "cls", NameKind.local), (Str.ofString "iterable", NameKind.local), (Str.ofString "result", NameKind.local), (Str.ofString "tuple", NameKind.globalImplicit), (Str.ofString "len", NameKind.globalImplicit), (Str.ofString "TypeError", NameKind.globalImplicit)] false false []) 3 [] Value.none Value.none (Value.str dc3x5 293) (Value.str (Str.ofString "cpy313.difflib") 194) (some 92) (Value.ref 88) Value.none 0)) #[]
noncomputable def oB_90 (P : Params) : Obj := Obj.mk (Value.type "dict") none (Data.dict #[DictEntry.mk (PyData.keyHash P (Str.ofString "__module__")) (Value.str (Str.ofString "__module__") 295) (Value.str (Str.ofString "cpy313.difflib") 194), DictEntry.mk (PyData.keyHash P (Str.ofString "__name__")) (Value.str (Str.ofString "__name__") 298) (Value.str (Str.ofString "_make") 297), DictEntry.mk (PyData.keyHash P (Str.ofString "__qualname__")) (Value.str (Str.ofString "__qualname__") 301) (Value.str (Str.ofString "Match._make") 300), DictEntry.mk (PyData.keyHash P (Str.ofString "__doc__")) (Value.str (Str.ofString "__doc__") 303) (Value.str dc3x5 293), DictEntry.mk (PyData.keyHash P (Str.ofString "__annotations__")) (Value.str (Str.ofString "__annotations__") 305) (Value.ref 92)] 5) #[]
noncomputable def oB_91 (P : Params) : Obj := Obj.mk (Value.type "classmethod") (some 90) (Data.fields #[Value.ref 89, Value.bool false]) #[]
noncomputable def oB_92 (P : Params) : Obj := Obj.mk (Value.type "dict") none (Data.dict #[]) #[]
noncomputable def oB_93 (P : Params) : Obj := Obj.mk (Value.type "tuple") none (Data.seq #[Value.ref 68]) #[]
noncomputable def oB_94 (P : Params) : Obj := Obj.mk (Value.type "tuple") none (Data.seq #[Value.str (Str.ofString "__class__") 310]) #[]
noncomputable def oB_95 (P : Params) : Obj := Obj.mk Value.none none (Data.fields #[]) #[]
noncomputable def oB_96 (P : Params) : Obj := Obj.mk (Value.type "tuple") none (Data.seq #[Value.str (Str.ofString "self") 311, Value.str (Str.ofString "kwds") 312, Value.str (Str.ofString "result") 313]) #[]
noncomputable def oB_97 (P : Params) : Obj := Obj.mk (Value.type "tuple") none (Data.seq #[]) #[]
noncomputable def oB_98 (P : Params) : Obj := Obj.mk Value.none none (Data.func (FuncData.mk (Str.ofString "_replace") (Str.ofString "Match._replace") (Arguments.mk [Arg.mk (Str.ofString "self") none (Pos.mk 41 17 41 21)] [] none [] [] (some (Arg.mk (Str.ofString "kwds") none (Pos.mk 41 28 41 32))) []) (FuncBody.stmts bd3x6) (Scope.mk ScopeKind.function [(Str.ofString "self", NameKind.local), (Str.ofString "kwds", NameKind.local), (Str.ofString "result", NameKind.local), (Str.ofString "__class__", NameKind.free), (Str.ofString "type", NameKind.globalImplicit), (Str.ofString "tuple", NameKind.globalImplicit), (Str.ofString "map", NameKind.globalImplicit), (Str.ofString "TypeError", NameKind.globalImplicit), (Str.ofString "list", NameKind.globalImplicit)] false false []) 0 [] Value.none Value.none Value.none Value.none none Value.none Value.none 0)) #[]
noncomputable def oB_99 (P : Params) : Obj := Obj.mk (Value.type "code") none (Data.fields #[Value.str (Str.ofString "_replace") 307, Value.str (Str.ofString "Match._replace") 308, Value.str (Str.ofString "/claim/cut.py") 309, Value.int 41 0, Value.int 1 0, Value.int 1 0, Value.int 0 0, Value.int 11 0, Value.ref 94, Value.bool true, Value.int 181 0, Value.ref 95, Value.none, Value.ref 96, Value.ref 97, Value.ref 98, Value.int 314 0, Value.int 41 0, Value.str (Str.ofString "/claim/cut.py") 315]) #[]
noncomputable def oB_100 (P : Params) : Obj := Obj.mk (Value.type "function") none (Data.func (FuncData.mk (Str.ofString "_replace") (Str.ofString "Match._replace") (Arguments.mk [Arg.mk (Str.ofString "self") none (Pos.mk 41 17 41 21)] [] none [] [] (some (Arg.mk (Str.ofString "kwds") none (Pos.mk 41 28 41 32))) []) (FuncBody.stmts bd3x6) (Scope.mk ScopeKind.function [(Str.ofString "self", NameKind.local), (Str.ofString "kwds", NameKind.local), (Str.ofString "result", NameKind.local), (Str.ofString "__class__", NameKind.free), (Str.ofString "type", NameKind.globalImplicit), (Str.ofString "tuple", NameKind.globalImplicit), (Str.ofString "map", NameKind.globalImplicit), (Str.ofString "TypeError", NameKind.globalImplicit), (Str.ofString "list", NameKind.globalImplicit)] false false []) 3 [(Str.ofString "__class__", 68)] Value.none Value.none (Value.str dc3x6 316) (Value.str (Str.ofString "cpy313.difflib") 194) none (Value.ref 99) (Value.ref 93) 0)) #[]
noncomputable def oB_101 (P : Params) : Obj := Obj.mk (Value.type "tuple") none (Data.seq #[]) #[]
noncomputable def oB_102 (P : Params) : Obj := Obj.mk Value.none none (Data.fields #[]) #[]
noncomputable def oB_103 (P : Params) : Obj := Obj.mk (Value.type "tuple") none (Data.seq #[Value.str (Str.ofString "self") 322]) #[]
noncomputable def oB_104 (P : Params) : Obj := Obj.mk (Value.type "tuple") none (Data.seq #[]) #[]
noncomputable def oB_105 (P : Params) : Obj := Obj.mk Value.none none (Data.func (FuncData.mk (Str.ofString "__repr__") (Str.ofString "Match.__repr__") (Arguments.mk [] [Arg.mk (Str.ofString "self") none (Pos.mk 52 17 52 21)] none [] [] none []) (FuncBody.stmts bd3x8) (Scope.mk ScopeKind.function [(Str.ofString "self", NameKind.local)] false false []) 0 [] Value.none Value.none Value.none Value.none none Value.none Value.none 0)) #[]
noncomputable def oB_106 (P : Params) : Obj := Obj.mk (Value.type "code") none (Data.fields #[Value.str (Str.ofString "__repr__") 319, Value.str (Str.ofString "Match.__repr__") 320, Value.str (Str.ofString "/claim/cut.py") 321, Value.int 52 0, Value.int 1 0, Value.int 0 0, Value.int 0 0, Value.int 3 0, Value.ref 101, Value.bool true, Value.int 181 0, Value.ref 102, Value.none, Value.ref 103, Value.ref 104, Value.ref 105, Value.int 323 0, Value.int 52 0, Value.str (Str.ofString "/claim/cut.py") 324]) #[]
noncomputable def oB_107 (P : Params) : Obj := Obj.mk (Value.type "function") none (Data.func (FuncData.mk (Str.ofString "__repr__") (Str.ofString "Match.__repr__") (Arguments.mk [] [Arg.mk (Str.ofString "self") none (Pos.mk 52 17 52 21)] none [] [] none []) (FuncBody.stmts bd3x8) (Scope.mk ScopeKind.function [(Str.ofString "self", NameKind.local)] false false []) 3 [] Value.none Value.none (Value.str dc3x8 325) (Value.str (Str.ofString "cpy313.difflib") 194) none (Value.ref 106) Value.none 0)) #[]
noncomputable def oB_108 (P : Params) : Obj := Obj.mk (Value.type "tuple") none (Data.seq #[]) #[]
noncomputable def oB_109 (P : Params) : Obj := Obj.mk Value.none none (Data.fields #[]) #[]
noncomputable def oB_110 (P : Params) : Obj := Obj.mk (Value.type "tuple") none (Data.seq #[Value.str (Str.ofString "self") 330]) #[]
noncomputable def oB_111 (P : Params) : Obj := Obj.mk (Value.type "tuple") none (Data.seq #[]) #[]
noncomputable def oB_112 (P : Params) : Obj := Obj.mk Value.none none (Data.func (FuncData.mk (Str.ofString "_asdict") (Str.ofString "Match._asdict") (Arguments.mk [] [Arg.mk (Str.ofString "self") none (Pos.mk 56 16 56 20)] none [] [] none []) (FuncBody.stmts bd3x9) (Scope.mk ScopeKind.function [(Str.ofString "self", NameKind.local), (Str.ofString "_wall", NameKind.globalImplicit)] false false []) 0 [] Value.none Value.none Value.none Value.none none Value.none Value.none 0)) #[]
noncomputable def oB_113 (P : Params) : Obj := Obj.mk (Value.type "code") none (Data.fields #[Value.str (Str.ofString "_asdict") 327, Value.str (Str.ofString "Match._asdict") 328, Value.str (Str.ofString "/claim/cut.py") 329, Value.int 56 0, Value.int 1 0, Value.int 0 0, Value.int 0 0, Value.int 3 0, Value.ref 108, Value.bool true, Value.int 181 0, Value.ref 109, Value.none, Value.ref 110, Value.ref 111, Value.ref 112, Value.int 331 0, Value.int 56 0, Value.str (Str.ofString "/claim/cut.py") 332]) #[]
noncomputable def oB_114 (P : Params) : Obj := Obj.mk (Value.type "function") none (Data.func (FuncData.mk (Str.ofString "_asdict") (Str.ofString "Match._asdict") (Arguments.mk [] [Arg.mk (Str.ofString "self") none (Pos.mk 56 16 56 20)] none [] [] none []) (FuncBody.stmts bd3x9) (Scope.mk ScopeKind.function [(Str.ofString "self", NameKind.local), (Str.ofString "_wall", NameKind.globalImplicit)] false false []) 3 [] Value.none Value.none Value.none (Value.str (Str.ofString "cpy313.difflib") 194) none (Value.ref 113) Value.none 0)) #[]
noncomputable def oB_115 (P : Params) : Obj := Obj.mk (Value.type "tuple") none (Data.seq #[]) #[]
noncomputable def oB_116 (P : Params) : Obj := Obj.mk Value.none none (Data.fields #[]) #[]
noncomputable def oB_117 (P : Params) : Obj := Obj.mk (Value.type "tuple") none (Data.seq #[Value.str (Str.ofString "self") 337]) #[]
noncomputable def oB_118 (P : Params) : Obj := Obj.mk (Value.type "tuple") none (Data.seq #[]) #[]
noncomputable def oB_119 (P : Params) : Obj := Obj.mk Value.none none (Data.func (FuncData.mk (Str.ofString "__getnewargs__") (Str.ofString "Match.__getnewargs__") (Arguments.mk [] [Arg.mk (Str.ofString "self") none (Pos.mk 59 23 59 27)] none [] [] none []) (FuncBody.stmts bd3x10) (Scope.mk ScopeKind.function [(Str.ofString "self", NameKind.local), (Str.ofString "tuple", NameKind.globalImplicit)] false false []) 0 [] Value.none Value.none Value.none Value.none none Value.none Value.none 0)) #[]
noncomputable def oB_120 (P : Params) : Obj := Obj.mk (Value.type "code") none (Data.fields #[Value.str (Str.ofString "__getnewargs__") 334, Value.str (Str.ofString "Match.__getnewargs__") 335, Value.str (Str.ofString "/claim/cut.py") 336, Value.int 59 0, Value.int 1 0, Value.int 0 0, Value.int 0 0, Value.int 3 0, Value.ref 115, Value.bool true, Value.int 181 0, Value.ref 116, Value.none, Value.ref 117, Value.ref 118, Value.ref 119, Value.int 338 0, Value.int 59 0, Value.str (Str.ofString "/claim/cut.py") 339]) #[]
noncomputable def oB_121 (P : Params) : Obj := Obj.mk (Value.type "function") none (Data.func (FuncData.mk (Str.ofString "__getnewargs__") (Str.ofString "Match.__getnewargs__") (Arguments.mk [] [Arg.mk (Str.ofString "self") none (Pos.mk 59 23 59 27)] none [] [] none []) (FuncBody.stmts bd3x10) (Scope.mk ScopeKind.function [(Str.ofString "self", NameKind.local), (Str.ofString "tuple", NameKind.globalImplicit)] false false []) 3 [] Value.none Value.none (Value.str dc3x10 340) (Value.str (Str.ofString "cpy313.difflib") 194) none (Value.ref 120) Value.none 0)) #[]
noncomputable def oB_122 (P : Params) : Obj := Obj.mk (Value.type "tuple") none (Data.seq #[Value.str (Str.ofString "a") 342, Value.str (Str.ofString "b") 343, Value.str (Str.ofString "size") 344]) #[]
noncomputable def oB_123 (P : Params) : Obj := Obj.mk (Value.type "dict") none (Data.dict #[DictEntry.mk (PyData.keyHash P (Str.ofString "index")) (Value.str (Str.ofString "index") 352) (Value.int 0 346), DictEntry.mk (PyData.keyHash P (Str.ofString "__doc__")) (Value.str (Str.ofString "__doc__") 354) (Value.str (Str.ofString "Alias for field number 0") 347)] 2) #[]
noncomputable def oB_124 (P : Params) : Obj := Obj.mk (Value.ref 60) (some 123) Data.plain #[]
noncomputable def oB_125 (P : Params) : Obj := Obj.mk (Value.type "frame") none (Data.dict #[DictEntry.mk (PyData.keyHash P (Str.ofString "self")) (Value.str (Str.ofString "self") 348) (Value.ref 124), DictEntry.mk (PyData.keyHash P (Str.ofString "index")) (Value.str (Str.ofString "index") 349) (Value.int 0 346), DictEntry.mk (PyData.keyHash P (Str.ofString "doc")) (Value.str (Str.ofString "doc") 350) (Value.str (Str.ofString "Alias for field number 0") 347)] 3) #[]
noncomputable def oB_126 (P : Params) : Obj := Obj.mk (Value.type "dict") none (Data.dict #[DictEntry.mk (PyData.keyHash P (Str.ofString "index")) (Value.str (Str.ofString "index") 362) (Value.int 1 356), DictEntry.mk (PyData.keyHash P (Str.ofString "__doc__")) (Value.str (Str.ofString "__doc__") 364) (Value.str (Str.ofString "Alias for field number 1") 357)] 2) #[]
noncomputable def oB_127 (P : Params) : Obj := Obj.mk (Value.ref 60) (some 126) Data.plain #[]
noncomputable def oB_128 (P : Params) : Obj := Obj.mk (Value.type "frame") none (Data.dict #[DictEntry.mk (PyData.keyHash P (Str.ofString "self")) (Value.str (Str.ofString "self") 358) (Value.ref 127), DictEntry.mk (PyData.keyHash P (Str.ofString "index")) (Value.str (Str.ofString "index") 359) (Value.int 1 356), DictEntry.mk (PyData.keyHash P (Str.ofString "doc")) (Value.str (Str.ofString "doc") 360) (Value.str (Str.ofString "Alias for field number 1") 357)] 3) #[]
noncomputable def oB_129 (P : Params) : Obj := Obj.mk (Value.type "dict") none (Data.dict #[DictEntry.mk (PyData.keyHash P (Str.ofString "index")) (Value.str (Str.ofString "index") 372) (Value.int 2 366), DictEntry.mk (PyData.keyHash P (Str.ofString "__doc__")) (Value.str (Str.ofString "__doc__") 374) (Value.str (Str.ofString "Alias for field number 2") 367)] 2) #[]
noncomputable def oB_130 (P : Params) : Obj := Obj.mk (Value.ref 60) (some 129) Data.plain #[]
noncomputable def oB_131 (P : Params) : Obj := Obj.mk (Value.type "frame") none (Data.dict #[DictEntry.mk (PyData.keyHash P (Str.ofString "self")) (Value.str (Str.ofString "self") 368) (Value.ref 130), DictEntry.mk (PyData.keyHash P (Str.ofString "index")) (Value.str (Str.ofString "index") 369) (Value.int 2 366), DictEntry.mk (PyData.keyHash P (Str.ofString "doc")) (Value.str (Str.ofString "doc") 370) (Value.str (Str.ofString "Alias for field number 2") 367)] 3) #[]
noncomputable def oB_132 (P : Params) : Obj := Obj.mk (Value.type "tuple") none (Data.seq #[]) #[]
noncomputable def oB_133 (P : Params) : Obj := Obj.mk (Value.type "list") none (Data.seq #[]) #[]
noncomputable def oB_134 (P : Params) : Obj := Obj.mk (Value.type "dict") none (Data.dict #[DictEntry.mk (PyData.keyHash P (Str.ofString "__module__")) (Value.str (Str.ofString "__module__") 260) (Value.str (Str.ofString "cpy313.difflib") 194), DictEntry.mk (PyData.keyHash P (Str.ofString "__firstlineno__")) (Value.str (Str.ofString "__firstlineno__") 264) (Value.int 23 263), DictEntry.mk (PyData.keyHash P (Str.ofString "__doc__")) (Value.str (Str.ofString "__doc__") 266) (Value.str (Str.ofString "Match(a, b, size)") 265), DictEntry.mk (PyData.keyHash P (Str.ofString "__slots__")) (Value.str (Str.ofString "__slots__") 268) (Value.ref 73), DictEntry.mk (PyData.keyHash P (Str.ofString "_fields")) (Value.str (Str.ofString "_fields") 272) (Value.ref 74), DictEntry.mk (PyData.keyHash P (Str.ofString "_field_defaults")) (Value.str (Str.ofString "_field_defaults") 273) (Value.ref 75), DictEntry.mk (PyData.keyHash P (Str.ofString "__new__")) (Value.str (Str.ofString "__new__") 284) (Value.ref 136), DictEntry.mk (PyData.keyHash P (Str.ofString "_make")) (Value.str (Str.ofString "_make") 306) (Value.ref 91), DictEntry.mk (PyData.keyHash P (Str.ofString "_replace")) (Value.str (Str.ofString "_replace") 317) (Value.ref 100), DictEntry.mk (PyData.keyHash P (Str.ofString "__replace__")) (Value.str (Str.ofString "__replace__") 318) (Value.ref 100), DictEntry.mk (PyData.keyHash P (Str.ofString "__repr__")) (Value.str (Str.ofString "__repr__") 326) (Value.ref 107), DictEntry.mk (PyData.keyHash P (Str.ofString "_asdict")) (Value.str (Str.ofString "_asdict") 333) (Value.ref 114), DictEntry.mk (PyData.keyHash P (Str.ofString "__getnewargs__")) (Value.str (Str.ofString "__getnewargs__") 341) (Value.ref 121), DictEntry.mk (PyData.keyHash P (Str.ofString "__match_args__")) (Value.str (Str.ofString "__match_args__") 345) (Value.ref 122), DictEntry.mk (PyData.keyHash P (Str.ofString "a")) (Value.str (Str.ofString "a") 355) (Value.ref 124), DictEntry.mk (PyData.keyHash P (Str.ofString "b")) (Value.str (Str.ofString "b") 365) (Value.ref 127), DictEntry.mk (PyData.keyHash P (Str.ofString "size")) (Value.str (Str.ofString "size") 375) (Value.ref 130), DictEntry.mk (PyData.keyHash P (Str.ofString "__static_attributes__")) (Value.str (Str.ofString "__static_attributes__") 376) (Value.ref 132)] 2) #[]
noncomputable def oB_135 (P : Params) : Obj := Obj.mk (Value.type "type") none (Data.cls (ClassData.mk (Str.ofString "Match") [Value.type "tuple"] [Value.ref 135, Value.type "tuple", Value.type "object"] 134 (Str.ofString "Match") false [] [] false none false)) #[some (Value.ref 65), none, some (Value.str (Str.ofString "Match") 253), some (Value.str (Str.ofString "Match") 261), some Value.none, some (Value.bool false)]
noncomputable def oB_136 (P : Params) : Obj := Obj.mk (Value.type "staticmethod") none (Data.fields #[Value.ref 82]) #[]
noncomputable def oB_137 (P : Params) : Obj := Obj.mk (Value.type "super") none (Data.fields #[Value.ref 135, Value.ref 135, Value.ref 135]) #[]
noncomputable def oB_138 (P : Params) : Obj := Obj.mk (Value.type "builtin_function_or_method") none (Data.fields #[Value.builtin "object.__init_subclass__", Value.ref 135]) #[]
noncomputable def oC_3 (P : Params) : Obj := Obj.mk (Value.type "dict") none (Data.dict #[DictEntry.mk (PyData.keyHash P (Str.ofString "__name__")) (Value.str (Str.ofString "__name__") 165) (Value.str (Str.ofString "cpy313.difflib") 194), DictEntry.mk (PyData.keyHash P (Str.ofString "__doc__")) (Value.str (Str.ofString "__doc__") 166) Value.none, DictEntry.mk (PyData.keyHash P (Str.ofString "__package__")) (Value.str (Str.ofString "__package__") 167) Value.none, DictEntry.mk (PyData.keyHash P (Str.ofString "__loader__")) (Value.str (Str.ofString "__loader__") 168) (Value.builtin "__main__.__loader__#opaque"), DictEntry.mk (PyData.keyHash P (Str.ofString "__spec__")) (Value.str (Str.ofString "__spec__") 169) Value.none, DictEntry.mk (PyData.keyHash P (Str.ofString "__annotations__")) (Value.str (Str.ofString "__annotations__") 170) (Value.ref 6), DictEntry.mk (PyData.keyHash P (Str.ofString "__builtins__")) (Value.str (Str.ofString "__builtins__") 171) (Value.ref 4), DictEntry.mk (PyData.keyHash P (Str.ofString "__file__")) (Value.str (Str.ofString "__file__") 173) (Value.str (Str.ofString "/claim/cut.py") 172), DictEntry.mk (PyData.keyHash P (Str.ofString "__cached__")) (Value.str (Str.ofString "__cached__") 174) Value.none, DictEntry.mk (PyData.keyHash P (Str.ofString "_wall")) (Value.str (Str.ofString "_wall") 193) (Value.ref 21), DictEntry.mk (PyData.keyHash P (Str.ofString "_tuplegetter")) (Value.str (Str.ofString "_tuplegetter") 252) (Value.ref 60), DictEntry.mk (PyData.keyHash P (Str.ofString "Match")) (Value.str (Str.ofString "Match") 380) (Value.ref 135), DictEntry.mk (PyData.keyHash P (Str.ofString "_calculate_ratio")) (Value.str (Str.ofString "_calculate_ratio") 388) (Value.ref 145), DictEntry.mk (PyData.keyHash P (Str.ofString "SequenceMatcher")) (Value.str (Str.ofString "SequenceMatcher") 574) (Value.ref 242)] 14) #[]
noncomputable def oC_12 (P : Params) : Obj := Obj.mk Value.none none (Data.fields #[Value.int 1 0, Value.int 0 0, Value.ref 20, Value.int 5 0, Value.int 0 0, Value.ref 27, Value.int 23 0, Value.int 0 0, Value.ref 71, Value.int 66 0, Value.int 0 0, Value.ref 144, Value.int 70 0, Value.int 0 0, Value.ref 151]) #[]
noncomputable def oC_139 (P : Params) : Obj := Obj.mk (Value.type "tuple") none (Data.seq #[]) #[]
noncomputable def oC_140 (P : Params) : Obj := Obj.mk Value.none none (Data.fields #[]) #[]
noncomputable def oC_141 (P : Params) : Obj := Obj.mk (Value.type "tuple") none (Data.seq #[Value.str (Str.ofString "matches") 384, Value.str (Str.ofString "length") 385]) #[]
noncomputable def oC_142 (P : Params) : Obj := Obj.mk (Value.type "tuple") none (Data.seq #[]) #[]
noncomputable def oC_143 (P : Params) : Obj := Obj.mk Value.none none (Data.func (FuncData.mk (Str.ofString "_calculate_ratio") (Str.ofString "_calculate_ratio") (Arguments.mk [] [Arg.mk (Str.ofString "matches") none (Pos.mk 66 21 66 28), Arg.mk (Str.ofString "length") none (Pos.mk 66 30 66 36)] none [] [] none []) (FuncBody.stmts bd4) (Scope.mk ScopeKind.function [(Str.ofString "matches", NameKind.local), (Str.ofString "length", NameKind.local)] false false []) 0 [] Value.none Value.none Value.none Value.none none Value.none Value.none 0)) #[]
noncomputable def oC_144 (P : Params) : Obj := Obj.mk (Value.type "code") none (Data.fields #[Value.str (Str.ofString "_calculate_ratio") 381, Value.str (Str.ofString "_calculate_ratio") 382, Value.str (Str.ofString "/claim/cut.py") 383, Value.int 66 0, Value.int 2 0, Value.int 0 0, Value.int 0 0, Value.int 3 0, Value.ref 139, Value.bool true, Value.int 181 0, Value.ref 140, Value.none, Value.ref 141, Value.ref 142, Value.ref 143, Value.int 386 0, Value.int 66 0, Value.str (Str.ofString "/claim/cut.py") 387]) #[]
noncomputable def oC_145 (P : Params) : Obj := Obj.mk (Value.type "function") none (Data.func (FuncData.mk (Str.ofString "_calculate_ratio") (Str.ofString "_calculate_ratio") (Arguments.mk [] [Arg.mk (Str.ofString "matches") none (Pos.mk 66 21 66 28), Arg.mk (Str.ofString "length") none (Pos.mk 66 30 66 36)] none [] [] none []) (FuncBody.stmts bd4) (Scope.mk ScopeKind.function [(Str.ofString "matches", NameKind.local), (Str.ofString "length", NameKind.local)] false false []) 3 [] Value.none Value.none Value.none (Value.str (Str.ofString "cpy313.difflib") 194) none (Value.ref 144) Value.none 0)) #[]
noncomputable def oC_146 (P : Params) : Obj := Obj.mk (Value.type "tuple") none (Data.seq #[]) #[]
noncomputable def oC_147 (P : Params) : Obj := Obj.mk (Value.type "builtin_function_or_method") none (Data.fields #[Value.builtin "type.__prepare__", Value.type "type"]) #[]
noncomputable def oC_148 (P : Params) : Obj := Obj.mk (Value.type "dict") none (Data.dict #[DictEntry.mk (PyData.keyHash P (Str.ofString "__module__")) (Value.str (Str.ofString "__module__") 396) (Value.str (Str.ofString "cpy313.difflib") 194), DictEntry.mk (PyData.keyHash P (Str.ofString "__qualname__")) (Value.str (Str.ofString "__qualname__") 398) (Value.str (Str.ofString "SequenceMatcher") 397), DictEntry.mk (PyData.keyHash P (Str.ofString "__firstlineno__")) (Value.str (Str.ofString "__firstlineno__") 400) (Value.int 70 399), DictEntry.mk (PyData.keyHash P (Str.ofString "__doc__")) (Value.str (Str.ofString "__doc__") 402) (Value.str dc5 401), DictEntry.mk (PyData.keyHash P (Str.ofString "__init__")) (Value.str (Str.ofString "__init__") 417) (Value.ref 160), DictEntry.mk (PyData.keyHash P (Str.ofString "set_seqs")) (Value.str (Str.ofString "set_seqs") 427) (Value.ref 167), DictEntry.mk (PyData.keyHash P (Str.ofString "set_seq1")) (Value.str (Str.ofString "set_seq1") 436) (Value.ref 174), DictEntry.mk (PyData.keyHash P (Str.ofString "set_seq2")) (Value.str (Str.ofString "set_seq2") 445) (Value.ref 181), DictEntry.mk (PyData.keyHash P (Str.ofString "_SequenceMatcher__chain_b")) (Value.str (Str.ofString "_SequenceMatcher__chain_b") 463) (Value.ref 188), DictEntry.mk (PyData.keyHash P (Str.ofString "find_longest_match")) (Value.str (Str.ofString "find_longest_match") 491) (Value.ref 196), DictEntry.mk (PyData.keyHash P (Str.ofString "get_matching_blocks")) (Value.str (Str.ofString "get_matching_blocks") 518) (Value.ref 203), DictEntry.mk (PyData.keyHash P (Str.ofString "get_opcodes")) (Value.str (Str.ofString "get_opcodes") 525) (Value.ref 210), DictEntry.mk (PyData.keyHash P (Str.ofString "get_grouped_opcodes")) (Value.str (Str.ofString "get_grouped_opcodes") 534) (Value.ref 218), DictEntry.mk (PyData.keyHash P (Str.ofString "ratio")) (Value.str (Str.ofString "ratio") 543) (Value.ref 225), DictEntry.mk (PyData.keyHash P (Str.ofString "quick_ratio")) (Value.str (Str.ofString "quick_ratio") 550) (Value.ref 232), DictEntry.mk (PyData.keyHash P (Str.ofString "real_quick_ratio")) (Value.str (Str.ofString "real_quick_ratio") 557) (Value.ref 239), DictEntry.mk (PyData.keyHash P (Str.ofString "__static_attributes__")) (Value.str (Str.ofString "__static_attributes__") 568) (Value.ref 240)] 17) #[]
noncomputable def oC_149 (P : Params) : Obj := Obj.mk (Value.type "tuple") none (Data.seq #[]) #[]
noncomputable def oC_150 (P : Params) : Obj := Obj.mk Value.none none (Data.fields #[Value.int 145 0, Value.int 4 0, Value.ref 159, Value.int 173 0, Value.int 4 0, Value.ref 166, Value.int 184 0, Value.int 4 0, Value.ref 173, Value.int 209 0, Value.int 4 0, Value.ref 180, Value.int 236 0, Value.int 4 0, Value.ref 187, Value.int 260 0, Value.int 4 0, Value.ref 195, Value.int 335 0, Value.int 4 0, Value.ref 202, Value.int 383 0, Value.int 4 0, Value.ref 209, Value.int 386 0, Value.int 4 0, Value.ref 217, Value.int 389 0, Value.int 4 0, Value.ref 224, Value.int 413 0, Value.int 4 0, Value.ref 231, Value.int 416 0, Value.int 4 0, Value.ref 238]) #[]
noncomputable def oC_151 (P : Params) : Obj := Obj.mk (Value.type "code") none (Data.fields #[Value.str (Str.ofString "SequenceMatcher") 391, Value.str (Str.ofString "SequenceMatcher") 392, Value.str (Str.ofString "/claim/cut.py") 393, Value.int 70 0, Value.int 0 0, Value.int 0 0, Value.int 0 0, Value.int 0 0, Value.ref 149, Value.bool false, Value.int 181 0, Value.ref 150, Value.none, Value.none, Value.none, Value.none, Value.int 394 0, Value.int 70 0, Value.str (Str.ofString "/claim/cut.py") 395]) #[]
noncomputable def oC_152 (P : Params) : Obj := Obj.mk (Value.type "frame") none Data.plain #[some (Value.ref 151), some (Value.ref 3), some (Value.ref 148), none, some (Value.str (Str.ofString "cpy313.difflib") 194), none, some (Value.ref 0)]
noncomputable def oC_153 (P : Params) : Obj := Obj.mk (Value.type "tuple") none (Data.seq #[Value.none, Value.str (Str.ofString "") 404, Value.str (Str.ofString "") 405, Value.bool true]) #[]
noncomputable def oC_154 (P : Params) : Obj := Obj.mk (Value.type "tuple") none (Data.seq #[]) #[]
noncomputable def oC_155 (P : Params) : Obj := Obj.mk Value.none none (Data.fields #[]) #[]
noncomputable def oC_156 (P : Params) : Obj := Obj.mk (Value.type "tuple") none (Data.seq #[Value.str (Str.ofString "self") 409, Value.str (Str.ofString "isjunk") 410, Value.str (Str.ofString "a") 411, Value.str (Str.ofString "b") 412, Value.str (Str.ofString "autojunk") 413]) #[]
noncomputable def oC_157 (P : Params) : Obj := Obj.mk (Value.type "tuple") none (Data.seq #[]) #[]
noncomputable def oC_158 (P : Params) : Obj := Obj.mk Value.none none (Data.func (FuncData.mk (Str.ofString "__init__") (Str.ofString "SequenceMatcher.__init__") (Arguments.mk [] [Arg.mk (Str.ofString "self") none (Pos.mk 145 17 145 21), Arg.mk (Str.ofString "isjunk") none (Pos.mk 145 23 145 29), Arg.mk (Str.ofString "a") none (Pos.mk 145 36 145 37), Arg.mk (Str.ofString "b") none (Pos.mk 145 42 145 43), Arg.mk (Str.ofString "autojunk") none (Pos.mk 145 48 145 56)] none [] [] none [Expr.Constant Const.none 0 (Pos.mk 145 30 145 34), Expr.Constant (Const.str (Str.ofString "")) 0 (Pos.mk 145 38 145 40), Expr.Constant (Const.str (Str.ofString "")) 0 (Pos.mk 145 44 145 46), Expr.Constant (Const.bool true) 0 (Pos.mk 145 57 145 61)]) (FuncBody.stmts bd5x1) (Scope.mk ScopeKind.function [(Str.ofString "self", NameKind.local), (Str.ofString "isjunk", NameKind.local), (Str.ofString "a", NameKind.local), (Str.ofString "b", NameKind.local), (Str.ofString "autojunk", NameKind.local)] false false []) 0 [] Value.none Value.none Value.none Value.none none Value.none Value.none 0)) #[]
noncomputable def oC_159 (P : Params) : Obj := Obj.mk (Value.type "code") none (Data.fields #[Value.str (Str.ofString "__init__") 406, Value.str (Str.ofString "SequenceMatcher.__init__") 407, Value.str (Str.ofString "/claim/cut.py") 408, Value.int 145 0, Value.int 5 0, Value.int 0 0, Value.int 0 0, Value.int 3 0, Value.ref 154, Value.bool true, Value.int 181 0, Value.ref 155, Value.none, Value.ref 156, Value.ref 157, Value.ref 158, Value.int 414 0, Value.int 145 0, Value.str (Str.ofString "/claim/cut.py") 415]) #[]
noncomputable def oC_160 (P : Params) : Obj := Obj.mk (Value.type "function") none (Data.func (FuncData.mk (Str.ofString "__init__") (Str.ofString "SequenceMatcher.__init__") (Arguments.mk [] [Arg.mk (Str.ofString "self") none (Pos.mk 145 17 145 21), Arg.mk (Str.ofString "isjunk") none (Pos.mk 145 23 145 29), Arg.mk (Str.ofString "a") none (Pos.mk 145 36 145 37), Arg.mk (Str.ofString "b") none (Pos.mk 145 42 145 43), Arg.mk (Str.ofString "autojunk") none (Pos.mk 145 48 145 56)] none [] [] none [Expr.Constant Const.none 0 (Pos.mk 145 30 145 34), Expr.Constant (Const.str (Str.ofString "")) 0 (Pos.mk 145 38 145 40), Expr.Constant (Const.str (Str.ofString "")) 0 (Pos.mk 145 44 145 46), Expr.Constant (Const.bool true) 0 (Pos.mk 145 57 145 61)]) (FuncBody.stmts bd5x1) (Scope.mk ScopeKind.function [(Str.ofString "self", NameKind.local), (Str.ofString "isjunk", NameKind.local), (Str.ofString "a", NameKind.local), (Str.ofString "b", NameKind.local), (Str.ofString "autojunk", NameKind.local)] false false []) 3 [] (Value.ref 153) Value.none (Value.str dc5x1 416) (Value.str (Str.ofString "cpy313.difflib") 194) none (Value.ref 159) Value.none 0)) #[]
noncomputable def oC_161 (P : Params) : Obj := Obj.mk (Value.type "tuple") none (Data.seq #[]) #[]
noncomputable def oC_162 (P : Params) : Obj := Obj.mk Value.none none (Data.fields #[]) #[]
noncomputable def oC_163 (P : Params) : Obj := Obj.mk (Value.type "tuple") none (Data.seq #[Value.str (Str.ofString "self") 421, Value.str (Str.ofString "a") 422, Value.str (Str.ofString "b") 423]) #[]
noncomputable def oC_164 (P : Params) : Obj := Obj.mk (Value.type "tuple") none (Data.seq #[]) #[]
noncomputable def oC_165 (P : Params) : Obj := Obj.mk Value.none none (Data.func (FuncData.mk (Str.ofString "set_seqs") (Str.ofString "SequenceMatcher.set_seqs") (Arguments.mk [] [Arg.mk (Str.ofString "self") none (Pos.mk 173 17 173 21), Arg.mk (Str.ofString "a") none (Pos.mk 173 23 173 24), Arg.mk (Str.ofString "b") none (Pos.mk 173 26 173 27)] none [] [] none []) (FuncBody.stmts bd5x2) (Scope.mk ScopeKind.function [(Str.ofString "self", NameKind.local), (Str.ofString "a", NameKind.local), (Str.ofString "b", NameKind.local)] false false []) 0 [] Value.none Value.none Value.none Value.none none Value.none Value.none 0)) #[]
noncomputable def oC_166 (P : Params) : Obj := Obj.mk (Value.type "code") none (Data.fields #[Value.str (Str.ofString "set_seqs") 418, Value.str (Str.ofString "SequenceMatcher.set_seqs") 419, Value.str (Str.ofString "/claim/cut.py") 420, Value.int 173 0, Value.int 3 0, Value.int 0 0, Value.int 0 0, Value.int 3 0, Value.ref 161, Value.bool true, Value.int 181 0, Value.ref 162, Value.none, Value.ref 163, Value.ref 164, Value.ref 165, Value.int 424 0, Value.int 173 0, Value.str (Str.ofString "/claim/cut.py") 425]) #[]
noncomputable def oC_167 (P : Params) : Obj := Obj.mk (Value.type "function") none (Data.func (FuncData.mk (Str.ofString "set_seqs") (Str.ofString "SequenceMatcher.set_seqs") (Arguments.mk [] [Arg.mk (Str.ofString "self") none (Pos.mk 173 17 173 21), Arg.mk (Str.ofString "a") none (Pos.mk 173 23 173 24), Arg.mk (Str.ofString "b") none (Pos.mk 173 26 173 27)] none [] [] none []) (FuncBody.stmts bd5x2) (Scope.mk ScopeKind.function [(Str.ofString "self", NameKind.local), (Str.ofString "a", NameKind.local), (Str.ofString "b", NameKind.local)] false false []) 3 [] Value.none Value.none (Value.str dc5x2 426) (Value.str (Str.ofString "cpy313.difflib") 194) none (Value.ref 166) Value.none 0)) #[]
noncomputable def oC_168 (P : Params) : Obj := Obj.mk (Value.type "tuple") none (Data.seq #[]) #[]
noncomputable def oC_169 (P : Params) : Obj := Obj.mk Value.none none (Data.fields #[]) #[]
noncomputable def oC_170 (P : Params) : Obj := Obj.mk (Value.type "tuple") none (Data.seq #[Value.str (Str.ofString "self") 431, Value.str (Str.ofString "a") 432]) #[]
noncomputable def oC_171 (P : Params) : Obj := Obj.mk (Value.type "tuple") none (Data.seq #[]) #[]
noncomputable def oC_172 (P : Params) : Obj := Obj.mk Value.none none (Data.func (FuncData.mk (Str.ofString "set_seq1") (Str.ofString "SequenceMatcher.set_seq1") (Arguments.mk [] [Arg.mk (Str.ofString "self") none (Pos.mk 184 17 184 21), Arg.mk (Str.ofString "a") none (Pos.mk 184 23 184 24)] none [] [] none []) (FuncBody.stmts bd5x3) (Scope.mk ScopeKind.function [(Str.ofString "self", NameKind.local), (Str.ofString "a", NameKind.local)] false false []) 0 [] Value.none Value.none Value.none Value.none none Value.none Value.none 0)) #[]
noncomputable def oC_173 (P : Params) : Obj := Obj.mk (Value.type "code") none (Data.fields #[Value.str (Str.ofString "set_seq1") 428, Value.str (Str.ofString "SequenceMatcher.set_seq1") 429, Value.str (Str.ofString "/claim/cut.py") 430, Value.int 184 0, Value.int 2 0, Value.int 0 0, Value.int 0 0, Value.int 3 0, Value.ref 168, Value.bool true, Value.int 181 0, Value.ref 169, Value.none, Value.ref 170, Value.ref 171, Value.ref 172, Value.int 433 0, Value.int 184 0, Value.str (Str.ofString "/claim/cut.py") 434]) #[]
noncomputable def oC_174 (P : Params) : Obj := Obj.mk (Value.type "function") none (Data.func (FuncData.mk (Str.ofString "set_seq1") (Str.ofString "SequenceMatcher.set_seq1") (Arguments.mk [] [Arg.mk (Str.ofString "self") none (Pos.mk 184 17 184 21), Arg.mk (Str.ofString "a") none (Pos.mk 184 23 184 24)] none [] [] none []) (FuncBody.stmts bd5x3) (Scope.mk ScopeKind.function [(Str.ofString "self", NameKind.local), (Str.ofString "a", NameKind.local)] false false []) 3 [] Value.none Value.none (Value.str dc5x3 435) (Value.str (Str.ofString "cpy313.difflib") 194) none (Value.ref 173) Value.none 0)) #[]
noncomputable def oC_175 (P : Params) : Obj := Obj.mk (Value.type "tuple") none (Data.seq #[]) #[]
noncomputable def oC_176 (P : Params) : Obj := Obj.mk Value.none none (Data.fields #[]) #[]
noncomputable def oC_177 (P : Params) : Obj := Obj.mk (Value.type "tuple") none (Data.seq #[Value.str (Str.ofString "self") 440, Value.str (Str.ofString "b") 441]) #[]
noncomputable def oC_178 (P : Params) : Obj := Obj.mk (Value.type "tuple") none (Data.seq #[]) #[]
noncomputable def oC_179 (P : Params) : Obj := Obj.mk Value.none none (Data.func (FuncData.mk (Str.ofString "set_seq2") (Str.ofString "SequenceMatcher.set_seq2") (Arguments.mk [] [Arg.mk (Str.ofString "self") none (Pos.mk 209 17 209 21), Arg.mk (Str.ofString "b") none (Pos.mk 209 23 209 24)] none [] [] none []) (FuncBody.stmts bd5x4) (Scope.mk ScopeKind.function [(Str.ofString "self", NameKind.local), (Str.ofString "b", NameKind.local)] false false []) 0 [] Value.none Value.none Value.none Value.none none Value.none Value.none 0)) #[]
noncomputable def oC_180 (P : Params) : Obj := Obj.mk (Value.type "code") none (Data.fields #[Value.str (Str.ofString "set_seq2") 437, Value.str (Str.ofString "SequenceMatcher.set_seq2") 438, Value.str (Str.ofString "/claim/cut.py") 439, Value.int 209 0, Value.int 2 0, Value.int 0 0, Value.int 0 0, Value.int 3 0, Value.ref 175, Value.bool true, Value.int 181 0, Value.ref 176, Value.none, Value.ref 177, Value.ref 178, Value.ref 179, Value.int 442 0, Value.int 209 0, Value.str (Str.ofString "/claim/cut.py") 443]) #[]
noncomputable def oC_181 (P : Params) : Obj := Obj.mk (Value.type "function") none (Data.func (FuncData.mk (Str.ofString "set_seq2") (Str.ofString "SequenceMatcher.set_seq2") (Arguments.mk [] [Arg.mk (Str.ofString "self") none (Pos.mk 209 17 209 21), Arg.mk (Str.ofString "b") none (Pos.mk 209 23 209 24)] none [] [] none []) (FuncBody.stmts bd5x4) (Scope.mk ScopeKind.function [(Str.ofString "self", NameKind.local), (Str.ofString "b", NameKind.local)] false false []) 3 [] Value.none Value.none (Value.str dc5x4 444) (Value.str (Str.ofString "cpy313.difflib") 194) none (Value.ref 180) Value.none 0)) #[]
noncomputable def oC_182 (P : Params) : Obj := Obj.mk (Value.type "tuple") none (Data.seq #[]) #[]
noncomputable def oC_183 (P : Params) : Obj := Obj.mk Value.none none (Data.fields #[]) #[]
noncomputable def oC_184 (P : Params) : Obj := Obj.mk (Value.type "tuple") none (Data.seq #[Value.str (Str.ofString "self") 449, Value.str (Str.ofString "b") 450, Value.str (Str.ofString "b2j") 451, Value.str (Str.ofString "i") 452, Value.str (Str.ofString "elt") 453, Value.str (Str.ofString "indices") 454, Value.str (Str.ofString "junk") 455, Value.str (Str.ofString "isjunk") 456, Value.str (Str.ofString "popular") 457, Value.str (Str.ofString "n") 458, Value.str (Str.ofString "ntest") 459, Value.str (Str.ofString "idxs") 460]) #[]
noncomputable def oC_185 (P : Params) : Obj := Obj.mk (Value.type "tuple") none (Data.seq #[]) #[]
noncomputable def oC_186 (P : Params) : Obj := Obj.mk Value.none none (Data.func (FuncData.mk (Str.ofString "__chain_b") (Str.ofString "SequenceMatcher.__chain_b") (Arguments.mk [] [Arg.mk (Str.ofString "self") none (Pos.mk 236 18 236 22)] none [] [] none []) (FuncBody.stmts bd5x5) (Scope.mk ScopeKind.function [(Str.ofString "self", NameKind.local), (Str.ofString "b", NameKind.local), (Str.ofString "b2j", NameKind.local), (Str.ofString "i", NameKind.local), (Str.ofString "elt", NameKind.local), (Str.ofString "indices", NameKind.local), (Str.ofString "junk", NameKind.local), (Str.ofString "isjunk", NameKind.local), (Str.ofString "popular", NameKind.local), (Str.ofString "n", NameKind.local), (Str.ofString "ntest", NameKind.local), (Str.ofString "idxs", NameKind.local), (Str.ofString "enumerate", NameKind.globalImplicit), (Str.ofString "set", NameKind.globalImplicit), (Str.ofString "len", NameKind.globalImplicit)] false false []) 0 [] Value.none Value.none Value.none Value.none none Value.none Value.none 0)) #[]
noncomputable def oC_187 (P : Params) : Obj := Obj.mk (Value.type "code") none (Data.fields #[Value.str (Str.ofString "__chain_b") 446, Value.str (Str.ofString "SequenceMatcher.__chain_b") 447, Value.str (Str.ofString "/claim/cut.py") 448, Value.int 236 0, Value.int 1 0, Value.int 0 0, Value.int 0 0, Value.int 3 0, Value.ref 182, Value.bool true, Value.int 181 0, Value.ref 183, Value.none, Value.ref 184, Value.ref 185, Value.ref 186, Value.int 461 0, Value.int 236 0, Value.str (Str.ofString "/claim/cut.py") 462]) #[]
noncomputable def oC_188 (P : Params) : Obj := Obj.mk (Value.type "function") none (Data.func (FuncData.mk (Str.ofString "__chain_b") (Str.ofString "SequenceMatcher.__chain_b") (Arguments.mk [] [Arg.mk (Str.ofString "self") none (Pos.mk 236 18 236 22)] none [] [] none []) (FuncBody.stmts bd5x5) (Scope.mk ScopeKind.function [(Str.ofString "self", NameKind.local), (Str.ofString "b", NameKind.local), (Str.ofString "b2j", NameKind.local), (Str.ofString "i", NameKind.local), (Str.ofString "elt", NameKind.local), (Str.ofString "indices", NameKind.local), (Str.ofString "junk", NameKind.local), (Str.ofString "isjunk", NameKind.local), (Str.ofString "popular", NameKind.local), (Str.ofString "n", NameKind.local), (Str.ofString "ntest", NameKind.local), (Str.ofString "idxs", NameKind.local), (Str.ofString "enumerate", NameKind.globalImplicit), (Str.ofString "set", NameKind.globalImplicit), (Str.ofString "len", NameKind.globalImplicit)] false false []) 3 [] Value.none Value.none Value.none (Value.str (Str.ofString "cpy313.difflib") 194) none (Value.ref 187) Value.none 0)) #[]
noncomputable def oC_189 (P : Params) : Obj := Obj.mk (Value.type "tuple") none (Data.seq #[Value.int 0 464, Value.none, Value.int 0 465, Value.none]) #[]
noncomputable def oC_190 (P : Params) : Obj := Obj.mk (Value.type "tuple") none (Data.seq #[]) #[]
noncomputable def oC_191 (P : Params) : Obj := Obj.mk Value.none none (Data.fields #[]) #[]
noncomputable def oC_192 (P : Params) : Obj := Obj.mk (Value.type "tuple") none (Data.seq #[Value.str (Str.ofString "self") 469, Value.str (Str.ofString "alo") 470, Value.str (Str.ofString "ahi") 471, Value.str (Str.ofString "blo") 472, Value.str (Str.ofString "bhi") 473, Value.str (Str.ofString "a") 474, Value.str (Str.ofString "b") 475, Value.str (Str.ofString "b2j") 476, Value.str (Str.ofString "isbjunk") 477, Value.str (Str.ofString "besti") 478, Value.str (Str.ofString "bestj") 479, Value.str (Str.ofString "bestsize") 480, Value.str (Str.ofString "j2len") 481, Value.str (Str.ofString "nothing") 482, Value.str (Str.ofString "i") 483, Value.str (Str.ofString "j2lenget") 484, Value.str (Str.ofString "newj2len") 485, Value.str (Str.ofString "j") 486, Value.str (Str.ofString "k") 487]) #[]
noncomputable def oC_193 (P : Params) : Obj := Obj.mk (Value.type "tuple") none (Data.seq #[]) #[]
noncomputable def oC_194 (P : Params) : Obj := Obj.mk Value.none none (Data.func (FuncData.mk (Str.ofString "find_longest_match") (Str.ofString "SequenceMatcher.find_longest_match") (Arguments.mk [] [Arg.mk (Str.ofString "self") none (Pos.mk 260 27 260 31), Arg.mk (Str.ofString "alo") none (Pos.mk 260 33 260 36), Arg.mk (Str.ofString "ahi") none (Pos.mk 260 40 260 43), Arg.mk (Str.ofString "blo") none (Pos.mk 260 50 260 53), Arg.mk (Str.ofString "bhi") none (Pos.mk 260 57 260 60)] none [] [] none [Expr.Constant (Const.int 0) 0 (Pos.mk 260 37 260 38), Expr.Constant Const.none 0 (Pos.mk 260 44 260 48), Expr.Constant (Const.int 0) 0 (Pos.mk 260 54 260 55), Expr.Constant Const.none 0 (Pos.mk 260 61 260 65)]) (FuncBody.stmts bd5x6) (Scope.mk ScopeKind.function [(Str.ofString "self", NameKind.local), (Str.ofString "alo", NameKind.local), (Str.ofString "ahi", NameKind.local), (Str.ofString "blo", NameKind.local), (Str.ofString "bhi", NameKind.local), (Str.ofString "a", NameKind.local), (Str.ofString "b", NameKind.local), (Str.ofString "b2j", NameKind.local), (Str.ofString "isbjunk", NameKind.local), (Str.ofString "besti", NameKind.local), (Str.ofString "bestj", NameKind.local), (Str.ofString "bestsize", NameKind.local), (Str.ofString "j2len", NameKind.local), (Str.ofString "nothing", NameKind.local), (Str.ofString "i", NameKind.local), (Str.ofString "j2lenget", NameKind.local), (Str.ofString "newj2len", NameKind.local), (Str.ofString "j", NameKind.local), (Str.ofString "k", NameKind.local), (Str.ofString "len", NameKind.globalImplicit), (Str.ofString "range", NameKind.globalImplicit), (Str.ofString "Match", NameKind.globalImplicit)] false false []) 0 [] Value.none Value.none Value.none Value.none none Value.none Value.none 0)) #[]
noncomputable def oC_195 (P : Params) : Obj := Obj.mk (Value.type "code") none (Data.fields #[Value.str (Str.ofString "find_longest_match") 466, Value.str (Str.ofString "SequenceMatcher.find_longest_match") 467, Value.str (Str.ofString "/claim/cut.py") 468, Value.int 260 0, Value.int 5 0, Value.int 0 0, Value.int 0 0, Value.int 3 0, Value.ref 190, Value.bool true, Value.int 181 0, Value.ref 191, Value.none, Value.ref 192, Value.ref 193, Value.ref 194, Value.int 488 0, Value.int 260 0, Value.str (Str.ofString "/claim/cut.py") 489]) #[]
noncomputable def oC_196 (P : Params) : Obj := Obj.mk (Value.type "function") none (Data.func (FuncData.mk (Str.ofString "find_longest_match") (Str.ofString "SequenceMatcher.find_longest_match") (Arguments.mk [] [Arg.mk (Str.ofString "self") none (Pos.mk 260 27 260 31), Arg.mk (Str.ofString "alo") none (Pos.mk 260 33 260 36), Arg.mk (Str.ofString "ahi") none (Pos.mk 260 40 260 43), Arg.mk (Str.ofString "blo") none (Pos.mk 260 50 260 53), Arg.mk (Str.ofString "bhi") none (Pos.mk 260 57 260 60)] none [] [] none [Expr.Constant (Const.int 0) 0 (Pos.mk 260 37 260 38), Expr.Constant Const.none 0 (Pos.mk 260 44 260 48), Expr.Constant (Const.int 0) 0 (Pos.mk 260 54 260 55), Expr.Constant Const.none 0 (Pos.mk 260 61 260 65)]) (FuncBody.stmts bd5x6) (Scope.mk ScopeKind.function [(Str.ofString "self", NameKind.local), (Str.ofString "alo", NameKind.local), (Str.ofString "ahi", NameKind.local), (Str.ofString "blo", NameKind.local), (Str.ofString "bhi", NameKind.local), (Str.ofString "a", NameKind.local), (Str.ofString "b", NameKind.local), (Str.ofString "b2j", NameKind.local), (Str.ofString "isbjunk", NameKind.local), (Str.ofString "besti", NameKind.local), (Str.ofString "bestj", NameKind.local), (Str.ofString "bestsize", NameKind.local), (Str.ofString "j2len", NameKind.local), (Str.ofString "nothing", NameKind.local), (Str.ofString "i", NameKind.local), (Str.ofString "j2lenget", NameKind.local), (Str.ofString "newj2len", NameKind.local), (Str.ofString "j", NameKind.local), (Str.ofString "k", NameKind.local), (Str.ofString "len", NameKind.globalImplicit), (Str.ofString "range", NameKind.globalImplicit), (Str.ofString "Match", NameKind.globalImplicit)] false false []) 3 [] (Value.ref 189) Value.none (Value.str dc5x6 490) (Value.str (Str.ofString "cpy313.difflib") 194) none (Value.ref 195) Value.none 0)) #[]
noncomputable def oC_197 (P : Params) : Obj := Obj.mk (Value.type "tuple") none (Data.seq #[]) #[]
noncomputable def oC_198 (P : Params) : Obj := Obj.mk Value.none none (Data.fields #[]) #[]
noncomputable def oC_199 (P : Params) : Obj := Obj.mk (Value.type "tuple") none (Data.seq #[Value.str (Str.ofString "self") 495, Value.str (Str.ofString "la") 496, Value.str (Str.ofString "lb") 497, Value.str (Str.ofString "queue") 498, Value.str (Str.ofString "matching_blocks") 499, Value.str (Str.ofString "alo") 500, Value.str (Str.ofString "ahi") 501, Value.str (Str.ofString "blo") 502, Value.str (Str.ofString "bhi") 503, Value.str (Str.ofString "i") 504, Value.str (Str.ofString "j") 505, Value.str (Str.ofString "k") 506, Value.str (Str.ofString "x") 507, Value.str (Str.ofString "i1") 508, Value.str (Str.ofString "j1") 509, Value.str (Str.ofString "k1") 510, Value.str (Str.ofString "non_adjacent") 511, Value.str (Str.ofString "i2") 512, Value.str (Str.ofString "j2") 513, Value.str (Str.ofString "k2") 514]) #[]
noncomputable def oC_200 (P : Params) : Obj := Obj.mk (Value.type "tuple") none (Data.seq #[]) #[]
noncomputable def oC_201 (P : Params) : Obj := Obj.mk Value.none none (Data.func (FuncData.mk (Str.ofString "get_matching_blocks") (Str.ofString "SequenceMatcher.get_matching_blocks") (Arguments.mk [] [Arg.mk (Str.ofString "self") none (Pos.mk 335 28 335 32)] none [] [] none []) (FuncBody.stmts bd5x7) (Scope.mk ScopeKind.function [(Str.ofString "self", NameKind.local), (Str.ofString "la", NameKind.local), (Str.ofString "lb", NameKind.local), (Str.ofString "queue", NameKind.local), (Str.ofString "matching_blocks", NameKind.local), (Str.ofString "alo", NameKind.local), (Str.ofString "ahi", NameKind.local), (Str.ofString "blo", NameKind.local), (Str.ofString "bhi", NameKind.local), (Str.ofString "i", NameKind.local), (Str.ofString "j", NameKind.local), (Str.ofString "k", NameKind.local), (Str.ofString "x", NameKind.local), (Str.ofString "i1", NameKind.local), (Str.ofString "j1", NameKind.local), (Str.ofString "k1", NameKind.local), (Str.ofString "non_adjacent", NameKind.local), (Str.ofString "i2", NameKind.local), (Str.ofString "j2", NameKind.local), (Str.ofString "k2", NameKind.local), (Str.ofString "len", NameKind.globalImplicit), (Str.ofString "list", NameKind.globalImplicit), (Str.ofString "map", NameKind.globalImplicit), (Str.ofString "Match", NameKind.globalImplicit)] false false []) 0 [] Value.none Value.none Value.none Value.none none Value.none Value.none 0)) #[]
noncomputable def oC_202 (P : Params) : Obj := Obj.mk (Value.type "code") none (Data.fields #[Value.str (Str.ofString "get_matching_blocks") 492, Value.str (Str.ofString "SequenceMatcher.get_matching_blocks") 493, Value.str (Str.ofString "/claim/cut.py") 494, Value.int 335 0, Value.int 1 0, Value.int 0 0, Value.int 0 0, Value.int 3 0, Value.ref 197, Value.bool true, Value.int 181 0, Value.ref 198, Value.none, Value.ref 199, Value.ref 200, Value.ref 201, Value.int 515 0, Value.int 335 0, Value.str (Str.ofString "/claim/cut.py") 516]) #[]
noncomputable def oC_203 (P : Params) : Obj := Obj.mk (Value.type "function") none (Data.func (FuncData.mk (Str.ofString "get_matching_blocks") (Str.ofString "SequenceMatcher.get_matching_blocks") (Arguments.mk [] [Arg.mk (Str.ofString "self") none (Pos.mk 335 28 335 32)] none [] [] none []) (FuncBody.stmts bd5x7) (Scope.mk ScopeKind.function [(Str.ofString "self", NameKind.local), (Str.ofString "la", NameKind.local), (Str.ofString "lb", NameKind.local), (Str.ofString "queue", NameKind.local), (Str.ofString "matching_blocks", NameKind.local), (Str.ofString "alo", NameKind.local), (Str.ofString "ahi", NameKind.local), (Str.ofString "blo", NameKind.local), (Str.ofString "bhi", NameKind.local), (Str.ofString "i", NameKind.local), (Str.ofString "j", NameKind.local), (Str.ofString "k", NameKind.local), (Str.ofString "x", NameKind.local), (Str.ofString "i1", NameKind.local), (Str.ofString "j1", NameKind.local), (Str.ofString "k1", NameKind.local), (Str.ofString "non_adjacent", NameKind.local), (Str.ofString "i2", NameKind.local), (Str.ofString "j2", NameKind.local), (Str.ofString "k2", NameKind.local), (Str.ofString "len", NameKind.globalImplicit), (Str.ofString "list", NameKind.globalImplicit), (Str.ofString "map", NameKind.globalImplicit), (Str.ofString "Match", NameKind.globalImplicit)] false false []) 3 [] Value.none Value.none (Value.str dc5x7 517) (Value.str (Str.ofString "cpy313.difflib") 194) none (Value.ref 202) Value.none 0)) #[]
noncomputable def oC_204 (P : Params) : Obj := Obj.mk (Value.type "tuple") none (Data.seq #[]) #[]
noncomputable def oC_205 (P : Params) : Obj := Obj.mk Value.none none (Data.fields #[]) #[]
noncomputable def oC_206 (P : Params) : Obj := Obj.mk (Value.type "tuple") none (Data.seq #[Value.str (Str.ofString "self") 522]) #[]
noncomputable def oC_207 (P : Params) : Obj := Obj.mk (Value.type "tuple") none (Data.seq #[]) #[]
noncomputable def oC_208 (P : Params) : Obj := Obj.mk Value.none none (Data.func (FuncData.mk (Str.ofString "get_opcodes") (Str.ofString "SequenceMatcher.get_opcodes") (Arguments.mk [] [Arg.mk (Str.ofString "self") none (Pos.mk 383 20 383 24)] none [] [] none []) (FuncBody.stmts bd5x8) (Scope.mk ScopeKind.function [(Str.ofString "self", NameKind.local), (Str.ofString "_wall", NameKind.globalImplicit)] false false []) 0 [] Value.none Value.none Value.none Value.none none Value.none Value.none 0)) #[]
noncomputable def oC_209 (P : Params) : Obj := Obj.mk (Value.type "code") none (Data.fields #[Value.str (Str.ofString "get_opcodes") 519, Value.str (Str.ofString "SequenceMatcher.get_opcodes") 520, Value.str (Str.ofString "/claim/cut.py") 521, Value.int 383 0, Value.int 1 0, Value.int 0 0, Value.int 0 0, Value.int 3 0, Value.ref 204, Value.bool true, Value.int 181 0, Value.ref 205, Value.none, Value.ref 206, Value.ref 207, Value.ref 208, Value.int 523 0, Value.int 383 0, Value.str (Str.ofString "/claim/cut.py") 524]) #[]
noncomputable def oC_210 (P : Params) : Obj := Obj.mk (Value.type "function") none (Data.func (FuncData.mk (Str.ofString "get_opcodes") (Str.ofString "SequenceMatcher.get_opcodes") (Arguments.mk [] [Arg.mk (Str.ofString "self") none (Pos.mk 383 20 383 24)] none [] [] none []) (FuncBody.stmts bd5x8) (Scope.mk ScopeKind.function [(Str.ofString "self", NameKind.local), (Str.ofString "_wall", NameKind.globalImplicit)] false false []) 3 [] Value.none Value.none Value.none (Value.str (Str.ofString "cpy313.difflib") 194) none (Value.ref 209) Value.none 0)) #[]
noncomputable def oC_211 (P : Params) : Obj := Obj.mk (Value.type "tuple") none (Data.seq #[Value.int 3 526]) #[]
noncomputable def oC_212 (P : Params) : Obj := Obj.mk (Value.type "tuple") none (Data.seq #[]) #[]
noncomputable def oC_213 (P : Params) : Obj := Obj.mk Value.none none (Data.fields #[]) #[]
noncomputable def oC_214 (P : Params) : Obj := Obj.mk (Value.type "tuple") none (Data.seq #[Value.str (Str.ofString "self") 530, Value.str (Str.ofString "n") 531]) #[]
noncomputable def oC_215 (P : Params) : Obj := Obj.mk (Value.type "tuple") none (Data.seq #[]) #[]
noncomputable def oC_216 (P : Params) : Obj := Obj.mk Value.none none (Data.func (FuncData.mk (Str.ofString "get_grouped_opcodes") (Str.ofString "SequenceMatcher.get_grouped_opcodes") (Arguments.mk [] [Arg.mk (Str.ofString "self") none (Pos.mk 386 28 386 32), Arg.mk (Str.ofString "n") none (Pos.mk 386 34 386 35)] none [] [] none [Expr.Constant (Const.int 3) 0 (Pos.mk 386 36 386 37)]) (FuncBody.stmts bd5x9) (Scope.mk ScopeKind.function [(Str.ofString "self", NameKind.local), (Str.ofString "n", NameKind.local), (Str.ofString "_wall", NameKind.globalImplicit)] false false []) 0 [] Value.none Value.none Value.none Value.none none Value.none Value.none 0)) #[]
noncomputable def oC_217 (P : Params) : Obj := Obj.mk (Value.type "code") none (Data.fields #[Value.str (Str.ofString "get_grouped_opcodes") 527, Value.str (Str.ofString "SequenceMatcher.get_grouped_opcodes") 528, Value.str (Str.ofString "/claim/cut.py") 529, Value.int 386 0, Value.int 2 0, Value.int 0 0, Value.int 0 0, Value.int 3 0, Value.ref 212, Value.bool true, Value.int 181 0, Value.ref 213, Value.none, Value.ref 214, Value.ref 215, Value.ref 216, Value.int 532 0, Value.int 386 0, Value.str (Str.ofString "/claim/cut.py") 533]) #[]
noncomputable def oC_218 (P : Params) : Obj := Obj.mk (Value.type "function") none (Data.func (FuncData.mk (Str.ofString "get_grouped_opcodes") (Str.ofString "SequenceMatcher.get_grouped_opcodes") (Arguments.mk [] [Arg.mk (Str.ofString "self") none (Pos.mk 386 28 386 32), Arg.mk (Str.ofString "n") none (Pos.mk 386 34 386 35)] none [] [] none [Expr.Constant (Const.int 3) 0 (Pos.mk 386 36 386 37)]) (FuncBody.stmts bd5x9) (Scope.mk ScopeKind.function [(Str.ofString "self", NameKind.local), (Str.ofString "n", NameKind.local), (Str.ofString "_wall", NameKind.globalImplicit)] false false []) 3 [] (Value.ref 211) Value.none Value.none (Value.str (Str.ofString "cpy313.difflib") 194) none (Value.ref 217) Value.none 0)) #[]
noncomputable def oC_219 (P : Params) : Obj := Obj.mk (Value.type "tuple") none (Data.seq #[]) #[]
noncomputable def oC_220 (P : Params) : Obj := Obj.mk Value.none none (Data.fields #[]) #[]
noncomputable def oC_221 (P : Params) : Obj := Obj.mk (Value.type "tuple") none (Data.seq #[Value.str (Str.ofString "self") 538, Value.str (Str.ofString "matches") 539]) #[]
noncomputable def oC_222 (P : Params) : Obj := Obj.mk (Value.type "tuple") none (Data.seq #[]) #[]
noncomputable def oC_223 (P : Params) : Obj := Obj.mk Value.none none (Data.func (FuncData.mk (Str.ofString "ratio") (Str.ofString "SequenceMatcher.ratio") (Arguments.mk [] [Arg.mk (Str.ofString "self") none (Pos.mk 389 14 389 18)] none [] [] none []) (FuncBody.stmts bd5x10) (Scope.mk ScopeKind.function [(Str.ofString "self", NameKind.local), (Str.ofString "matches", NameKind.local), (Str.ofString "sum", NameKind.globalImplicit), (Str.ofString "_calculate_ratio", NameKind.globalImplicit), (Str.ofString "len", NameKind.globalImplicit)] false false []) 0 [] Value.none Value.none Value.none Value.none none Value.none Value.none 0)) #[]
noncomputable def oC_224 (P : Params) : Obj := Obj.mk (Value.type "code") none (Data.fields #[Value.str (Str.ofString "ratio") 535, Value.str (Str.ofString "SequenceMatcher.ratio") 536, Value.str (Str.ofString "/claim/cut.py") 537, Value.int 389 0, Value.int 1 0, Value.int 0 0, Value.int 0 0, Value.int 3 0, Value.ref 219, Value.bool true, Value.int 181 0, Value.ref 220, Value.none, Value.ref 221, Value.ref 222, Value.ref 223, Value.int 540 0, Value.int 389 0, Value.str (Str.ofString "/claim/cut.py") 541]) #[]
noncomputable def oC_225 (P : Params) : Obj := Obj.mk (Value.type "function") none (Data.func (FuncData.mk (Str.ofString "ratio") (Str.ofString "SequenceMatcher.ratio") (Arguments.mk [] [Arg.mk (Str.ofString "self") none (Pos.mk 389 14 389 18)] none [] [] none []) (FuncBody.stmts bd5x10) (Scope.mk ScopeKind.function [(Str.ofString "self", NameKind.local), (Str.ofString "matches", NameKind.local), (Str.ofString "sum", NameKind.globalImplicit), (Str.ofString "_calculate_ratio", NameKind.globalImplicit), (Str.ofString "len", NameKind.globalImplicit)] false false []) 3 [] Value.none Value.none (Value.str dc5x10 542) (Value.str (Str.ofString "cpy313.difflib") 194) none (Value.ref 224) Value.none 0)) #[]
noncomputable def oC_226 (P : Params) : Obj := Obj.mk (Value.type "tuple") none (Data.seq #[]) #[]
noncomputable def oC_227 (P : Params) : Obj := Obj.mk Value.none none (Data.fields #[]) #[]
noncomputable def oC_228 (P : Params) : Obj := Obj.mk (Value.type "tuple") none (Data.seq #[Value.str (Str.ofString "self") 547]) #[]
noncomputable def oC_229 (P : Params) : Obj := Obj.mk (Value.type "tuple") none (Data.seq #[]) #[]
noncomputable def oC_230 (P : Params) : Obj := Obj.mk Value.none none (Data.func (FuncData.mk (Str.ofString "quick_ratio") (Str.ofString "SequenceMatcher.quick_ratio") (Arguments.mk [] [Arg.mk (Str.ofString "self") none (Pos.mk 413 20 413 24)] none [] [] none []) (FuncBody.stmts bd5x11) (Scope.mk ScopeKind.function [(Str.ofString "self", NameKind.local), (Str.ofString "_wall", NameKind.globalImplicit)] false false []) 0 [] Value.none Value.none Value.none Value.none none Value.none Value.none 0)) #[]
noncomputable def oC_231 (P : Params) : Obj := Obj.mk (Value.type "code") none (Data.fields #[Value.str (Str.ofString "quick_ratio") 544, Value.str (Str.ofString "SequenceMatcher.quick_ratio") 545, Value.str (Str.ofString "/claim/cut.py") 546, Value.int 413 0, Value.int 1 0, Value.int 0 0, Value.int 0 0, Value.int 3 0, Value.ref 226, Value.bool true, Value.int 181 0, Value.ref 227, Value.none, Value.ref 228, Value.ref 229, Value.ref 230, Value.int 548 0, Value.int 413 0, Value.str (Str.ofString "/claim/cut.py") 549]) #[]
noncomputable def oC_232 (P : Params) : Obj := Obj.mk (Value.type "function") none (Data.func (FuncData.mk (Str.ofString "quick_ratio") (Str.ofString "SequenceMatcher.quick_ratio") (Arguments.mk [] [Arg.mk (Str.ofString "self") none (Pos.mk 413 20 413 24)] none [] [] none []) (FuncBody.stmts bd5x11) (Scope.mk ScopeKind.function [(Str.ofString "self", NameKind.local), (Str.ofString "_wall", NameKind.globalImplicit)] false false []) 3 [] Value.none Value.none Value.none (Value.str (Str.ofString "cpy313.difflib") 194) none (Value.ref 231) Value.none 0)) #[]
noncomputable def oC_233 (P : Params) : Obj := Obj.mk (Value.type "tuple") none (Data.seq #[]) #[]
noncomputable def oC_234 (P : Params) : Obj := Obj.mk Value.none none (Data.fields #[]) #[]
noncomputable def oC_235 (P : Params) : Obj := Obj.mk (Value.type "tuple") none (Data.seq #[Value.str (Str.ofString "self") 554]) #[]
noncomputable def oC_236 (P : Params) : Obj := Obj.mk (Value.type "tuple") none (Data.seq #[]) #[]
noncomputable def oC_237 (P : Params) : Obj := Obj.mk Value.none none (Data.func (FuncData.mk (Str.ofString "real_quick_ratio") (Str.ofString "SequenceMatcher.real_quick_ratio") (Arguments.mk [] [Arg.mk (Str.ofString "self") none (Pos.mk 416 25 416 29)] none [] [] none []) (FuncBody.stmts bd5x12) (Scope.mk ScopeKind.function [(Str.ofString "self", NameKind.local), (Str.ofString "_wall", NameKind.globalImplicit)] false false []) 0 [] Value.none Value.none Value.none Value.none none Value.none Value.none 0)) #[]
noncomputable def oC_238 (P : Params) : Obj := Obj.mk (Value.type "code") none (Data.fields #[Value.str (Str.ofString "real_quick_ratio") 551, Value.str (Str.ofString "SequenceMatcher.real_quick_ratio") 552, Value.str (Str.ofString "/claim/cut.py") 553, Value.int 416 0, Value.int 1 0, Value.int 0 0, Value.int 0 0, Value.int 3 0, Value.ref 233, Value.bool true, Value.int 181 0, Value.ref 234, Value.none, Value.ref 235, Value.ref 236, Value.ref 237, Value.int 555 0, Value.int 416 0, Value.str (Str.ofString "/claim/cut.py") 556]) #[]
noncomputable def oC_239 (P : Params) : Obj := Obj.mk (Value.type "function") none (Data.func (FuncData.mk (Str.ofString "real_quick_ratio") (Str.ofString "SequenceMatcher.real_quick_ratio") (Arguments.mk [] [Arg.mk (Str.ofString "self") none (Pos.mk 416 25 416 29)] none [] [] none []) (FuncBody.stmts bd5x12) (Scope.mk ScopeKind.function [(Str.ofString "self", NameKind.local), (Str.ofString "_wall", NameKind.globalImplicit)] false false []) 3 [] Value.none Value.none Value.none (Value.str (Str.ofString "cpy313.difflib") 194) none (Value.ref 238) Value.none 0)) #[]
noncomputable def oC_240 (P : Params) : Obj := Obj.mk (Value.type "tuple") none (Data.seq #[Value.str (Str.ofString "a") 558, Value.str (Str.ofString "autojunk") 559, Value.str (Str.ofString "b") 560, Value.str (Str.ofString "b2j") 561, Value.str (Str.ofString "bjunk") 562, Value.str (Str.ofString "bpopular") 563, Value.str (Str.ofString "fullbcount") 564, Value.str (Str.ofString "isjunk") 565, Value.str (Str.ofString "matching_blocks") 566, Value.str (Str.ofString "opcodes") 567]) #[]
noncomputable def oC_241 (P : Params) : Obj := Obj.mk (Value.type "dict") none (Data.dict #[DictEntry.mk (PyData.keyHash P (Str.ofString "__module__")) (Value.str (Str.ofString "__module__") 396) (Value.str (Str.ofString "cpy313.difflib") 194), DictEntry.mk (PyData.keyHash P (Str.ofString "__firstlineno__")) (Value.str (Str.ofString "__firstlineno__") 400) (Value.int 70 399), DictEntry.mk (PyData.keyHash P (Str.ofString "__doc__")) (Value.str (Str.ofString "__doc__") 402) (Value.str dc5 401), DictEntry.mk (PyData.keyHash P (Str.ofString "__init__")) (Value.str (Str.ofString "__init__") 417) (Value.ref 160), DictEntry.mk (PyData.keyHash P (Str.ofString "set_seqs")) (Value.str (Str.ofString "set_seqs") 427) (Value.ref 167), DictEntry.mk (PyData.keyHash P (Str.ofString "set_seq1")) (Value.str (Str.ofString "set_seq1") 436) (Value.ref 174), DictEntry.mk (PyData.keyHash P (Str.ofString "set_seq2")) (Value.str (Str.ofString "set_seq2") 445) (Value.ref 181), DictEntry.mk (PyData.keyHash P (Str.ofString "_SequenceMatcher__chain_b")) (Value.str (Str.ofString "_SequenceMatcher__chain_b") 463) (Value.ref 188), DictEntry.mk (PyData.keyHash P (Str.ofString "find_longest_match")) (Value.str (Str.ofString "find_longest_match") 491) (Value.ref 196), DictEntry.mk (PyData.keyHash P (Str.ofString "get_matching_blocks")) (Value.str (Str.ofString "get_matching_blocks") 518) (Value.ref 203), DictEntry.mk (PyData.keyHash P (Str.ofString "get_opcodes")) (Value.str (Str.ofString "get_opcodes") 525) (Value.ref 210), DictEntry.mk (PyData.keyHash P (Str.ofString "get_grouped_opcodes")) (Value.str (Str.ofString "get_grouped_opcodes") 534) (Value.ref 218), DictEntry.mk (PyData.keyHash P (Str.ofString "ratio")) (Value.str (Str.ofString "ratio") 543) (Value.ref 225), DictEntry.mk (PyData.keyHash P (Str.ofString "quick_ratio")) (Value.str (Str.ofString "quick_ratio") 550) (Value.ref 232), DictEntry.mk (PyData.keyHash P (Str.ofString "real_quick_ratio")) (Value.str (Str.ofString "real_quick_ratio") 557) (Value.ref 239), DictEntry.mk (PyData.keyHash P (Str.ofString "__static_attributes__")) (Value.str (Str.ofString "__static_attributes__") 568) (Value.ref 240), DictEntry.mk (PyData.keyHash P (Str.ofString "__dict__")) (Value.str (Str.ofString "__dict__") 570) (Value.ref 243), DictEntry.mk (PyData.keyHash P (Str.ofString "__weakref__")) (Value.str (Str.ofString "__weakref__") 572) (Value.ref 244)] 3) #[]
noncomputable def oC_242 (P : Params) : Obj := Obj.mk (Value.type "type") none (Data.cls (ClassData.mk (Str.ofString "SequenceMatcher") [Value.type "object"] [Value.ref 242, Value.type "object"] 241 (Str.ofString "SequenceMatcher") true [] [] false none false)) #[none, none, some (Value.str (Str.ofString "SequenceMatcher") 389), some (Value.str (Str.ofString "SequenceMatcher") 397), some (Value.builtin "object.__new__"), some (Value.bool true)]
noncomputable def oC_243 (P : Params) : Obj := Obj.mk (Value.type "getset_descriptor") none (Data.fields #[Value.str (Str.ofString "__dict__") 569, Value.ref 242, Value.builtin "function.__dict__", Value.builtin "function.__dict__#set"]) #[]
noncomputable def oC_244 (P : Params) : Obj := Obj.mk (Value.type "getset_descriptor") none (Data.fields #[Value.str (Str.ofString "__weakref__") 571, Value.ref 242, Value.builtin "ExceptionGroup.__weakref__", Value.none]) #[]
noncomputable def oC_245 (P : Params) : Obj := Obj.mk (Value.type "super") none (Data.fields #[Value.ref 242, Value.ref 242, Value.ref 242]) #[]
noncomputable def oC_246 (P : Params) : Obj := Obj.mk (Value.type "builtin_function_or_method") none (Data.fields #[Value.builtin "object.__init_subclass__", Value.ref 242]) #[]
noncomputable def oD_3 (P : Params) : Obj := Obj.mk (Value.type "dict") none (Data.dict #[DictEntry.mk (PyData.keyHash P (Str.ofString "__name__")) (Value.str (Str.ofString "__name__") 165) (Value.str (Str.ofString "law_oy0507_01") 662), DictEntry.mk (PyData.keyHash P (Str.ofString "__doc__")) (Value.str (Str.ofString "__doc__") 166) Value.none, DictEntry.mk (PyData.keyHash P (Str.ofString "__package__")) (Value.str (Str.ofString "__package__") 167) Value.none, DictEntry.mk (PyData.keyHash P (Str.ofString "__loader__")) (Value.str (Str.ofString "__loader__") 168) (Value.builtin "__main__.__loader__#opaque"), DictEntry.mk (PyData.keyHash P (Str.ofString "__spec__")) (Value.str (Str.ofString "__spec__") 169) Value.none, DictEntry.mk (PyData.keyHash P (Str.ofString "__annotations__")) (Value.str (Str.ofString "__annotations__") 170) (Value.ref 6), DictEntry.mk (PyData.keyHash P (Str.ofString "__builtins__")) (Value.str (Str.ofString "__builtins__") 171) (Value.ref 4), DictEntry.mk (PyData.keyHash P (Str.ofString "__file__")) (Value.str (Str.ofString "__file__") 173) (Value.str (Str.ofString "/claim/cut.py") 172), DictEntry.mk (PyData.keyHash P (Str.ofString "__cached__")) (Value.str (Str.ofString "__cached__") 174) Value.none, DictEntry.mk (PyData.keyHash P (Str.ofString "_wall")) (Value.str (Str.ofString "_wall") 193) (Value.ref 21), DictEntry.mk (PyData.keyHash P (Str.ofString "_tuplegetter")) (Value.str (Str.ofString "_tuplegetter") 252) (Value.ref 60), DictEntry.mk (PyData.keyHash P (Str.ofString "Match")) (Value.str (Str.ofString "Match") 380) (Value.ref 135), DictEntry.mk (PyData.keyHash P (Str.ofString "_calculate_ratio")) (Value.str (Str.ofString "_calculate_ratio") 388) (Value.ref 145), DictEntry.mk (PyData.keyHash P (Str.ofString "SequenceMatcher")) (Value.str (Str.ofString "SequenceMatcher") 574) (Value.ref 242), DictEntry.mk (PyData.keyHash P (Str.ofString "S_IFMT")) (Value.str (Str.ofString "S_IFMT") 584) (Value.ref 253), DictEntry.mk (PyData.keyHash P (Str.ofString "S_IFDIR")) (Value.str (Str.ofString "S_IFDIR") 586) (Value.int 16384 585), DictEntry.mk (PyData.keyHash P (Str.ofString "S_IFCHR")) (Value.str (Str.ofString "S_IFCHR") 588) (Value.int 8192 587), DictEntry.mk (PyData.keyHash P (Str.ofString "S_IFBLK")) (Value.str (Str.ofString "S_IFBLK") 590) (Value.int 24576 589), DictEntry.mk (PyData.keyHash P (Str.ofString "S_IFREG")) (Value.str (Str.ofString "S_IFREG") 592) (Value.int 32768 591), DictEntry.mk (PyData.keyHash P (Str.ofString "S_IFIFO")) (Value.str (Str.ofString "S_IFIFO") 594) (Value.int 4096 593), DictEntry.mk (PyData.keyHash P (Str.ofString "S_IFLNK")) (Value.str (Str.ofString "S_IFLNK") 596) (Value.int 40960 595), DictEntry.mk (PyData.keyHash P (Str.ofString "S_IFSOCK")) (Value.str (Str.ofString "S_IFSOCK") 598) (Value.int 49152 597), DictEntry.mk (PyData.keyHash P (Str.ofString "S_ISUID")) (Value.str (Str.ofString "S_ISUID") 600) (Value.int 2048 599), DictEntry.mk (PyData.keyHash P (Str.ofString "S_ISGID")) (Value.str (Str.ofString "S_ISGID") 602) (Value.int 1024 601), DictEntry.mk (PyData.keyHash P (Str.ofString "S_ISVTX")) (Value.str (Str.ofString "S_ISVTX") 604) (Value.int 512 603), DictEntry.mk (PyData.keyHash P (Str.ofString "S_IRUSR")) (Value.str (Str.ofString "S_IRUSR") 606) (Value.int 256 605), DictEntry.mk (PyData.keyHash P (Str.ofString "S_IWUSR")) (Value.str (Str.ofString "S_IWUSR") 608) (Value.int 128 607), DictEntry.mk (PyData.keyHash P (Str.ofString "S_IXUSR")) (Value.str (Str.ofString "S_IXUSR") 610) (Value.int 64 609), DictEntry.mk (PyData.keyHash P (Str.ofString "S_IRGRP")) (Value.str (Str.ofString "S_IRGRP") 612) (Value.int 32 611), DictEntry.mk (PyData.keyHash P (Str.ofString "S_IWGRP")) (Value.str (Str.ofString "S_IWGRP") 614) (Value.int 16 613), DictEntry.mk (PyData.keyHash P (Str.ofString "S_IXGRP")) (Value.str (Str.ofString "S_IXGRP") 616) (Value.int 8 615), DictEntry.mk (PyData.keyHash P (Str.ofString "S_IROTH")) (Value.str (Str.ofString "S_IROTH") 618) (Value.int 4 617), DictEntry.mk (PyData.keyHash P (Str.ofString "S_IWOTH")) (Value.str (Str.ofString "S_IWOTH") 620) (Value.int 2 619), DictEntry.mk (PyData.keyHash P (Str.ofString "S_IXOTH")) (Value.str (Str.ofString "S_IXOTH") 622) (Value.int 1 621), DictEntry.mk (PyData.keyHash P (Str.ofString "_filemode_table")) (Value.str (Str.ofString "_filemode_table") 648) (Value.ref 286), DictEntry.mk (PyData.keyHash P (Str.ofString "filemode")) (Value.str (Str.ofString "filemode") 661) (Value.ref 293), DictEntry.mk (PyData.keyHash P (Str.ofString "_law_nine")) (Value.str (Str.ofString "_law_nine") 674) (Value.ref 300), DictEntry.mk (PyData.keyHash P (Str.ofString "_law_first")) (Value.str (Str.ofString "_law_first") 687) (Value.ref 307), DictEntry.mk (PyData.keyHash P (Str.ofString "_law_longest")) (Value.str (Str.ofString "_law_longest") 699) (Value.ref 314), DictEntry.mk (PyData.keyHash P (Str.ofString "_law_agree")) (Value.str (Str.ofString "_law_agree") 715) (Value.ref 321), DictEntry.mk (PyData.keyHash P (Str.ofString "law")) (Value.str (Str.ofString "law") 721) (Value.ref 326)] 41) #[]
noncomputable def oD_12 (P : Params) : Obj := Obj.mk Value.none none (Data.fields #[Value.int 1 0, Value.int 0 0, Value.ref 20, Value.int 5 0, Value.int 0 0, Value.ref 27, Value.int 23 0, Value.int 0 0, Value.ref 71, Value.int 66 0, Value.int 0 0, Value.ref 144, Value.int 70 0, Value.int 0 0, Value.ref 151, Value.int 419 0, Value.int 0 0, Value.ref 252, Value.int 444 0, Value.int 0 0, Value.ref 292, Value.int 463 0, Value.int 0 0, Value.ref 299, Value.int 472 0, Value.int 0 0, Value.ref 306, Value.int 481 0, Value.int 0 0, Value.ref 313, Value.int 488 0, Value.int 0 0, Value.ref 320, Value.int 497 0, Value.int 0 0, Value.ref 325]) #[]
noncomputable def oD_247 (P : Params) : Obj := Obj.mk (Value.type "tuple") none (Data.seq #[]) #[]
noncomputable def oD_248 (P : Params) : Obj := Obj.mk Value.none none (Data.fields #[]) #[]
noncomputable def oD_249 (P : Params) : Obj := Obj.mk (Value.type "tuple") none (Data.seq #[Value.str (Str.ofString "mode") 580]) #[]
noncomputable def oD_250 (P : Params) : Obj := Obj.mk (Value.type "tuple") none (Data.seq #[]) #[]
noncomputable def oD_251 (P : Params) : Obj := Obj.mk Value.none none (Data.func (FuncData.mk (Str.ofString "S_IFMT") (Str.ofString "S_IFMT") (Arguments.mk [] [Arg.mk (Str.ofString "mode") none (Pos.mk 419 11 419 15)] none [] [] none []) (FuncBody.stmts bd7) (Scope.mk ScopeKind.function [(Str.ofString "mode", NameKind.local)] false false []) 0 [] Value.none Value.none Value.none Value.none none Value.none Value.none 0)) #[]
noncomputable def oD_252 (P : Params) : Obj := Obj.mk (Value.type "code") none (Data.fields #[Value.str (Str.ofString "S_IFMT") 577, Value.str (Str.ofString "S_IFMT") 578, Value.str (Str.ofString "/claim/cut.py") 579, Value.int 419 0, Value.int 1 0, Value.int 0 0, Value.int 0 0, Value.int 3 0, Value.ref 247, Value.bool true, Value.int 181 0, Value.ref 248, Value.none, Value.ref 249, Value.ref 250, Value.ref 251, Value.int 581 0, Value.int 419 0, Value.str (Str.ofString "/claim/cut.py") 582]) #[]
noncomputable def oD_253 (P : Params) : Obj := Obj.mk (Value.type "function") none (Data.func (FuncData.mk (Str.ofString "S_IFMT") (Str.ofString "S_IFMT") (Arguments.mk [] [Arg.mk (Str.ofString "mode") none (Pos.mk 419 11 419 15)] none [] [] none []) (FuncBody.stmts bd7) (Scope.mk ScopeKind.function [(Str.ofString "mode", NameKind.local)] false false []) 3 [] Value.none Value.none (Value.str dc7 583) (Value.str (Str.ofString "cpy313.stat") 575) none (Value.ref 252) Value.none 0)) #[]
noncomputable def oD_254 (P : Params) : Obj := Obj.mk (Value.type "tuple") none (Data.seq #[Value.int 40960 595, Value.str (Str.ofString "l") 623]) #[]
noncomputable def oD_255 (P : Params) : Obj := Obj.mk (Value.type "tuple") none (Data.seq #[Value.int 49152 597, Value.str (Str.ofString "s") 624]) #[]
noncomputable def oD_256 (P : Params) : Obj := Obj.mk (Value.type "tuple") none (Data.seq #[Value.int 32768 591, Value.str (Str.ofString "-") 625]) #[]
noncomputable def oD_257 (P : Params) : Obj := Obj.mk (Value.type "tuple") none (Data.seq #[Value.int 24576 589, Value.str (Str.ofString "b") 626]) #[]
noncomputable def oD_258 (P : Params) : Obj := Obj.mk (Value.type "tuple") none (Data.seq #[Value.int 16384 585, Value.str (Str.ofString "d") 627]) #[]
noncomputable def oD_259 (P : Params) : Obj := Obj.mk (Value.type "tuple") none (Data.seq #[Value.int 8192 587, Value.str (Str.ofString "c") 628]) #[]
noncomputable def oD_260 (P : Params) : Obj := Obj.mk (Value.type "tuple") none (Data.seq #[Value.int 4096 593, Value.str (Str.ofString "p") 629]) #[]
noncomputable def oD_261 (P : Params) : Obj := Obj.mk (Value.type "tuple") none (Data.seq #[Value.ref 254, Value.ref 255, Value.ref 256, Value.ref 257, Value.ref 258, Value.ref 259, Value.ref 260]) #[]
noncomputable def oD_262 (P : Params) : Obj := Obj.mk (Value.type "tuple") none (Data.seq #[Value.int 256 605, Value.str (Str.ofString "r") 630]) #[]
noncomputable def oD_263 (P : Params) : Obj := Obj.mk (Value.type "tuple") none (Data.seq #[Value.ref 262]) #[]
noncomputable def oD_264 (P : Params) : Obj := Obj.mk (Value.type "tuple") none (Data.seq #[Value.int 128 607, Value.str (Str.ofString "w") 631]) #[]
noncomputable def oD_265 (P : Params) : Obj := Obj.mk (Value.type "tuple") none (Data.seq #[Value.ref 264]) #[]
noncomputable def oD_266 (P : Params) : Obj := Obj.mk (Value.type "tuple") none (Data.seq #[Value.int 2112 632, Value.str (Str.ofString "s") 633]) #[]
noncomputable def oD_267 (P : Params) : Obj := Obj.mk (Value.type "tuple") none (Data.seq #[Value.int 2048 599, Value.str (Str.ofString "S") 634]) #[]
noncomputable def oD_268 (P : Params) : Obj := Obj.mk (Value.type "tuple") none (Data.seq #[Value.int 64 609, Value.str (Str.ofString "x") 635]) #[]
noncomputable def oD_269 (P : Params) : Obj := Obj.mk (Value.type "tuple") none (Data.seq #[Value.ref 266, Value.ref 267, Value.ref 268]) #[]
noncomputable def oD_270 (P : Params) : Obj := Obj.mk (Value.type "tuple") none (Data.seq #[Value.int 32 611, Value.str (Str.ofString "r") 636]) #[]
noncomputable def oD_271 (P : Params) : Obj := Obj.mk (Value.type "tuple") none (Data.seq #[Value.ref 270]) #[]
noncomputable def oD_272 (P : Params) : Obj := Obj.mk (Value.type "tuple") none (Data.seq #[Value.int 16 613, Value.str (Str.ofString "w") 637]) #[]
noncomputable def oD_273 (P : Params) : Obj := Obj.mk (Value.type "tuple") none (Data.seq #[Value.ref 272]) #[]
noncomputable def oD_274 (P : Params) : Obj := Obj.mk (Value.type "tuple") none (Data.seq #[Value.int 1032 638, Value.str (Str.ofString "s") 639]) #[]
noncomputable def oD_275 (P : Params) : Obj := Obj.mk (Value.type "tuple") none (Data.seq #[Value.int 1024 601, Value.str (Str.ofString "S") 640]) #[]
noncomputable def oD_276 (P : Params) : Obj := Obj.mk (Value.type "tuple") none (Data.seq #[Value.int 8 615, Value.str (Str.ofString "x") 641]) #[]
noncomputable def oD_277 (P : Params) : Obj := Obj.mk (Value.type "tuple") none (Data.seq #[Value.ref 274, Value.ref 275, Value.ref 276]) #[]
noncomputable def oD_278 (P : Params) : Obj := Obj.mk (Value.type "tuple") none (Data.seq #[Value.int 4 617, Value.str (Str.ofString "r") 642]) #[]
noncomputable def oD_279 (P : Params) : Obj := Obj.mk (Value.type "tuple") none (Data.seq #[Value.ref 278]) #[]
noncomputable def oD_280 (P : Params) : Obj := Obj.mk (Value.type "tuple") none (Data.seq #[Value.int 2 619, Value.str (Str.ofString "w") 643]) #[]
noncomputable def oD_281 (P : Params) : Obj := Obj.mk (Value.type "tuple") none (Data.seq #[Value.ref 280]) #[]
noncomputable def oD_282 (P : Params) : Obj := Obj.mk (Value.type "tuple") none (Data.seq #[Value.int 513 644, Value.str (Str.ofString "t") 645]) #[]
noncomputable def oD_283 (P : Params) : Obj := Obj.mk (Value.type "tuple") none (Data.seq #[Value.int 512 603, Value.str (Str.ofString "T") 646]) #[]
noncomputable def oD_284 (P : Params) : Obj := Obj.mk (Value.type "tuple") none (Data.seq #[Value.int 1 621, Value.str (Str.ofString "x") 647]) #[]
noncomputable def oD_285 (P : Params) : Obj := Obj.mk (Value.type "tuple") none (Data.seq #[Value.ref 282, Value.ref 283, Value.ref 284]) #[]
noncomputable def oD_286 (P : Params) : Obj := Obj.mk (Value.type "tuple") none (Data.seq #[Value.ref 261, Value.ref 263, Value.ref 265, Value.ref 269, Value.ref 271, Value.ref 273, Value.ref 277, Value.ref 279, Value.ref 281, Value.ref 285]) #[]
noncomputable def oD_287 (P : Params) : Obj := Obj.mk (Value.type "tuple") none (Data.seq #[]) #[]
noncomputable def oD_288 (P : Params) : Obj := Obj.mk Value.none none (Data.fields #[]) #[]
noncomputable def oD_289 (P : Params) : Obj := Obj.mk (Value.type "tuple") none (Data.seq #[Value.str (Str.ofString "mode") 652, Value.str (Str.ofString "perm") 653, Value.str (Str.ofString "index") 654, Value.str (Str.ofString "table") 655, Value.str (Str.ofString "bit") 656, Value.str (Str.ofString "char") 657]) #[]
noncomputable def oD_290 (P : Params) : Obj := Obj.mk (Value.type "tuple") none (Data.seq #[]) #[]
noncomputable def oD_291 (P : Params) : Obj := Obj.mk Value.none none (Data.func (FuncData.mk (Str.ofString "filemode") (Str.ofString "filemode") (Arguments.mk [] [Arg.mk (Str.ofString "mode") none (Pos.mk 444 13 444 17)] none [] [] none []) (FuncBody.stmts bd28) (Scope.mk ScopeKind.function [(Str.ofString "mode", NameKind.local), (Str.ofString "perm", NameKind.local), (Str.ofString "index", NameKind.local), (Str.ofString "table", NameKind.local), (Str.ofString "bit", NameKind.local), (Str.ofString "char", NameKind.local), (Str.ofString "enumerate", NameKind.globalImplicit), (Str.ofString "_filemode_table", NameKind.globalImplicit), (Str.ofString "S_IFMT", NameKind.globalImplicit)] false false []) 0 [] Value.none Value.none Value.none Value.none none Value.none Value.none 0)) #[]
noncomputable def oD_292 (P : Params) : Obj := Obj.mk (Value.type "code") none (Data.fields #[Value.str (Str.ofString "filemode") 649, Value.str (Str.ofString "filemode") 650, Value.str (Str.ofString "/claim/cut.py") 651, Value.int 444 0, Value.int 1 0, Value.int 0 0, Value.int 0 0, Value.int 3 0, Value.ref 287, Value.bool true, Value.int 181 0, Value.ref 288, Value.none, Value.ref 289, Value.ref 290, Value.ref 291, Value.int 658 0, Value.int 444 0, Value.str (Str.ofString "/claim/cut.py") 659]) #[]
noncomputable def oD_293 (P : Params) : Obj := Obj.mk (Value.type "function") none (Data.func (FuncData.mk (Str.ofString "filemode") (Str.ofString "filemode") (Arguments.mk [] [Arg.mk (Str.ofString "mode") none (Pos.mk 444 13 444 17)] none [] [] none []) (FuncBody.stmts bd28) (Scope.mk ScopeKind.function [(Str.ofString "mode", NameKind.local), (Str.ofString "perm", NameKind.local), (Str.ofString "index", NameKind.local), (Str.ofString "table", NameKind.local), (Str.ofString "bit", NameKind.local), (Str.ofString "char", NameKind.local), (Str.ofString "enumerate", NameKind.globalImplicit), (Str.ofString "_filemode_table", NameKind.globalImplicit), (Str.ofString "S_IFMT", NameKind.globalImplicit)] false false []) 3 [] Value.none Value.none (Value.str dc28 660) (Value.str (Str.ofString "cpy313.stat") 575) none (Value.ref 292) Value.none 0)) #[]
noncomputable def oD_294 (P : Params) : Obj := Obj.mk (Value.type "tuple") none (Data.seq #[]) #[]
noncomputable def oD_295 (P : Params) : Obj := Obj.mk Value.none none (Data.fields #[]) #[]
noncomputable def oD_296 (P : Params) : Obj := Obj.mk (Value.type "tuple") none (Data.seq #[Value.str (Str.ofString "mode") 667, Value.str (Str.ofString "told") 668, Value.str (Str.ofString "k") 669, Value.str (Str.ofString "run") 670, Value.str (Str.ofString "above") 671]) #[]
noncomputable def oD_297 (P : Params) : Obj := Obj.mk (Value.type "tuple") none (Data.seq #[]) #[]
noncomputable def oD_298 (P : Params) : Obj := Obj.mk Value.none none (Data.func (FuncData.mk (Str.ofString "_law_nine") (Str.ofString "_law_nine") (Arguments.mk [] [Arg.mk (Str.ofString "mode") none (Pos.mk 463 14 463 18)] none [] [] none []) (FuncBody.stmts bd30) (Scope.mk ScopeKind.function [(Str.ofString "mode", NameKind.local), (Str.ofString "told", NameKind.local), (Str.ofString "k", NameKind.local), (Str.ofString "run", NameKind.local), (Str.ofString "above", NameKind.local)] false false []) 0 [] Value.none Value.none Value.none Value.none none Value.none Value.none 0)) #[]
noncomputable def oD_299 (P : Params) : Obj := Obj.mk (Value.type "code") none (Data.fields #[Value.str (Str.ofString "_law_nine") 664, Value.str (Str.ofString "_law_nine") 665, Value.str (Str.ofString "/claim/cut.py") 666, Value.int 463 0, Value.int 1 0, Value.int 0 0, Value.int 0 0, Value.int 3 0, Value.ref 294, Value.bool true, Value.int 181 0, Value.ref 295, Value.none, Value.ref 296, Value.ref 297, Value.ref 298, Value.int 672 0, Value.int 463 0, Value.str (Str.ofString "/claim/cut.py") 673]) #[]
noncomputable def oD_300 (P : Params) : Obj := Obj.mk (Value.type "function") none (Data.func (FuncData.mk (Str.ofString "_law_nine") (Str.ofString "_law_nine") (Arguments.mk [] [Arg.mk (Str.ofString "mode") none (Pos.mk 463 14 463 18)] none [] [] none []) (FuncBody.stmts bd30) (Scope.mk ScopeKind.function [(Str.ofString "mode", NameKind.local), (Str.ofString "told", NameKind.local), (Str.ofString "k", NameKind.local), (Str.ofString "run", NameKind.local), (Str.ofString "above", NameKind.local)] false false []) 3 [] Value.none Value.none Value.none (Value.str (Str.ofString "law_oy0507_01") 662) none (Value.ref 299) Value.none 0)) #[]
noncomputable def oD_301 (P : Params) : Obj := Obj.mk (Value.type "tuple") none (Data.seq #[]) #[]
noncomputable def oD_302 (P : Params) : Obj := Obj.mk Value.none none (Data.fields #[]) #[]
noncomputable def oD_303 (P : Params) : Obj := Obj.mk (Value.type "tuple") none (Data.seq #[Value.str (Str.ofString "left") 678, Value.str (Str.ofString "right") 679, Value.str (Str.ofString "junk") 680, Value.str (Str.ofString "size") 681, Value.str (Str.ofString "i") 682, Value.str (Str.ofString "piece") 683, Value.str (Str.ofString "j") 684]) #[]
noncomputable def oD_304 (P : Params) : Obj := Obj.mk (Value.type "tuple") none (Data.seq #[]) #[]
noncomputable def oD_305 (P : Params) : Obj := Obj.mk Value.none none (Data.func (FuncData.mk (Str.ofString "_law_first") (Str.ofString "_law_first") (Arguments.mk [] [Arg.mk (Str.ofString "left") none (Pos.mk 472 15 472 19), Arg.mk (Str.ofString "right") none (Pos.mk 472 21 472 26), Arg.mk (Str.ofString "junk") none (Pos.mk 472 28 472 32)] none [] [] none []) (FuncBody.stmts bd31) (Scope.mk ScopeKind.function [(Str.ofString "left", NameKind.local), (Str.ofString "right", NameKind.local), (Str.ofString "junk", NameKind.local), (Str.ofString "size", NameKind.local), (Str.ofString "i", NameKind.local), (Str.ofString "piece", NameKind.local), (Str.ofString "j", NameKind.local), (Str.ofString "range", NameKind.globalImplicit)] false false []) 0 [] Value.none Value.none Value.none Value.none none Value.none Value.none 0)) #[]
noncomputable def oD_306 (P : Params) : Obj := Obj.mk (Value.type "code") none (Data.fields #[Value.str (Str.ofString "_law_first") 675, Value.str (Str.ofString "_law_first") 676, Value.str (Str.ofString "/claim/cut.py") 677, Value.int 472 0, Value.int 3 0, Value.int 0 0, Value.int 0 0, Value.int 3 0, Value.ref 301, Value.bool true, Value.int 181 0, Value.ref 302, Value.none, Value.ref 303, Value.ref 304, Value.ref 305, Value.int 685 0, Value.int 472 0, Value.str (Str.ofString "/claim/cut.py") 686]) #[]
noncomputable def oD_307 (P : Params) : Obj := Obj.mk (Value.type "function") none (Data.func (FuncData.mk (Str.ofString "_law_first") (Str.ofString "_law_first") (Arguments.mk [] [Arg.mk (Str.ofString "left") none (Pos.mk 472 15 472 19), Arg.mk (Str.ofString "right") none (Pos.mk 472 21 472 26), Arg.mk (Str.ofString "junk") none (Pos.mk 472 28 472 32)] none [] [] none []) (FuncBody.stmts bd31) (Scope.mk ScopeKind.function [(Str.ofString "left", NameKind.local), (Str.ofString "right", NameKind.local), (Str.ofString "junk", NameKind.local), (Str.ofString "size", NameKind.local), (Str.ofString "i", NameKind.local), (Str.ofString "piece", NameKind.local), (Str.ofString "j", NameKind.local), (Str.ofString "range", NameKind.globalImplicit)] false false []) 3 [] Value.none Value.none Value.none (Value.str (Str.ofString "law_oy0507_01") 662) none (Value.ref 306) Value.none 0)) #[]
noncomputable def oD_308 (P : Params) : Obj := Obj.mk (Value.type "tuple") none (Data.seq #[]) #[]
noncomputable def oD_309 (P : Params) : Obj := Obj.mk Value.none none (Data.fields #[]) #[]
noncomputable def oD_310 (P : Params) : Obj := Obj.mk (Value.type "tuple") none (Data.seq #[Value.str (Str.ofString "left") 691, Value.str (Str.ofString "right") 692, Value.str (Str.ofString "junk") 693, Value.str (Str.ofString "i") 694, Value.str (Str.ofString "j") 695, Value.str (Str.ofString "size") 696]) #[]
noncomputable def oD_311 (P : Params) : Obj := Obj.mk (Value.type "tuple") none (Data.seq #[]) #[]
noncomputable def oD_312 (P : Params) : Obj := Obj.mk Value.none none (Data.func (FuncData.mk (Str.ofString "_law_longest") (Str.ofString "_law_longest") (Arguments.mk [] [Arg.mk (Str.ofString "left") none (Pos.mk 481 17 481 21), Arg.mk (Str.ofString "right") none (Pos.mk 481 23 481 28), Arg.mk (Str.ofString "junk") none (Pos.mk 481 30 481 34)] none [] [] none []) (FuncBody.stmts bd32) (Scope.mk ScopeKind.function [(Str.ofString "left", NameKind.local), (Str.ofString "right", NameKind.local), (Str.ofString "junk", NameKind.local), (Str.ofString "i", NameKind.local), (Str.ofString "j", NameKind.local), (Str.ofString "size", NameKind.local), (Str.ofString "_law_first", NameKind.globalImplicit)] false false []) 0 [] Value.none Value.none Value.none Value.none none Value.none Value.none 0)) #[]
noncomputable def oD_313 (P : Params) : Obj := Obj.mk (Value.type "code") none (Data.fields #[Value.str (Str.ofString "_law_longest") 688, Value.str (Str.ofString "_law_longest") 689, Value.str (Str.ofString "/claim/cut.py") 690, Value.int 481 0, Value.int 3 0, Value.int 0 0, Value.int 0 0, Value.int 3 0, Value.ref 308, Value.bool true, Value.int 181 0, Value.ref 309, Value.none, Value.ref 310, Value.ref 311, Value.ref 312, Value.int 697 0, Value.int 481 0, Value.str (Str.ofString "/claim/cut.py") 698]) #[]
noncomputable def oD_314 (P : Params) : Obj := Obj.mk (Value.type "function") none (Data.func (FuncData.mk (Str.ofString "_law_longest") (Str.ofString "_law_longest") (Arguments.mk [] [Arg.mk (Str.ofString "left") none (Pos.mk 481 17 481 21), Arg.mk (Str.ofString "right") none (Pos.mk 481 23 481 28), Arg.mk (Str.ofString "junk") none (Pos.mk 481 30 481 34)] none [] [] none []) (FuncBody.stmts bd32) (Scope.mk ScopeKind.function [(Str.ofString "left", NameKind.local), (Str.ofString "right", NameKind.local), (Str.ofString "junk", NameKind.local), (Str.ofString "i", NameKind.local), (Str.ofString "j", NameKind.local), (Str.ofString "size", NameKind.local), (Str.ofString "_law_first", NameKind.globalImplicit)] false false []) 3 [] Value.none Value.none Value.none (Value.str (Str.ofString "law_oy0507_01") 662) none (Value.ref 313) Value.none 0)) #[]
noncomputable def oD_315 (P : Params) : Obj := Obj.mk (Value.type "tuple") none (Data.seq #[]) #[]
noncomputable def oD_316 (P : Params) : Obj := Obj.mk Value.none none (Data.fields #[]) #[]
noncomputable def oD_317 (P : Params) : Obj := Obj.mk (Value.type "tuple") none (Data.seq #[Value.str (Str.ofString "first") 703, Value.str (Str.ofString "second") 704, Value.str (Str.ofString "junk") 705, Value.str (Str.ofString "matcher") 706, Value.str (Str.ofString "p") 707, Value.str (Str.ofString "q") 708, Value.str (Str.ofString "told") 709, Value.str (Str.ofString "i") 710, Value.str (Str.ofString "j") 711, Value.str (Str.ofString "size") 712]) #[]
noncomputable def oD_318 (P : Params) : Obj := Obj.mk (Value.type "tuple") none (Data.seq #[]) #[]
noncomputable def oD_319 (P : Params) : Obj := Obj.mk Value.none none (Data.func (FuncData.mk (Str.ofString "_law_agree") (Str.ofString "_law_agree") (Arguments.mk [] [Arg.mk (Str.ofString "first") none (Pos.mk 488 15 488 20), Arg.mk (Str.ofString "second") none (Pos.mk 488 22 488 28), Arg.mk (Str.ofString "junk") none (Pos.mk 488 30 488 34)] none [] [] none []) (FuncBody.stmts bd33) (Scope.mk ScopeKind.function [(Str.ofString "first", NameKind.local), (Str.ofString "second", NameKind.local), (Str.ofString "junk", NameKind.local), (Str.ofString "matcher", NameKind.local), (Str.ofString "p", NameKind.local), (Str.ofString "q", NameKind.local), (Str.ofString "told", NameKind.local), (Str.ofString "i", NameKind.local), (Str.ofString "j", NameKind.local), (Str.ofString "size", NameKind.local), (Str.ofString "SequenceMatcher", NameKind.globalImplicit), (Str.ofString "filemode", NameKind.globalImplicit), (Str.ofString "_law_longest", NameKind.globalImplicit), (Str.ofString "_law_nine", NameKind.globalImplicit)] false false []) 0 [] Value.none Value.none Value.none Value.none none Value.none Value.none 0)) #[]
noncomputable def oD_320 (P : Params) : Obj := Obj.mk (Value.type "code") none (Data.fields #[Value.str (Str.ofString "_law_agree") 700, Value.str (Str.ofString "_law_agree") 701, Value.str (Str.ofString "/claim/cut.py") 702, Value.int 488 0, Value.int 3 0, Value.int 0 0, Value.int 0 0, Value.int 3 0, Value.ref 315, Value.bool true, Value.int 181 0, Value.ref 316, Value.none, Value.ref 317, Value.ref 318, Value.ref 319, Value.int 713 0, Value.int 488 0, Value.str (Str.ofString "/claim/cut.py") 714]) #[]
noncomputable def oD_321 (P : Params) : Obj := Obj.mk (Value.type "function") none (Data.func (FuncData.mk (Str.ofString "_law_agree") (Str.ofString "_law_agree") (Arguments.mk [] [Arg.mk (Str.ofString "first") none (Pos.mk 488 15 488 20), Arg.mk (Str.ofString "second") none (Pos.mk 488 22 488 28), Arg.mk (Str.ofString "junk") none (Pos.mk 488 30 488 34)] none [] [] none []) (FuncBody.stmts bd33) (Scope.mk ScopeKind.function [(Str.ofString "first", NameKind.local), (Str.ofString "second", NameKind.local), (Str.ofString "junk", NameKind.local), (Str.ofString "matcher", NameKind.local), (Str.ofString "p", NameKind.local), (Str.ofString "q", NameKind.local), (Str.ofString "told", NameKind.local), (Str.ofString "i", NameKind.local), (Str.ofString "j", NameKind.local), (Str.ofString "size", NameKind.local), (Str.ofString "SequenceMatcher", NameKind.globalImplicit), (Str.ofString "filemode", NameKind.globalImplicit), (Str.ofString "_law_longest", NameKind.globalImplicit), (Str.ofString "_law_nine", NameKind.globalImplicit)] false false []) 3 [] Value.none Value.none Value.none (Value.str (Str.ofString "law_oy0507_01") 662) none (Value.ref 320) Value.none 0)) #[]
noncomputable def oD_322 (P : Params) : Obj := Obj.mk (Value.type "tuple") none (Data.seq #[]) #[]
noncomputable def oD_323 (P : Params) : Obj := Obj.mk Value.none none (Data.fields #[]) #[]
noncomputable def oD_324 (P : Params) : Obj := Obj.mk Value.none none (Data.func (FuncData.mk (Str.ofString "law") (Str.ofString "law") (Arguments.mk [] [Arg.mk (Str.ofString "script") none (Pos.mk 497 8 497 14)] none [] [] none []) (FuncBody.stmts bd34) (Scope.mk ScopeKind.function [(Str.ofString "script", NameKind.local), (Str.ofString "modes", NameKind.local), (Str.ofString "mode", NameKind.local), (Str.ofString "filemode", NameKind.globalImplicit), (Str.ofString "_law_nine", NameKind.globalImplicit), (Str.ofString "_law_agree", NameKind.globalImplicit)] false false [(Str.ofString "fast", Const.str (Str.ofString "script")), (Str.ofString "fast", Const.str (Str.ofString "x")), (Str.ofString "fast", Const.str (Str.ofString "modes")), (Str.ofString "fast", Const.str (Str.ofString "mode")), (Str.ofString "fast", Const.str (Str.ofString "code"))]) 0 [] Value.none Value.none Value.none Value.none none Value.none Value.none 0)) #[]
noncomputable def oD_325 (P : Params) : Obj := Obj.mk (Value.type "code") none (Data.fields #[Value.str (Str.ofString "law") 716, Value.str (Str.ofString "law") 717, Value.str (Str.ofString "/claim/cut.py") 718, Value.int 497 0, Value.int 1 0, Value.int 0 0, Value.int 0 0, Value.int 3 0, Value.ref 322, Value.bool true, Value.int 181 0, Value.ref 323, Value.none, Value.none, Value.none, Value.ref 324, Value.int 719 0, Value.int 497 0, Value.str (Str.ofString "/claim/cut.py") 720]) #[]
noncomputable def oD_326 (P : Params) : Obj := Obj.mk (Value.type "function") none (Data.func (FuncData.mk (Str.ofString "law") (Str.ofString "law") (Arguments.mk [] [Arg.mk (Str.ofString "script") none (Pos.mk 497 8 497 14)] none [] [] none []) (FuncBody.stmts bd34) (Scope.mk ScopeKind.function [(Str.ofString "script", NameKind.local), (Str.ofString "modes", NameKind.local), (Str.ofString "mode", NameKind.local), (Str.ofString "filemode", NameKind.globalImplicit), (Str.ofString "_law_nine", NameKind.globalImplicit), (Str.ofString "_law_agree", NameKind.globalImplicit)] false false [(Str.ofString "fast", Const.str (Str.ofString "script")), (Str.ofString "fast", Const.str (Str.ofString "x")), (Str.ofString "fast", Const.str (Str.ofString "modes")), (Str.ofString "fast", Const.str (Str.ofString "mode")), (Str.ofString "fast", Const.str (Str.ofString "code"))]) 3 [] Value.none Value.none Value.none (Value.str (Str.ofString "law_oy0507_01") 662) none (Value.ref 325) Value.none 0)) #[]
noncomputable def lf : Life := Life.mk [] [] [] 0 [] [] false #[] [] 0 false false false 0 [2000, 10, 10] false 0 true [] [] 0 false
noncomputable def tr0 (P : Params) : BT := (.node (boot_o_0 P) (.node (boot_o_1 P) (.node (boot_o_3 P) (.node (boot_o_7 P) .nil .nil) (.node (o0_11 P) .nil .nil)) (.node (boot_o_5 P) (.node (boot_o_9 P) .nil .nil) (.node (o0_13 P) .nil .nil))) (.node (boot_o_2 P) (.node (boot_o_4 P) (.node (boot_o_8 P) .nil .nil) (.node (o0_12 P) .nil .nil)) (.node (boot_o_6 P) (.node (boot_o_10 P) .nil .nil) (.node (o0_14 P) .nil .nil))))
noncomputable def ch0 (P : Params) : BT := (.node (boot_o_7 P) (.node (oA_15 P) (.node (oA_31 P) (.node (oA_63 P) .nil .nil) .nil) (.node (oA_47 P) .nil .nil)) (.node (oA_23 P) (.node (oA_39 P) .nil .nil) (.node (oA_55 P) .nil .nil)))
noncomputable def ch1 (P : Params) : BT := (.node (o0_11 P) (.node (oA_19 P) (.node (oA_35 P) .nil .nil) (.node (oA_51 P) .nil .nil)) (.node (oA_27 P) (.node (oA_43 P) .nil .nil) (.node (oA_59 P) .nil .nil)))
noncomputable def ch2 (P : Params) : BT := (.node (boot_o_9 P) (.node (oA_17 P) (.node (oA_33 P) .nil .nil) (.node (oA_49 P) .nil .nil)) (.node (oA_25 P) (.node (oA_41 P) .nil .nil) (.node (oA_57 P) .nil .nil)))
noncomputable def ch3 (P : Params) : BT := (.node (o0_13 P) (.node (oA_21 P) (.node (oA_37 P) .nil .nil) (.node (oA_53 P) .nil .nil)) (.node (oA_29 P) (.node (oA_45 P) .nil .nil) (.node (oA_61 P) .nil .nil)))
noncomputable def ch4 (P : Params) : BT := (.node (boot_o_8 P) (.node (oA_16 P) (.node (oA_32 P) (.node (oA_64 P) .nil .nil) .nil) (.node (oA_48 P) .nil .nil)) (.node (oA_24 P) (.node (oA_40 P) .nil .nil) (.node (oA_56 P) .nil .nil)))
noncomputable def ch5 (P : Params) : BT := (.node (oA_12 P) (.node (oA_20 P) (.node (oA_36 P) .nil .nil) (.node (oA_52 P) .nil .nil)) (.node (oA_28 P) (.node (oA_44 P) .nil .nil) (.node (oA_60 P) .nil .nil)))
noncomputable def ch6 (P : Params) : BT := (.node (boot_o_10 P) (.node (oA_18 P) (.node (oA_34 P) .nil .nil) (.node (oA_50 P) .nil .nil)) (.node (oA_26 P) (.node (oA_42 P) .nil .nil) (.node (oA_58 P) .nil .nil)))
noncomputable def ch7 (P : Params) : BT := (.node (o0_14 P) (.node (oA_22 P) (.node (oA_38 P) .nil .nil) (.node (oA_54 P) .nil .nil)) (.node (oA_30 P) (.node (oA_46 P) .nil .nil) (.node (oA_62 P) .nil .nil)))
noncomputable def trA (P : Params) : BT := (.node (boot_o_0 P) (.node (boot_o_1 P) (.node (oA_3 P) (ch0 P) (ch1 P)) (.node (boot_o_5 P) (ch2 P) (ch3 P))) (.node (boot_o_2 P) (.node (boot_o_4 P) (ch4 P) (ch5 P)) (.node (boot_o_6 P) (ch6 P) (ch7 P))))
noncomputable def ch8 (P : Params) : BT := (.node (boot_o_7 P) (.node (oA_15 P) (.node (oA_31 P) (.node (oA_63 P) (.node (oB_127 P) .nil .nil) .nil) (.node (oB_95 P) .nil .nil)) (.node (oA_47 P) (.node (oB_79 P) .nil .nil) (.node (oB_111 P) .nil .nil))) (.node (oA_23 P) (.node (oA_39 P) (.node (oB_71 P) (.node (oB_135 P) .nil .nil) .nil) (.node (oB_103 P) .nil .nil)) (.node (oA_55 P) (.node (oB_87 P) .nil .nil) (.node (oB_119 P) .nil .nil))))
noncomputable def ch9 (P : Params) : BT := (.node (o0_11 P) (.node (oA_19 P) (.node (oA_35 P) (.node (oB_67 P) (.node (oB_131 P) .nil .nil) .nil) (.node (oB_99 P) .nil .nil)) (.node (oA_51 P) (.node (oB_83 P) .nil .nil) (.node (oB_115 P) .nil .nil))) (.node (oA_27 P) (.node (oA_43 P) (.node (oB_75 P) .nil .nil) (.node (oB_107 P) .nil .nil)) (.node (oA_59 P) (.node (oB_91 P) .nil .nil) (.node (oB_123 P) .nil .nil))))
noncomputable def ch10 (P : Params) : BT := (.node (boot_o_9 P) (.node (oA_17 P) (.node (oA_33 P) (.node (oB_65 P) (.node (oB_129 P) .nil .nil) .nil) (.node (oB_97 P) .nil .nil)) (.node (oA_49 P) (.node (oB_81 P) .nil .nil) (.node (oB_113 P) .nil .nil))) (.node (oA_25 P) (.node (oA_41 P) (.node (oB_73 P) (.node (oB_137 P) .nil .nil) .nil) (.node (oB_105 P) .nil .nil)) (.node (oA_57 P) (.node (oB_89 P) .nil .nil) (.node (oB_121 P) .nil .nil))))
noncomputable def ch11 (P : Params) : BT := (.node (o0_13 P) (.node (oA_21 P) (.node (oA_37 P) (.node (oB_69 P) (.node (oB_133 P) .nil .nil) .nil) (.node (oB_101 P) .nil .nil)) (.node (oA_53 P) (.node (oB_85 P) .nil .nil) (.node (oB_117 P) .nil .nil))) (.node (oA_29 P) (.node (oA_45 P) (.node (oB_77 P) .nil .nil) (.node (oB_109 P) .nil .nil)) (.node (oA_61 P) (.node (oB_93 P) .nil .nil) (.node (oB_125 P) .nil .nil))))
noncomputable def ch12 (P : Params) : BT := (.node (boot_o_8 P) (.node (oA_16 P) (.node (oA_32 P) (.node (oA_64 P) (.node (oB_128 P) .nil .nil) .nil) (.node (oB_96 P) .nil .nil)) (.node (oA_48 P) (.node (oB_80 P) .nil .nil) (.node (oB_112 P) .nil .nil))) (.node (oA_24 P) (.node (oA_40 P) (.node (oB_72 P) (.node (oB_136 P) .nil .nil) .nil) (.node (oB_104 P) .nil .nil)) (.node (oA_56 P) (.node (oB_88 P) .nil .nil) (.node (oB_120 P) .nil .nil))))
noncomputable def ch13 (P : Params) : BT := (.node (oB_12 P) (.node (oA_20 P) (.node (oA_36 P) (.node (oB_68 P) (.node (oB_132 P) .nil .nil) .nil) (.node (oB_100 P) .nil .nil)) (.node (oA_52 P) (.node (oB_84 P) .nil .nil) (.node (oB_116 P) .nil .nil))) (.node (oA_28 P) (.node (oA_44 P) (.node (oB_76 P) .nil .nil) (.node (oB_108 P) .nil .nil)) (.node (oA_60 P) (.node (oB_92 P) .nil .nil) (.node (oB_124 P) .nil .nil))))
noncomputable def ch14 (P : Params) : BT := (.node (boot_o_10 P) (.node (oA_18 P) (.node (oA_34 P) (.node (oB_66 P) (.node (oB_130 P) .nil .nil) .nil) (.node (oB_98 P) .nil .nil)) (.node (oA_50 P) (.node (oB_82 P) .nil .nil) (.node (oB_114 P) .nil .nil))) (.node (oA_26 P) (.node (oA_42 P) (.node (oB_74 P) (.node (oB_138 P) .nil .nil) .nil) (.node (oB_106 P) .nil .nil)) (.node (oA_58 P) (.node (oB_90 P) .nil .nil) (.node (oB_122 P) .nil .nil))))
noncomputable def ch15 (P : Params) : BT := (.node (o0_14 P) (.node (oA_22 P) (.node (oA_38 P) (.node (oB_70 P) (.node (oB_134 P) .nil .nil) .nil) (.node (oB_102 P) .nil .nil)) (.node (oA_54 P) (.node (oB_86 P) .nil .nil) (.node (oB_118 P) .nil .nil))) (.node (oA_30 P) (.node (oA_46 P) (.node (oB_78 P) .nil .nil) (.node (oB_110 P) .nil .nil)) (.node (oA_62 P) (.node (oB_94 P) .nil .nil) (.node (oB_126 P) .nil .nil))))
noncomputable def trB (P : Params) : BT := (.node (boot_o_0 P) (.node (boot_o_1 P) (.node (oB_3 P) (ch8 P) (ch9 P)) (.node (boot_o_5 P) (ch10 P) (ch11 P))) (.node (boot_o_2 P) (.node (boot_o_4 P) (ch12 P) (ch13 P)) (.node (boot_o_6 P) (ch14 P) (ch15 P))))
noncomputable def ch16 (P : Params) : BT := (.node (oA_63 P) (.node (oB_127 P) .nil .nil) (.node (oC_191 P) .nil .nil))
noncomputable def ch17 (P : Params) : BT := (.node (oB_95 P) (.node (oC_159 P) .nil .nil) (.node (oC_223 P) .nil .nil))
noncomputable def ch18 (P : Params) : BT := (.node (oB_79 P) (.node (oC_143 P) .nil .nil) (.node (oC_207 P) .nil .nil))
noncomputable def ch19 (P : Params) : BT := (.node (oB_111 P) (.node (oC_175 P) .nil .nil) (.node (oC_239 P) .nil .nil))
noncomputable def ch20 (P : Params) : BT := (.node (oB_71 P) (.node (oB_135 P) .nil .nil) (.node (oC_199 P) .nil .nil))
noncomputable def ch21 (P : Params) : BT := (.node (oB_103 P) (.node (oC_167 P) .nil .nil) (.node (oC_231 P) .nil .nil))
noncomputable def ch22 (P : Params) : BT := (.node (oB_87 P) (.node (oC_151 P) .nil .nil) (.node (oC_215 P) .nil .nil))
noncomputable def ch23 (P : Params) : BT := (.node (boot_o_7 P) (.node (oA_15 P) (.node (oA_31 P) (ch16 P) (ch17 P)) (.node (oA_47 P) (ch18 P) (ch19 P))) (.node (oA_23 P) (.node (oA_39 P) (ch20 P) (ch21 P)) (.node (oA_55 P) (ch22 P) (.node (oB_119 P) (.node (oC_183 P) .nil .nil) .nil))))
noncomputable def ch24 (P : Params) : BT := (.node (oB_67 P) (.node (oB_131 P) .nil .nil) (.node (oC_195 P) .nil .nil))
noncomputable def ch25 (P : Params) : BT := (.node (oB_99 P) (.node (oC_163 P) .nil .nil) (.node (oC_227 P) .nil .nil))
noncomputable def ch26 (P : Params) : BT := (.node (oB_83 P) (.node (oC_147 P) .nil .nil) (.node (oC_211 P) .nil .nil))
noncomputable def ch27 (P : Params) : BT := (.node (oB_115 P) (.node (oC_179 P) .nil .nil) (.node (oC_243 P) .nil .nil))
noncomputable def ch28 (P : Params) : BT := (.node (oB_75 P) (.node (oC_139 P) .nil .nil) (.node (oC_203 P) .nil .nil))
noncomputable def ch29 (P : Params) : BT := (.node (oB_107 P) (.node (oC_171 P) .nil .nil) (.node (oC_235 P) .nil .nil))
noncomputable def ch30 (P : Params) : BT := (.node (oB_91 P) (.node (oC_155 P) .nil .nil) (.node (oC_219 P) .nil .nil))
noncomputable def ch31 (P : Params) : BT := (.node (o0_11 P) (.node (oA_19 P) (.node (oA_35 P) (ch24 P) (ch25 P)) (.node (oA_51 P) (ch26 P) (ch27 P))) (.node (oA_27 P) (.node (oA_43 P) (ch28 P) (ch29 P)) (.node (oA_59 P) (ch30 P) (.node (oB_123 P) (.node (oC_187 P) .nil .nil) .nil))))
noncomputable def ch32 (P : Params) : BT := (.node (oB_65 P) (.node (oB_129 P) .nil .nil) (.node (oC_193 P) .nil .nil))
noncomputable def ch33 (P : Params) : BT := (.node (oB_97 P) (.node (oC_161 P) .nil .nil) (.node (oC_225 P) .nil .nil))
noncomputable def ch34 (P : Params) : BT := (.node (oB_81 P) (.node (oC_145 P) .nil .nil) (.node (oC_209 P) .nil .nil))
noncomputable def ch35 (P : Params) : BT := (.node (oB_113 P) (.node (oC_177 P) .nil .nil) (.node (oC_241 P) .nil .nil))
noncomputable def ch36 (P : Params) : BT := (.node (oB_73 P) (.node (oB_137 P) .nil .nil) (.node (oC_201 P) .nil .nil))
noncomputable def ch37 (P : Params) : BT := (.node (oB_105 P) (.node (oC_169 P) .nil .nil) (.node (oC_233 P) .nil .nil))
noncomputable def ch38 (P : Params) : BT := (.node (oB_89 P) (.node (oC_153 P) .nil .nil) (.node (oC_217 P) .nil .nil))
noncomputable def ch39 (P : Params) : BT := (.node (boot_o_9 P) (.node (oA_17 P) (.node (oA_33 P) (ch32 P) (ch33 P)) (.node (oA_49 P) (ch34 P) (ch35 P))) (.node (oA_25 P) (.node (oA_41 P) (ch36 P) (ch37 P)) (.node (oA_57 P) (ch38 P) (.node (oB_121 P) (.node (oC_185 P) .nil .nil) .nil))))
noncomputable def ch40 (P : Params) : BT := (.node (oB_69 P) (.node (oB_133 P) .nil .nil) (.node (oC_197 P) .nil .nil))
noncomputable def ch41 (P : Params) : BT := (.node (oB_101 P) (.node (oC_165 P) .nil .nil) (.node (oC_229 P) .nil .nil))
noncomputable def ch42 (P : Params) : BT := (.node (oB_85 P) (.node (oC_149 P) .nil .nil) (.node (oC_213 P) .nil .nil))
noncomputable def ch43 (P : Params) : BT := (.node (oB_117 P) (.node (oC_181 P) .nil .nil) (.node (oC_245 P) .nil .nil))
noncomputable def ch44 (P : Params) : BT := (.node (oB_77 P) (.node (oC_141 P) .nil .nil) (.node (oC_205 P) .nil .nil))
noncomputable def ch45 (P : Params) : BT := (.node (oB_109 P) (.node (oC_173 P) .nil .nil) (.node (oC_237 P) .nil .nil))
noncomputable def ch46 (P : Params) : BT := (.node (oB_93 P) (.node (oC_157 P) .nil .nil) (.node (oC_221 P) .nil .nil))
noncomputable def ch47 (P : Params) : BT := (.node (o0_13 P) (.node (oA_21 P) (.node (oA_37 P) (ch40 P) (ch41 P)) (.node (oA_53 P) (ch42 P) (ch43 P))) (.node (oA_29 P) (.node (oA_45 P) (ch44 P) (ch45 P)) (.node (oA_61 P) (ch46 P) (.node (oB_125 P) (.node (oC_189 P) .nil .nil) .nil))))
noncomputable def ch48 (P : Params) : BT := (.node (oA_64 P) (.node (oB_128 P) .nil .nil) (.node (oC_192 P) .nil .nil))
noncomputable def ch49 (P : Params) : BT := (.node (oB_96 P) (.node (oC_160 P) .nil .nil) (.node (oC_224 P) .nil .nil))
noncomputable def ch50 (P : Params) : BT := (.node (oB_80 P) (.node (oC_144 P) .nil .nil) (.node (oC_208 P) .nil .nil))
noncomputable def ch51 (P : Params) : BT := (.node (oB_112 P) (.node (oC_176 P) .nil .nil) (.node (oC_240 P) .nil .nil))
noncomputable def ch52 (P : Params) : BT := (.node (oB_72 P) (.node (oB_136 P) .nil .nil) (.node (oC_200 P) .nil .nil))
noncomputable def ch53 (P : Params) : BT := (.node (oB_104 P) (.node (oC_168 P) .nil .nil) (.node (oC_232 P) .nil .nil))
noncomputable def ch54 (P : Params) : BT := (.node (oB_88 P) (.node (oC_152 P) .nil .nil) (.node (oC_216 P) .nil .nil))
noncomputable def ch55 (P : Params) : BT := (.node (boot_o_8 P) (.node (oA_16 P) (.node (oA_32 P) (ch48 P) (ch49 P)) (.node (oA_48 P) (ch50 P) (ch51 P))) (.node (oA_24 P) (.node (oA_40 P) (ch52 P) (ch53 P)) (.node (oA_56 P) (ch54 P) (.node (oB_120 P) (.node (oC_184 P) .nil .nil) .nil))))
noncomputable def ch56 (P : Params) : BT := (.node (oB_68 P) (.node (oB_132 P) .nil .nil) (.node (oC_196 P) .nil .nil))
noncomputable def ch57 (P : Params) : BT := (.node (oB_100 P) (.node (oC_164 P) .nil .nil) (.node (oC_228 P) .nil .nil))
noncomputable def ch58 (P : Params) : BT := (.node (oB_84 P) (.node (oC_148 P) .nil .nil) (.node (oC_212 P) .nil .nil))
noncomputable def ch59 (P : Params) : BT := (.node (oB_116 P) (.node (oC_180 P) .nil .nil) (.node (oC_244 P) .nil .nil))
noncomputable def ch60 (P : Params) : BT := (.node (oB_76 P) (.node (oC_140 P) .nil .nil) (.node (oC_204 P) .nil .nil))
noncomputable def ch61 (P : Params) : BT := (.node (oB_108 P) (.node (oC_172 P) .nil .nil) (.node (oC_236 P) .nil .nil))
noncomputable def ch62 (P : Params) : BT := (.node (oB_92 P) (.node (oC_156 P) .nil .nil) (.node (oC_220 P) .nil .nil))
noncomputable def ch63 (P : Params) : BT := (.node (oC_12 P) (.node (oA_20 P) (.node (oA_36 P) (ch56 P) (ch57 P)) (.node (oA_52 P) (ch58 P) (ch59 P))) (.node (oA_28 P) (.node (oA_44 P) (ch60 P) (ch61 P)) (.node (oA_60 P) (ch62 P) (.node (oB_124 P) (.node (oC_188 P) .nil .nil) .nil))))
noncomputable def ch64 (P : Params) : BT := (.node (oB_66 P) (.node (oB_130 P) .nil .nil) (.node (oC_194 P) .nil .nil))
noncomputable def ch65 (P : Params) : BT := (.node (oB_98 P) (.node (oC_162 P) .nil .nil) (.node (oC_226 P) .nil .nil))
noncomputable def ch66 (P : Params) : BT := (.node (oB_82 P) (.node (oC_146 P) .nil .nil) (.node (oC_210 P) .nil .nil))
noncomputable def ch67 (P : Params) : BT := (.node (oB_114 P) (.node (oC_178 P) .nil .nil) (.node (oC_242 P) .nil .nil))
noncomputable def ch68 (P : Params) : BT := (.node (oB_74 P) (.node (oB_138 P) .nil .nil) (.node (oC_202 P) .nil .nil))
noncomputable def ch69 (P : Params) : BT := (.node (oB_106 P) (.node (oC_170 P) .nil .nil) (.node (oC_234 P) .nil .nil))
noncomputable def ch70 (P : Params) : BT := (.node (oB_90 P) (.node (oC_154 P) .nil .nil) (.node (oC_218 P) .nil .nil))
noncomputable def ch71 (P : Params) : BT := (.node (boot_o_10 P) (.node (oA_18 P) (.node (oA_34 P) (ch64 P) (ch65 P)) (.node (oA_50 P) (ch66 P) (ch67 P))) (.node (oA_26 P) (.node (oA_42 P) (ch68 P) (ch69 P)) (.node (oA_58 P) (ch70 P) (.node (oB_122 P) (.node (oC_186 P) .nil .nil) .nil))))
noncomputable def ch72 (P : Params) : BT := (.node (oB_70 P) (.node (oB_134 P) .nil .nil) (.node (oC_198 P) .nil .nil))
noncomputable def ch73 (P : Params) : BT := (.node (oB_102 P) (.node (oC_166 P) .nil .nil) (.node (oC_230 P) .nil .nil))
noncomputable def ch74 (P : Params) : BT := (.node (oB_86 P) (.node (oC_150 P) .nil .nil) (.node (oC_214 P) .nil .nil))
noncomputable def ch75 (P : Params) : BT := (.node (oB_118 P) (.node (oC_182 P) .nil .nil) (.node (oC_246 P) .nil .nil))
noncomputable def ch76 (P : Params) : BT := (.node (oB_78 P) (.node (oC_142 P) .nil .nil) (.node (oC_206 P) .nil .nil))
noncomputable def ch77 (P : Params) : BT := (.node (oB_110 P) (.node (oC_174 P) .nil .nil) (.node (oC_238 P) .nil .nil))
noncomputable def ch78 (P : Params) : BT := (.node (oB_94 P) (.node (oC_158 P) .nil .nil) (.node (oC_222 P) .nil .nil))
noncomputable def ch79 (P : Params) : BT := (.node (o0_14 P) (.node (oA_22 P) (.node (oA_38 P) (ch72 P) (ch73 P)) (.node (oA_54 P) (ch74 P) (ch75 P))) (.node (oA_30 P) (.node (oA_46 P) (ch76 P) (ch77 P)) (.node (oA_62 P) (ch78 P) (.node (oB_126 P) (.node (oC_190 P) .nil .nil) .nil))))
noncomputable def trC (P : Params) : BT := (.node (boot_o_0 P) (.node (boot_o_1 P) (.node (oC_3 P) (ch23 P) (ch31 P)) (.node (boot_o_5 P) (ch39 P) (ch47 P))) (.node (boot_o_2 P) (.node (boot_o_4 P) (ch55 P) (ch63 P)) (.node (boot_o_6 P) (ch71 P) (ch79 P))))
noncomputable def ch80 (P : Params) : BT := (.node (oA_63 P) (.node (oB_127 P) (.node (oD_255 P) .nil .nil) .nil) (.node (oC_191 P) (.node (oD_319 P) .nil .nil) .nil))
noncomputable def ch81 (P : Params) : BT := (.node (oB_95 P) (.node (oC_159 P) (.node (oD_287 P) .nil .nil) .nil) (.node (oC_223 P) .nil .nil))
noncomputable def ch82 (P : Params) : BT := (.node (oB_79 P) (.node (oC_143 P) (.node (oD_271 P) .nil .nil) .nil) (.node (oC_207 P) .nil .nil))
noncomputable def ch83 (P : Params) : BT := (.node (oB_111 P) (.node (oC_175 P) (.node (oD_303 P) .nil .nil) .nil) (.node (oC_239 P) .nil .nil))
noncomputable def ch84 (P : Params) : BT := (.node (oB_71 P) (.node (oB_135 P) (.node (oD_263 P) .nil .nil) .nil) (.node (oC_199 P) .nil .nil))
noncomputable def ch85 (P : Params) : BT := (.node (oB_103 P) (.node (oC_167 P) (.node (oD_295 P) .nil .nil) .nil) (.node (oC_231 P) .nil .nil))
noncomputable def ch86 (P : Params) : BT := (.node (oB_87 P) (.node (oC_151 P) (.node (oD_279 P) .nil .nil) .nil) (.node (oC_215 P) .nil .nil))
noncomputable def ch87 (P : Params) : BT := (.node (oB_119 P) (.node (oC_183 P) (.node (oD_311 P) .nil .nil) .nil) (.node (oD_247 P) .nil .nil))
noncomputable def ch88 (P : Params) : BT := (.node (boot_o_7 P) (.node (oA_15 P) (.node (oA_31 P) (ch80 P) (ch81 P)) (.node (oA_47 P) (ch82 P) (ch83 P))) (.node (oA_23 P) (.node (oA_39 P) (ch84 P) (ch85 P)) (.node (oA_55 P) (ch86 P) (ch87 P))))
noncomputable def ch89 (P : Params) : BT := (.node (oB_67 P) (.node (oB_131 P) (.node (oD_259 P) .nil .nil) .nil) (.node (oC_195 P) (.node (oD_323 P) .nil .nil) .nil))
noncomputable def ch90 (P : Params) : BT := (.node (oB_99 P) (.node (oC_163 P) (.node (oD_291 P) .nil .nil) .nil) (.node (oC_227 P) .nil .nil))
noncomputable def ch91 (P : Params) : BT := (.node (oB_83 P) (.node (oC_147 P) (.node (oD_275 P) .nil .nil) .nil) (.node (oC_211 P) .nil .nil))
noncomputable def ch92 (P : Params) : BT := (.node (oB_115 P) (.node (oC_179 P) (.node (oD_307 P) .nil .nil) .nil) (.node (oC_243 P) .nil .nil))
noncomputable def ch93 (P : Params) : BT := (.node (oB_75 P) (.node (oC_139 P) (.node (oD_267 P) .nil .nil) .nil) (.node (oC_203 P) .nil .nil))
noncomputable def ch94 (P : Params) : BT := (.node (oB_107 P) (.node (oC_171 P) (.node (oD_299 P) .nil .nil) .nil) (.node (oC_235 P) .nil .nil))
noncomputable def ch95 (P : Params) : BT := (.node (oB_91 P) (.node (oC_155 P) (.node (oD_283 P) .nil .nil) .nil) (.node (oC_219 P) .nil .nil))
noncomputable def ch96 (P : Params) : BT := (.node (oB_123 P) (.node (oC_187 P) (.node (oD_315 P) .nil .nil) .nil) (.node (oD_251 P) .nil .nil))
noncomputable def ch97 (P : Params) : BT := (.node (o0_11 P) (.node (oA_19 P) (.node (oA_35 P) (ch89 P) (ch90 P)) (.node (oA_51 P) (ch91 P) (ch92 P))) (.node (oA_27 P) (.node (oA_43 P) (ch93 P) (ch94 P)) (.node (oA_59 P) (ch95 P) (ch96 P))))
noncomputable def ch98 (P : Params) : BT := (.node (oB_65 P) (.node (oB_129 P) (.node (oD_257 P) .nil .nil) .nil) (.node (oC_193 P) (.node (oD_321 P) .nil .nil) .nil))
noncomputable def ch99 (P : Params) : BT := (.node (oB_97 P) (.node (oC_161 P) (.node (oD_289 P) .nil .nil) .nil) (.node (oC_225 P) .nil .nil))
noncomputable def ch100 (P : Params) : BT := (.node (oB_81 P) (.node (oC_145 P) (.node (oD_273 P) .nil .nil) .nil) (.node (oC_209 P) .nil .nil))
noncomputable def ch101 (P : Params) : BT := (.node (oB_113 P) (.node (oC_177 P) (.node (oD_305 P) .nil .nil) .nil) (.node (oC_241 P) .nil .nil))
noncomputable def ch102 (P : Params) : BT := (.node (oB_73 P) (.node (oB_137 P) (.node (oD_265 P) .nil .nil) .nil) (.node (oC_201 P) .nil .nil))
noncomputable def ch103 (P : Params) : BT := (.node (oB_105 P) (.node (oC_169 P) (.node (oD_297 P) .nil .nil) .nil) (.node (oC_233 P) .nil .nil))
noncomputable def ch104 (P : Params) : BT := (.node (oB_89 P) (.node (oC_153 P) (.node (oD_281 P) .nil .nil) .nil) (.node (oC_217 P) .nil .nil))
noncomputable def ch105 (P : Params) : BT := (.node (oB_121 P) (.node (oC_185 P) (.node (oD_313 P) .nil .nil) .nil) (.node (oD_249 P) .nil .nil))
noncomputable def ch106 (P : Params) : BT := (.node (boot_o_9 P) (.node (oA_17 P) (.node (oA_33 P) (ch98 P) (ch99 P)) (.node (oA_49 P) (ch100 P) (ch101 P))) (.node (oA_25 P) (.node (oA_41 P) (ch102 P) (ch103 P)) (.node (oA_57 P) (ch104 P) (ch105 P))))
noncomputable def ch107 (P : Params) : BT := (.node (oB_69 P) (.node (oB_133 P) (.node (oD_261 P) .nil .nil) .nil) (.node (oC_197 P) (.node (oD_325 P) .nil .nil) .nil))
noncomputable def ch108 (P : Params) : BT := (.node (oB_101 P) (.node (oC_165 P) (.node (oD_293 P) .nil .nil) .nil) (.node (oC_229 P) .nil .nil))
noncomputable def ch109 (P : Params) : BT := (.node (oB_85 P) (.node (oC_149 P) (.node (oD_277 P) .nil .nil) .nil) (.node (oC_213 P) .nil .nil))
noncomputable def ch110 (P : Params) : BT := (.node (oB_117 P) (.node (oC_181 P) (.node (oD_309 P) .nil .nil) .nil) (.node (oC_245 P) .nil .nil))
noncomputable def ch111 (P : Params) : BT := (.node (oB_77 P) (.node (oC_141 P) (.node (oD_269 P) .nil .nil) .nil) (.node (oC_205 P) .nil .nil))
noncomputable def ch112 (P : Params) : BT := (.node (oB_109 P) (.node (oC_173 P) (.node (oD_301 P) .nil .nil) .nil) (.node (oC_237 P) .nil .nil))
noncomputable def ch113 (P : Params) : BT := (.node (oB_93 P) (.node (oC_157 P) (.node (oD_285 P) .nil .nil) .nil) (.node (oC_221 P) .nil .nil))
noncomputable def ch114 (P : Params) : BT := (.node (oB_125 P) (.node (oC_189 P) (.node (oD_317 P) .nil .nil) .nil) (.node (oD_253 P) .nil .nil))
noncomputable def ch115 (P : Params) : BT := (.node (o0_13 P) (.node (oA_21 P) (.node (oA_37 P) (ch107 P) (ch108 P)) (.node (oA_53 P) (ch109 P) (ch110 P))) (.node (oA_29 P) (.node (oA_45 P) (ch111 P) (ch112 P)) (.node (oA_61 P) (ch113 P) (ch114 P))))
noncomputable def ch116 (P : Params) : BT := (.node (oA_64 P) (.node (oB_128 P) (.node (oD_256 P) .nil .nil) .nil) (.node (oC_192 P) (.node (oD_320 P) .nil .nil) .nil))
noncomputable def ch117 (P : Params) : BT := (.node (oB_96 P) (.node (oC_160 P) (.node (oD_288 P) .nil .nil) .nil) (.node (oC_224 P) .nil .nil))
noncomputable def ch118 (P : Params) : BT := (.node (oB_80 P) (.node (oC_144 P) (.node (oD_272 P) .nil .nil) .nil) (.node (oC_208 P) .nil .nil))
noncomputable def ch119 (P : Params) : BT := (.node (oB_112 P) (.node (oC_176 P) (.node (oD_304 P) .nil .nil) .nil) (.node (oC_240 P) .nil .nil))
noncomputable def ch120 (P : Params) : BT := (.node (oB_72 P) (.node (oB_136 P) (.node (oD_264 P) .nil .nil) .nil) (.node (oC_200 P) .nil .nil))
noncomputable def ch121 (P : Params) : BT := (.node (oB_104 P) (.node (oC_168 P) (.node (oD_296 P) .nil .nil) .nil) (.node (oC_232 P) .nil .nil))
noncomputable def ch122 (P : Params) : BT := (.node (oB_88 P) (.node (oC_152 P) (.node (oD_280 P) .nil .nil) .nil) (.node (oC_216 P) .nil .nil))
noncomputable def ch123 (P : Params) : BT := (.node (oB_120 P) (.node (oC_184 P) (.node (oD_312 P) .nil .nil) .nil) (.node (oD_248 P) .nil .nil))
noncomputable def ch124 (P : Params) : BT := (.node (boot_o_8 P) (.node (oA_16 P) (.node (oA_32 P) (ch116 P) (ch117 P)) (.node (oA_48 P) (ch118 P) (ch119 P))) (.node (oA_24 P) (.node (oA_40 P) (ch120 P) (ch121 P)) (.node (oA_56 P) (ch122 P) (ch123 P))))
noncomputable def ch125 (P : Params) : BT := (.node (oB_68 P) (.node (oB_132 P) (.node (oD_260 P) .nil .nil) .nil) (.node (oC_196 P) (.node (oD_324 P) .nil .nil) .nil))
noncomputable def ch126 (P : Params) : BT := (.node (oB_100 P) (.node (oC_164 P) (.node (oD_292 P) .nil .nil) .nil) (.node (oC_228 P) .nil .nil))
noncomputable def ch127 (P : Params) : BT := (.node (oB_84 P) (.node (oC_148 P) (.node (oD_276 P) .nil .nil) .nil) (.node (oC_212 P) .nil .nil))
noncomputable def ch128 (P : Params) : BT := (.node (oB_116 P) (.node (oC_180 P) (.node (oD_308 P) .nil .nil) .nil) (.node (oC_244 P) .nil .nil))
noncomputable def ch129 (P : Params) : BT := (.node (oB_76 P) (.node (oC_140 P) (.node (oD_268 P) .nil .nil) .nil) (.node (oC_204 P) .nil .nil))
noncomputable def ch130 (P : Params) : BT := (.node (oB_108 P) (.node (oC_172 P) (.node (oD_300 P) .nil .nil) .nil) (.node (oC_236 P) .nil .nil))
noncomputable def ch131 (P : Params) : BT := (.node (oB_92 P) (.node (oC_156 P) (.node (oD_284 P) .nil .nil) .nil) (.node (oC_220 P) .nil .nil))
noncomputable def ch132 (P : Params) : BT := (.node (oB_124 P) (.node (oC_188 P) (.node (oD_316 P) .nil .nil) .nil) (.node (oD_252 P) .nil .nil))
noncomputable def ch133 (P : Params) : BT := (.node (oD_12 P) (.node (oA_20 P) (.node (oA_36 P) (ch125 P) (ch126 P)) (.node (oA_52 P) (ch127 P) (ch128 P))) (.node (oA_28 P) (.node (oA_44 P) (ch129 P) (ch130 P)) (.node (oA_60 P) (ch131 P) (ch132 P))))
noncomputable def ch134 (P : Params) : BT := (.node (oB_66 P) (.node (oB_130 P) (.node (oD_258 P) .nil .nil) .nil) (.node (oC_194 P) (.node (oD_322 P) .nil .nil) .nil))
noncomputable def ch135 (P : Params) : BT := (.node (oB_98 P) (.node (oC_162 P) (.node (oD_290 P) .nil .nil) .nil) (.node (oC_226 P) .nil .nil))
noncomputable def ch136 (P : Params) : BT := (.node (oB_82 P) (.node (oC_146 P) (.node (oD_274 P) .nil .nil) .nil) (.node (oC_210 P) .nil .nil))
noncomputable def ch137 (P : Params) : BT := (.node (oB_114 P) (.node (oC_178 P) (.node (oD_306 P) .nil .nil) .nil) (.node (oC_242 P) .nil .nil))
noncomputable def ch138 (P : Params) : BT := (.node (oB_74 P) (.node (oB_138 P) (.node (oD_266 P) .nil .nil) .nil) (.node (oC_202 P) .nil .nil))
noncomputable def ch139 (P : Params) : BT := (.node (oB_106 P) (.node (oC_170 P) (.node (oD_298 P) .nil .nil) .nil) (.node (oC_234 P) .nil .nil))
noncomputable def ch140 (P : Params) : BT := (.node (oB_90 P) (.node (oC_154 P) (.node (oD_282 P) .nil .nil) .nil) (.node (oC_218 P) .nil .nil))
noncomputable def ch141 (P : Params) : BT := (.node (oB_122 P) (.node (oC_186 P) (.node (oD_314 P) .nil .nil) .nil) (.node (oD_250 P) .nil .nil))
noncomputable def ch142 (P : Params) : BT := (.node (boot_o_10 P) (.node (oA_18 P) (.node (oA_34 P) (ch134 P) (ch135 P)) (.node (oA_50 P) (ch136 P) (ch137 P))) (.node (oA_26 P) (.node (oA_42 P) (ch138 P) (ch139 P)) (.node (oA_58 P) (ch140 P) (ch141 P))))
noncomputable def ch143 (P : Params) : BT := (.node (oB_70 P) (.node (oB_134 P) (.node (oD_262 P) .nil .nil) .nil) (.node (oC_198 P) (.node (oD_326 P) .nil .nil) .nil))
noncomputable def ch144 (P : Params) : BT := (.node (oB_102 P) (.node (oC_166 P) (.node (oD_294 P) .nil .nil) .nil) (.node (oC_230 P) .nil .nil))
noncomputable def ch145 (P : Params) : BT := (.node (oB_86 P) (.node (oC_150 P) (.node (oD_278 P) .nil .nil) .nil) (.node (oC_214 P) .nil .nil))
noncomputable def ch146 (P : Params) : BT := (.node (oB_118 P) (.node (oC_182 P) (.node (oD_310 P) .nil .nil) .nil) (.node (oC_246 P) .nil .nil))
noncomputable def ch147 (P : Params) : BT := (.node (oB_78 P) (.node (oC_142 P) (.node (oD_270 P) .nil .nil) .nil) (.node (oC_206 P) .nil .nil))
noncomputable def ch148 (P : Params) : BT := (.node (oB_110 P) (.node (oC_174 P) (.node (oD_302 P) .nil .nil) .nil) (.node (oC_238 P) .nil .nil))
noncomputable def ch149 (P : Params) : BT := (.node (oB_94 P) (.node (oC_158 P) (.node (oD_286 P) .nil .nil) .nil) (.node (oC_222 P) .nil .nil))
noncomputable def ch150 (P : Params) : BT := (.node (oB_126 P) (.node (oC_190 P) (.node (oD_318 P) .nil .nil) .nil) (.node (oD_254 P) .nil .nil))
noncomputable def ch151 (P : Params) : BT := (.node (o0_14 P) (.node (oA_22 P) (.node (oA_38 P) (ch143 P) (ch144 P)) (.node (oA_54 P) (ch145 P) (ch146 P))) (.node (oA_30 P) (.node (oA_46 P) (ch147 P) (ch148 P)) (.node (oA_62 P) (ch149 P) (ch150 P))))
noncomputable def trD (P : Params) : BT := (.node (boot_o_0 P) (.node (boot_o_1 P) (.node (oD_3 P) (ch88 P) (ch97 P)) (.node (boot_o_5 P) (ch106 P) (ch115 P))) (.node (boot_o_2 P) (.node (boot_o_4 P) (ch124 P) (ch133 P)) (.node (boot_o_6 P) (ch142 P) (ch151 P))))
noncomputable def hp0 (P : Params) : Heap := ⟨⟨boot_o_0 P :: boot_o_1 P :: boot_o_2 P :: boot_o_3 P :: boot_o_4 P :: boot_o_5 P :: boot_o_6 P :: boot_o_7 P :: boot_o_8 P :: boot_o_9 P :: boot_o_10 P :: o0_11 P :: o0_12 P :: o0_13 P :: o0_14 P :: []⟩, lf⟩
noncomputable def hl40 (P : Params) : List Obj := oD_320 P :: oD_321 P :: oD_322 P :: oD_323 P :: oD_324 P :: oD_325 P :: oD_326 P :: []
noncomputable def hl39 (P : Params) : List Obj := oD_312 P :: oD_313 P :: oD_314 P :: oD_315 P :: oD_316 P :: oD_317 P :: oD_318 P :: oD_319 P :: hl40 P
noncomputable def hl38 (P : Params) : List Obj := oD_304 P :: oD_305 P :: oD_306 P :: oD_307 P :: oD_308 P :: oD_309 P :: oD_310 P :: oD_311 P :: hl39 P
noncomputable def hl37 (P : Params) : List Obj := oD_296 P :: oD_297 P :: oD_298 P :: oD_299 P :: oD_300 P :: oD_301 P :: oD_302 P :: oD_303 P :: hl38 P
noncomputable def hl36 (P : Params) : List Obj := oD_288 P :: oD_289 P :: oD_290 P :: oD_291 P :: oD_292 P :: oD_293 P :: oD_294 P :: oD_295 P :: hl37 P
noncomputable def hl35 (P : Params) : List Obj := oD_280 P :: oD_281 P :: oD_282 P :: oD_283 P :: oD_284 P :: oD_285 P :: oD_286 P :: oD_287 P :: hl36 P
noncomputable def hl34 (P : Params) : List Obj := oD_272 P :: oD_273 P :: oD_274 P :: oD_275 P :: oD_276 P :: oD_277 P :: oD_278 P :: oD_279 P :: hl35 P
noncomputable def hl33 (P : Params) : List Obj := oD_264 P :: oD_265 P :: oD_266 P :: oD_267 P :: oD_268 P :: oD_269 P :: oD_270 P :: oD_271 P :: hl34 P
noncomputable def hl32 (P : Params) : List Obj := oD_256 P :: oD_257 P :: oD_258 P :: oD_259 P :: oD_260 P :: oD_261 P :: oD_262 P :: oD_263 P :: hl33 P
noncomputable def hl31 (P : Params) : List Obj := oD_248 P :: oD_249 P :: oD_250 P :: oD_251 P :: oD_252 P :: oD_253 P :: oD_254 P :: oD_255 P :: hl32 P
noncomputable def hl30 (P : Params) : List Obj := oC_240 P :: oC_241 P :: oC_242 P :: oC_243 P :: oC_244 P :: oC_245 P :: oC_246 P :: oD_247 P :: hl31 P
noncomputable def hl29 (P : Params) : List Obj := oC_232 P :: oC_233 P :: oC_234 P :: oC_235 P :: oC_236 P :: oC_237 P :: oC_238 P :: oC_239 P :: hl30 P
noncomputable def hl28 (P : Params) : List Obj := oC_224 P :: oC_225 P :: oC_226 P :: oC_227 P :: oC_228 P :: oC_229 P :: oC_230 P :: oC_231 P :: hl29 P
noncomputable def hl27 (P : Params) : List Obj := oC_216 P :: oC_217 P :: oC_218 P :: oC_219 P :: oC_220 P :: oC_221 P :: oC_222 P :: oC_223 P :: hl28 P
noncomputable def hl26 (P : Params) : List Obj := oC_208 P :: oC_209 P :: oC_210 P :: oC_211 P :: oC_212 P :: oC_213 P :: oC_214 P :: oC_215 P :: hl27 P
noncomputable def hl25 (P : Params) : List Obj := oC_200 P :: oC_201 P :: oC_202 P :: oC_203 P :: oC_204 P :: oC_205 P :: oC_206 P :: oC_207 P :: hl26 P
noncomputable def hl24 (P : Params) : List Obj := oC_192 P :: oC_193 P :: oC_194 P :: oC_195 P :: oC_196 P :: oC_197 P :: oC_198 P :: oC_199 P :: hl25 P
noncomputable def hl23 (P : Params) : List Obj := oC_184 P :: oC_185 P :: oC_186 P :: oC_187 P :: oC_188 P :: oC_189 P :: oC_190 P :: oC_191 P :: hl24 P
noncomputable def hl22 (P : Params) : List Obj := oC_176 P :: oC_177 P :: oC_178 P :: oC_179 P :: oC_180 P :: oC_181 P :: oC_182 P :: oC_183 P :: hl23 P
noncomputable def hl21 (P : Params) : List Obj := oC_168 P :: oC_169 P :: oC_170 P :: oC_171 P :: oC_172 P :: oC_173 P :: oC_174 P :: oC_175 P :: hl22 P
noncomputable def hl20 (P : Params) : List Obj := oC_160 P :: oC_161 P :: oC_162 P :: oC_163 P :: oC_164 P :: oC_165 P :: oC_166 P :: oC_167 P :: hl21 P
noncomputable def hl19 (P : Params) : List Obj := oC_152 P :: oC_153 P :: oC_154 P :: oC_155 P :: oC_156 P :: oC_157 P :: oC_158 P :: oC_159 P :: hl20 P
noncomputable def hl18 (P : Params) : List Obj := oC_144 P :: oC_145 P :: oC_146 P :: oC_147 P :: oC_148 P :: oC_149 P :: oC_150 P :: oC_151 P :: hl19 P
noncomputable def hl17 (P : Params) : List Obj := oB_136 P :: oB_137 P :: oB_138 P :: oC_139 P :: oC_140 P :: oC_141 P :: oC_142 P :: oC_143 P :: hl18 P
noncomputable def hl16 (P : Params) : List Obj := oB_128 P :: oB_129 P :: oB_130 P :: oB_131 P :: oB_132 P :: oB_133 P :: oB_134 P :: oB_135 P :: hl17 P
noncomputable def hl15 (P : Params) : List Obj := oB_120 P :: oB_121 P :: oB_122 P :: oB_123 P :: oB_124 P :: oB_125 P :: oB_126 P :: oB_127 P :: hl16 P
noncomputable def hl14 (P : Params) : List Obj := oB_112 P :: oB_113 P :: oB_114 P :: oB_115 P :: oB_116 P :: oB_117 P :: oB_118 P :: oB_119 P :: hl15 P
noncomputable def hl13 (P : Params) : List Obj := oB_104 P :: oB_105 P :: oB_106 P :: oB_107 P :: oB_108 P :: oB_109 P :: oB_110 P :: oB_111 P :: hl14 P
noncomputable def hl12 (P : Params) : List Obj := oB_96 P :: oB_97 P :: oB_98 P :: oB_99 P :: oB_100 P :: oB_101 P :: oB_102 P :: oB_103 P :: hl13 P
noncomputable def hl11 (P : Params) : List Obj := oB_88 P :: oB_89 P :: oB_90 P :: oB_91 P :: oB_92 P :: oB_93 P :: oB_94 P :: oB_95 P :: hl12 P
noncomputable def hl10 (P : Params) : List Obj := oB_80 P :: oB_81 P :: oB_82 P :: oB_83 P :: oB_84 P :: oB_85 P :: oB_86 P :: oB_87 P :: hl11 P
noncomputable def hl9 (P : Params) : List Obj := oB_72 P :: oB_73 P :: oB_74 P :: oB_75 P :: oB_76 P :: oB_77 P :: oB_78 P :: oB_79 P :: hl10 P
noncomputable def hl8 (P : Params) : List Obj := oA_64 P :: oB_65 P :: oB_66 P :: oB_67 P :: oB_68 P :: oB_69 P :: oB_70 P :: oB_71 P :: hl9 P
noncomputable def hl7 (P : Params) : List Obj := oA_56 P :: oA_57 P :: oA_58 P :: oA_59 P :: oA_60 P :: oA_61 P :: oA_62 P :: oA_63 P :: hl8 P
noncomputable def hl6 (P : Params) : List Obj := oA_48 P :: oA_49 P :: oA_50 P :: oA_51 P :: oA_52 P :: oA_53 P :: oA_54 P :: oA_55 P :: hl7 P
noncomputable def hl5 (P : Params) : List Obj := oA_40 P :: oA_41 P :: oA_42 P :: oA_43 P :: oA_44 P :: oA_45 P :: oA_46 P :: oA_47 P :: hl6 P
noncomputable def hl4 (P : Params) : List Obj := oA_32 P :: oA_33 P :: oA_34 P :: oA_35 P :: oA_36 P :: oA_37 P :: oA_38 P :: oA_39 P :: hl5 P
noncomputable def hl3 (P : Params) : List Obj := oA_24 P :: oA_25 P :: oA_26 P :: oA_27 P :: oA_28 P :: oA_29 P :: oA_30 P :: oA_31 P :: hl4 P
noncomputable def hl2 (P : Params) : List Obj := oA_16 P :: oA_17 P :: oA_18 P :: oA_19 P :: oA_20 P :: oA_21 P :: oA_22 P :: oA_23 P :: hl3 P
noncomputable def hl1 (P : Params) : List Obj := boot_o_8 P :: boot_o_9 P :: boot_o_10 P :: o0_11 P :: oD_12 P :: o0_13 P :: o0_14 P :: oA_15 P :: hl2 P
noncomputable def hl0 (P : Params) : List Obj := boot_o_0 P :: boot_o_1 P :: boot_o_2 P :: oD_3 P :: boot_o_4 P :: boot_o_5 P :: boot_o_6 P :: boot_o_7 P :: hl1 P
noncomputable def hpF (P : Params) : Heap := ⟨⟨hl0 P⟩, lf⟩
noncomputable def kK (P : Params) : Frag := (nat_lit 2, boot_o_2 P) :: (nat_lit 3, oD_3 P) :: (nat_lit 15, oA_15 P) :: (nat_lit 17, oA_17 P) :: (nat_lit 18, oA_18 P) :: (nat_lit 20, oA_20 P) :: (nat_lit 21, oA_21 P) :: (nat_lit 29, oA_29 P) :: (nat_lit 31, oA_31 P) :: (nat_lit 32, oA_32 P) :: (nat_lit 34, oA_34 P) :: (nat_lit 35, oA_35 P) :: (nat_lit 36, oA_36 P) :: (nat_lit 37, oA_37 P) :: (nat_lit 39, oA_39 P) :: (nat_lit 40, oA_40 P) :: (nat_lit 42, oA_42 P) :: (nat_lit 43, oA_43 P) :: (nat_lit 44, oA_44 P) :: (nat_lit 46, oA_46 P) :: (nat_lit 47, oA_47 P) :: (nat_lit 49, oA_49 P) :: (nat_lit 50, oA_50 P) :: (nat_lit 51, oA_51 P) :: (nat_lit 53, oA_53 P) :: (nat_lit 54, oA_54 P) :: (nat_lit 56, oA_56 P) :: (nat_lit 57, oA_57 P) :: (nat_lit 58, oA_58 P) :: (nat_lit 59, oA_59 P) :: (nat_lit 60, oA_60 P) :: (nat_lit 61, oA_61 P) :: (nat_lit 62, oA_62 P) :: (nat_lit 65, oB_65 P) :: (nat_lit 68, oB_68 P) :: (nat_lit 73, oB_73 P) :: (nat_lit 74, oB_74 P) :: (nat_lit 75, oB_75 P) :: (nat_lit 76, oB_76 P) :: (nat_lit 78, oB_78 P) :: (nat_lit 79, oB_79 P) :: (nat_lit 81, oB_81 P) :: (nat_lit 82, oB_82 P) :: (nat_lit 83, oB_83 P) :: (nat_lit 85, oB_85 P) :: (nat_lit 86, oB_86 P) :: (nat_lit 88, oB_88 P) :: (nat_lit 89, oB_89 P) :: (nat_lit 90, oB_90 P) :: (nat_lit 91, oB_91 P) :: (nat_lit 92, oB_92 P) :: (nat_lit 93, oB_93 P) :: (nat_lit 94, oB_94 P) :: (nat_lit 96, oB_96 P) :: (nat_lit 97, oB_97 P) :: (nat_lit 99, oB_99 P) :: (nat_lit 100, oB_100 P) :: (nat_lit 101, oB_101 P) :: (nat_lit 103, oB_103 P) :: (nat_lit 104, oB_104 P) :: (nat_lit 106, oB_106 P) :: (nat_lit 107, oB_107 P) :: (nat_lit 108, oB_108 P) :: (nat_lit 110, oB_110 P) :: (nat_lit 111, oB_111 P) :: (nat_lit 113, oB_113 P) :: (nat_lit 114, oB_114 P) :: (nat_lit 115, oB_115 P) :: (nat_lit 117, oB_117 P) :: (nat_lit 118, oB_118 P) :: (nat_lit 120, oB_120 P) :: (nat_lit 121, oB_121 P) :: (nat_lit 122, oB_122 P) :: (nat_lit 123, oB_123 P) :: (nat_lit 124, oB_124 P) :: (nat_lit 126, oB_126 P) :: (nat_lit 127, oB_127 P) :: (nat_lit 129, oB_129 P) :: (nat_lit 130, oB_130 P) :: (nat_lit 132, oB_132 P) :: (nat_lit 134, oB_134 P) :: (nat_lit 135, oB_135 P) :: (nat_lit 136, oB_136 P) :: (nat_lit 139, oC_139 P) :: (nat_lit 141, oC_141 P) :: (nat_lit 142, oC_142 P) :: (nat_lit 144, oC_144 P) :: (nat_lit 145, oC_145 P) :: (nat_lit 153, oC_153 P) :: (nat_lit 154, oC_154 P) :: (nat_lit 156, oC_156 P) :: (nat_lit 157, oC_157 P) :: (nat_lit 159, oC_159 P) :: (nat_lit 160, oC_160 P) :: (nat_lit 161, oC_161 P) :: (nat_lit 163, oC_163 P) :: (nat_lit 164, oC_164 P) :: (nat_lit 166, oC_166 P) :: (nat_lit 167, oC_167 P) :: (nat_lit 168, oC_168 P) :: (nat_lit 170, oC_170 P) :: (nat_lit 171, oC_171 P) :: (nat_lit 173, oC_173 P) :: (nat_lit 174, oC_174 P) :: (nat_lit 175, oC_175 P) :: (nat_lit 177, oC_177 P) :: (nat_lit 178, oC_178 P) :: (nat_lit 180, oC_180 P) :: (nat_lit 181, oC_181 P) :: (nat_lit 182, oC_182 P) :: (nat_lit 184, oC_184 P) :: (nat_lit 185, oC_185 P) :: (nat_lit 187, oC_187 P) :: (nat_lit 188, oC_188 P) :: (nat_lit 189, oC_189 P) :: (nat_lit 190, oC_190 P) :: (nat_lit 192, oC_192 P) :: (nat_lit 193, oC_193 P) :: (nat_lit 195, oC_195 P) :: (nat_lit 196, oC_196 P) :: (nat_lit 197, oC_197 P) :: (nat_lit 199, oC_199 P) :: (nat_lit 200, oC_200 P) :: (nat_lit 202, oC_202 P) :: (nat_lit 203, oC_203 P) :: (nat_lit 204, oC_204 P) :: (nat_lit 206, oC_206 P) :: (nat_lit 207, oC_207 P) :: (nat_lit 209, oC_209 P) :: (nat_lit 210, oC_210 P) :: (nat_lit 211, oC_211 P) :: (nat_lit 212, oC_212 P) :: (nat_lit 214, oC_214 P) :: (nat_lit 215, oC_215 P) :: (nat_lit 217, oC_217 P) :: (nat_lit 218, oC_218 P) :: (nat_lit 219, oC_219 P) :: (nat_lit 221, oC_221 P) :: (nat_lit 222, oC_222 P) :: (nat_lit 224, oC_224 P) :: (nat_lit 225, oC_225 P) :: (nat_lit 226, oC_226 P) :: (nat_lit 228, oC_228 P) :: (nat_lit 229, oC_229 P) :: (nat_lit 231, oC_231 P) :: (nat_lit 232, oC_232 P) :: (nat_lit 233, oC_233 P) :: (nat_lit 235, oC_235 P) :: (nat_lit 236, oC_236 P) :: (nat_lit 238, oC_238 P) :: (nat_lit 239, oC_239 P) :: (nat_lit 240, oC_240 P) :: (nat_lit 241, oC_241 P) :: (nat_lit 242, oC_242 P) :: (nat_lit 243, oC_243 P) :: (nat_lit 244, oC_244 P) :: (nat_lit 247, oD_247 P) :: (nat_lit 249, oD_249 P) :: (nat_lit 250, oD_250 P) :: (nat_lit 252, oD_252 P) :: (nat_lit 253, oD_253 P) :: (nat_lit 254, oD_254 P) :: (nat_lit 255, oD_255 P) :: (nat_lit 256, oD_256 P) :: (nat_lit 257, oD_257 P) :: (nat_lit 258, oD_258 P) :: (nat_lit 259, oD_259 P) :: (nat_lit 260, oD_260 P) :: (nat_lit 261, oD_261 P) :: (nat_lit 262, oD_262 P) :: (nat_lit 263, oD_263 P) :: (nat_lit 264, oD_264 P) :: (nat_lit 265, oD_265 P) :: (nat_lit 266, oD_266 P) :: (nat_lit 267, oD_267 P) :: (nat_lit 268, oD_268 P) :: (nat_lit 269, oD_269 P) :: (nat_lit 270, oD_270 P) :: (nat_lit 271, oD_271 P) :: (nat_lit 272, oD_272 P) :: (nat_lit 273, oD_273 P) :: (nat_lit 274, oD_274 P) :: (nat_lit 275, oD_275 P) :: (nat_lit 276, oD_276 P) :: (nat_lit 277, oD_277 P) :: (nat_lit 278, oD_278 P) :: (nat_lit 279, oD_279 P) :: (nat_lit 280, oD_280 P) :: (nat_lit 281, oD_281 P) :: (nat_lit 282, oD_282 P) :: (nat_lit 283, oD_283 P) :: (nat_lit 284, oD_284 P) :: (nat_lit 285, oD_285 P) :: (nat_lit 286, oD_286 P) :: (nat_lit 287, oD_287 P) :: (nat_lit 289, oD_289 P) :: (nat_lit 290, oD_290 P) :: (nat_lit 292, oD_292 P) :: (nat_lit 293, oD_293 P) :: (nat_lit 294, oD_294 P) :: (nat_lit 296, oD_296 P) :: (nat_lit 297, oD_297 P) :: (nat_lit 299, oD_299 P) :: (nat_lit 300, oD_300 P) :: (nat_lit 301, oD_301 P) :: (nat_lit 303, oD_303 P) :: (nat_lit 304, oD_304 P) :: (nat_lit 306, oD_306 P) :: (nat_lit 307, oD_307 P) :: (nat_lit 308, oD_308 P) :: (nat_lit 310, oD_310 P) :: (nat_lit 311, oD_311 P) :: (nat_lit 313, oD_313 P) :: (nat_lit 314, oD_314 P) :: (nat_lit 315, oD_315 P) :: (nat_lit 317, oD_317 P) :: (nat_lit 318, oD_318 P) :: (nat_lit 320, oD_320 P) :: (nat_lit 321, oD_321 P) :: (nat_lit 322, oD_322 P) :: (nat_lit 325, oD_325 P) :: (nat_lit 326, oD_326 P) :: []
noncomputable def kAs : List Nat := nat_lit 2 :: nat_lit 3 :: nat_lit 15 :: nat_lit 17 :: nat_lit 18 :: nat_lit 20 :: nat_lit 21 :: nat_lit 29 :: nat_lit 31 :: nat_lit 32 :: nat_lit 34 :: nat_lit 35 :: nat_lit 36 :: nat_lit 37 :: nat_lit 39 :: nat_lit 40 :: nat_lit 42 :: nat_lit 43 :: nat_lit 44 :: nat_lit 46 :: nat_lit 47 :: nat_lit 49 :: nat_lit 50 :: nat_lit 51 :: nat_lit 53 :: nat_lit 54 :: nat_lit 56 :: nat_lit 57 :: nat_lit 58 :: nat_lit 59 :: nat_lit 60 :: nat_lit 61 :: nat_lit 62 :: nat_lit 65 :: nat_lit 68 :: nat_lit 73 :: nat_lit 74 :: nat_lit 75 :: nat_lit 76 :: nat_lit 78 :: nat_lit 79 :: nat_lit 81 :: nat_lit 82 :: nat_lit 83 :: nat_lit 85 :: nat_lit 86 :: nat_lit 88 :: nat_lit 89 :: nat_lit 90 :: nat_lit 91 :: nat_lit 92 :: nat_lit 93 :: nat_lit 94 :: nat_lit 96 :: nat_lit 97 :: nat_lit 99 :: nat_lit 100 :: nat_lit 101 :: nat_lit 103 :: nat_lit 104 :: nat_lit 106 :: nat_lit 107 :: nat_lit 108 :: nat_lit 110 :: nat_lit 111 :: nat_lit 113 :: nat_lit 114 :: nat_lit 115 :: nat_lit 117 :: nat_lit 118 :: nat_lit 120 :: nat_lit 121 :: nat_lit 122 :: nat_lit 123 :: nat_lit 124 :: nat_lit 126 :: nat_lit 127 :: nat_lit 129 :: nat_lit 130 :: nat_lit 132 :: nat_lit 134 :: nat_lit 135 :: nat_lit 136 :: nat_lit 139 :: nat_lit 141 :: nat_lit 142 :: nat_lit 144 :: nat_lit 145 :: nat_lit 153 :: nat_lit 154 :: nat_lit 156 :: nat_lit 157 :: nat_lit 159 :: nat_lit 160 :: nat_lit 161 :: nat_lit 163 :: nat_lit 164 :: nat_lit 166 :: nat_lit 167 :: nat_lit 168 :: nat_lit 170 :: nat_lit 171 :: nat_lit 173 :: nat_lit 174 :: nat_lit 175 :: nat_lit 177 :: nat_lit 178 :: nat_lit 180 :: nat_lit 181 :: nat_lit 182 :: nat_lit 184 :: nat_lit 185 :: nat_lit 187 :: nat_lit 188 :: nat_lit 189 :: nat_lit 190 :: nat_lit 192 :: nat_lit 193 :: nat_lit 195 :: nat_lit 196 :: nat_lit 197 :: nat_lit 199 :: nat_lit 200 :: nat_lit 202 :: nat_lit 203 :: nat_lit 204 :: nat_lit 206 :: nat_lit 207 :: nat_lit 209 :: nat_lit 210 :: nat_lit 211 :: nat_lit 212 :: nat_lit 214 :: nat_lit 215 :: nat_lit 217 :: nat_lit 218 :: nat_lit 219 :: nat_lit 221 :: nat_lit 222 :: nat_lit 224 :: nat_lit 225 :: nat_lit 226 :: nat_lit 228 :: nat_lit 229 :: nat_lit 231 :: nat_lit 232 :: nat_lit 233 :: nat_lit 235 :: nat_lit 236 :: nat_lit 238 :: nat_lit 239 :: nat_lit 240 :: nat_lit 241 :: nat_lit 242 :: nat_lit 243 :: nat_lit 244 :: nat_lit 247 :: nat_lit 249 :: nat_lit 250 :: nat_lit 252 :: nat_lit 253 :: nat_lit 254 :: nat_lit 255 :: nat_lit 256 :: nat_lit 257 :: nat_lit 258 :: nat_lit 259 :: nat_lit 260 :: nat_lit 261 :: nat_lit 262 :: nat_lit 263 :: nat_lit 264 :: nat_lit 265 :: nat_lit 266 :: nat_lit 267 :: nat_lit 268 :: nat_lit 269 :: nat_lit 270 :: nat_lit 271 :: nat_lit 272 :: nat_lit 273 :: nat_lit 274 :: nat_lit 275 :: nat_lit 276 :: nat_lit 277 :: nat_lit 278 :: nat_lit 279 :: nat_lit 280 :: nat_lit 281 :: nat_lit 282 :: nat_lit 283 :: nat_lit 284 :: nat_lit 285 :: nat_lit 286 :: nat_lit 287 :: nat_lit 289 :: nat_lit 290 :: nat_lit 292 :: nat_lit 293 :: nat_lit 294 :: nat_lit 296 :: nat_lit 297 :: nat_lit 299 :: nat_lit 300 :: nat_lit 301 :: nat_lit 303 :: nat_lit 304 :: nat_lit 306 :: nat_lit 307 :: nat_lit 308 :: nat_lit 310 :: nat_lit 311 :: nat_lit 313 :: nat_lit 314 :: nat_lit 315 :: nat_lit 317 :: nat_lit 318 :: nat_lit 320 :: nat_lit 321 :: nat_lit 322 :: nat_lit 325 :: nat_lit 326 :: []
noncomputable def viewP : Program := { PySem.Challenge.pw_oy0507_01 with main := { PySem.Challenge.pw_oy0507_01.main with body := [nS pBody 0, nS pBody 2, nS pBody 3, nS pBody 4, nS pBody 5, nS pBody 7, nS pBody 8, nS pBody 9, nS pBody 10, nS pBody 11, nS pBody 12, nS pBody 13, nS pBody 14, nS pBody 15, nS pBody 16, nS pBody 17, nS pBody 18, nS pBody 19, nS pBody 20, nS pBody 21, nS pBody 22, nS pBody 23, nS pBody 24, nS pBody 25, nS pBody 26, nS pBody 27, nS pBody 28, nS pBody 30, nS pBody 31, nS pBody 32, nS pBody 33, nS pBody 34] } }
noncomputable def looseL : List Str := [Str.ofString "_tuplegetter", Str.ofString "Match", Str.ofString "SequenceMatcher", Str.ofString "_filemode_table"]
noncomputable def lvL : List (Str × WData) := [(Str.ofString "_filemode_table", WData.tuple [WData.tuple [WData.tuple [WData.int 40960, WData.str (Str.mk #[108])], WData.tuple [WData.int 49152, WData.str (Str.mk #[115])], WData.tuple [WData.int 32768, WData.str (Str.mk #[45])], WData.tuple [WData.int 24576, WData.str (Str.mk #[98])], WData.tuple [WData.int 16384, WData.str (Str.mk #[100])], WData.tuple [WData.int 8192, WData.str (Str.mk #[99])], WData.tuple [WData.int 4096, WData.str (Str.mk #[112])]], WData.tuple [WData.tuple [WData.int 256, WData.str (Str.mk #[114])]], WData.tuple [WData.tuple [WData.int 128, WData.str (Str.mk #[119])]], WData.tuple [WData.tuple [WData.int 2112, WData.str (Str.mk #[115])], WData.tuple [WData.int 2048, WData.str (Str.mk #[83])], WData.tuple [WData.int 64, WData.str (Str.mk #[120])]], WData.tuple [WData.tuple [WData.int 32, WData.str (Str.mk #[114])]], WData.tuple [WData.tuple [WData.int 16, WData.str (Str.mk #[119])]], WData.tuple [WData.tuple [WData.int 1032, WData.str (Str.mk #[115])], WData.tuple [WData.int 1024, WData.str (Str.mk #[83])], WData.tuple [WData.int 8, WData.str (Str.mk #[120])]], WData.tuple [WData.tuple [WData.int 4, WData.str (Str.mk #[114])]], WData.tuple [WData.tuple [WData.int 2, WData.str (Str.mk #[119])]], WData.tuple [WData.tuple [WData.int 513, WData.str (Str.mk #[116])], WData.tuple [WData.int 512, WData.str (Str.mk #[84])], WData.tuple [WData.int 1, WData.str (Str.mk #[120])]]])]
end Mine
end
section
open PySem PySem.W PySem.Calls PyProof.Rows
set_option maxRecDepth 100000
namespace Mine
noncomputable abbrev IsSetObj (o : Obj) : Prop := o.cls = .type "set" ∧ o.dict = none ∧ ∃ es k t, o.data = .set es k t
noncomputable abbrev IsDictObj (o : Obj) : Prop := o.cls = .type "dict" ∧ o.dict = none ∧ ∃ es k, o.data = .dict es k
section
variable {prog : Program} {w : World} {A : Around} {E : Value → Shared → Prop} {s : Shared} {a q : Addr} {h₀ : Heap} {L : Addr} {m : Str → Option Value} {news : List (Addr × Obj)} {o : Obj}
theorem r_ga_scon {Q : Value → Shared → Prop} (F : Fr h₀ L s.heap m) (N : News h₀ L s.heap news) (hm : (a, o) ∈ news) (ho : IsSetObj o)
    (h : ∀ q h', Fr h₀ L h' m → News h₀ L h' ((q, bmeth "set.__contains__" a) :: news) → (∀ p ∈ news, p.1 < q) → Q (.ref q) { s with heap := h', toks := s.toks + 1 }) :
    wpAny (model prog w) A (getAttr (.ref a) "__contains__" true) Q E s := by
  obtain ⟨c, d, dt, sl⟩ := o
  obtain ⟨h1, h2, es, k, t, h3⟩ := ho
  simp only at h1 h2 h3
  subst h1 h2 h3
  exact getAttr_set_contains (N _ hm).1 (h _ _ (F.push _) (N.push F _) fun p hp => Heap.lt_size (N p hp).1)
theorem r_ga_dget {Q : Value → Shared → Prop} (F : Fr h₀ L s.heap m) (N : News h₀ L s.heap news) (hm : (a, o) ∈ news) (ho : IsDictObj o)
    (h : ∀ q h', Fr h₀ L h' m → News h₀ L h' ((q, bmeth "dict.get" a) :: news) → (∀ p ∈ news, p.1 < q) → Q (.ref q) { s with heap := h', toks := s.toks + 1 }) :
    wpAny (model prog w) A (getAttr (.ref a) "get" true) Q E s := by
  obtain ⟨c, d, dt, sl⟩ := o
  obtain ⟨h1, h2, es, k, h3⟩ := ho
  simp only at h1 h2 h3
  subst h1 h2 h3
  exact getAttr_dict_get (N _ hm).1 (h _ _ (F.push _) (N.push F _) fun p hp => Heap.lt_size (N p hp).1)
theorem dget_quiet {as : Args} : (Code.builtin "dict.get" as).quiet = true := Code.quiet_builtin _ (by decide +kernel)
theorem scon_quiet {as : Args} : (Code.builtin "set.__contains__" as).quiet = true := Code.quiet_builtin _ (by decide +kernel)
theorem plain_dget : plainId "dict.get" = true := by decide +kernel
theorem plain_scon : plainId "set.__contains__" = true := by decide +kernel
theorem r_call_dget {K : Type} [DecidableEq K] {knd : KeyKind prog w K} {kvs : List (K × Value)} {k : K} {key dflt : Value} {d : Addr} {Q : Value → Shared → Prop} (N : News h₀ L s.heap news) (hq : (q, bmeth "dict.get" d) ∈ news) (hd : (d, o) ∈ news) (hD : o.IsDictOf knd kvs) (lo : (d == sysModules) = false) (hkey : knd.is k key = true)
    (h : Q ((valueAt kvs k).getD dflt) { s with toks := s.toks + 1 }) : wpAny (model prog w) A (call (.ref q) [key, dflt]) Q E s := by
  have hD' := kda_dict N hd hD
  obtain ⟨es, ep, hex, hdat, _⟩ := hD
  refine wpAny_call (code_bmeth (N _ hq).1 (fun Q' E' A' h' => bound_dget (N _ hd).1 hex.1 (by rw [hdat]) h') dget_quiet (codeAny_builtin F.entry_dict_get ?_))
  rw [Around.under_plainId plain_dget]
  exact meets_dict_get_default knd d hkey lo dflt _ (wants Q E) _ ⟨_, hD'.mapOf, h⟩
theorem r_call_scon {K : Type} [DecidableEq K] {knd : KeyKind prog w K} {S : K → Bool} {n : Nat} {k : K} {key : Value} {d : Addr} {Q : Value → Shared → Prop} (N : News h₀ L s.heap news) (hq : (q, bmeth "set.__contains__" d) ∈ news) (hS : s.heap.SetOf knd d S n) (hkey : knd.is k key = true) (hsc : key.scannable = true)
    (h : Q (.bool (S k)) { s with toks := s.toks + 1 }) : wpAny (model prog w) A (call (.ref q) [key]) Q E s := by
  obtain ⟨oo, es, ep, t, hoo, hex, hdat, _⟩ := id hS
  refine wpAny_call (code_bmeth (N _ hq).1 (fun Q' E' A' h' => bound_scon hoo hex.1 (by rw [hdat]) h') scon_quiet (codeAny_builtin entry_set_contains ?_))
  rw [Around.under_plainId plain_scon]
  unfold Builtin.«frozenset.__contains__» Builtin.Frozenset.oneOther
  simp only [List.isEmpty_nil, bind_assoc]
  unfold Builtin.Frozenset.addrOf Builtin.Frozenset.withSetAsKey setContains
  refine wpAny_bind (wpAny_pure ?_)
  try dsimp only
  refine wpAny_bind (wpAny_pure ?_)
  try dsimp only
  refine wpAny_bind (wpAny_tryCatch ?_)
  refine wpAny_holding ?_
  refine wpAny_bind (knd.pyHash hkey ?_)
  refine wpAny_bind (wpAny_setFind_of (s := { s with toks := s.toks + 1 }) hkey hsc hS fun r hr => ?_)
  refine wpAny_pure ?_
  show wpAny _ _ (ret (Value.bool r.isSome)) _ _ _
  rw [hr]
  exact wpAny_pure h
theorem r_callWith_bm {id : String} {pos : Pos} {u b : Addr} {env : Env} {e : Expr} {rest : List Expr} {Q : Value → Shared → Prop} (_N : News h₀ L s.heap news) (_hm : (u, bmeth id b) ∈ news)
    (h : wpAny (model prog w) A (spliced (backTo pos (starEach (e :: rest) env))) (fun vs s₁ => s₁.heap.get? u = some (bmeth id b) ∧ wpAny (model prog w) A (call (.ref u) ([] ++ vs)) Q E s₁) E s)
    (he : starEach (e :: rest) env = (false, eval e env) :: starEach rest env := by rfl) (hplain : (backTo pos (starEach rest env)).any (·.1) = false := by rfl) :
    wpAny (model prog w) A (callWith pos (.ref u) [] (backTo pos (starEach (e :: rest) env)) []) Q E s := by
  rw [he] at h ⊢
  have hp : ((backTo pos ((false, eval e env) :: starEach rest env)).any (·.1)) = false := by show (false || (backTo pos (starEach rest env)).any (·.1)) = false; rw [hplain]; rfl
  unfold callWith
  refine wpAny_bind (wpAny_holding (wpAny_mono (evalArgs_plain (Q := fun (x : Args) s₁ => s₁.heap.get? u = some (bmeth id b) ∧ wpAny (model prog w) A (call (.ref u) ([] ++ x.pos) x.kw) Q E s₁) h) (fun x s₁ h₁ => wpAny_bind (wpAny_standAt ?_)) fun _ _ x => x))
  obtain ⟨ho, hcall⟩ := h₁
  simp only [hp, List.any_nil, Bool.or_false]
  refine wpAny_bind (m := keeperOf (.ref u)) ?_
  unfold keeperOf
  refine wpAny_bind (wpAny_load ho ?_)
  simp only [bmeth, show (Value.type "builtin_function_or_method" != Value.type "method") = true by decide, show (Value.type "builtin_function_or_method" == Value.type "builtin_function_or_method" || Value.type "builtin_function_or_method" == Value.type "method-wrapper") = true by decide, if_true]
  refine wpAny_pure ?_
  exact wpAny_bind (wpAny_mono hcall (fun r s₂ hr => wpAny_bind (wpAny_holding (wpAny_point (wpAny_pure hr)))) fun _ _ x => x)
end
end Mine
end
section
open PySem PySem.W PyProof.Rows
set_option maxRecDepth 100000
namespace Mine
noncomputable def myTab (id : String) : Option Builtin := @Bool.rec (fun _ => Option Builtin) (PySem.W.Fast.tw14364793385576792824 id) (some newT) (Nat.beq (PySem.W.Fast.tw13482112738370960269 id) 29827186395103491166823348853)
theorem myTab_key : PySem.W.Fast.tw1115789885857029328.find 29827186395103491166823348853 = some Builtin.«type.__new__» := by
  rw [← PySem.W.Fast.te1115789885857029328]
  kernel_rfl
theorem myTab_eq : treeTable = myTab := by
  rw [PySem.W.Fast.te14364793385576792824]
  funext id
  unfold myTab
  cases h : Nat.beq (PySem.W.Fast.tw13482112738370960269 id) 29827186395103491166823348853 with
  | false => rfl
  | true =>
    show PySem.W.Fast.tw1115789885857029328.find (PySem.W.Fast.tw13482112738370960269 id) = some newT
    rw [Nat.eq_of_beq_eq_true h, ← newT_eq]
    exact myTab_key
noncomputable def enM : Env := { scope := PySem.Challenge.pw_oy0507_01.main.scope, locals := mainNs, globals := mainNs, cells := [], code := .ref 13, frame := some 14 }
noncomputable def cM : Code := .body (behindTheImports PySem.Challenge.pw_oy0507_01) enM
noncomputable abbrev stM (t : Params → BT) (n k : Nat) (w : World) (os : OsState) : SharedT := SharedT.mk (t w.params) n lf #[] ⟨0, 0, 0, 0⟩ k os
theorem pcA (w : World) (os : OsState) : segRunT treeTable PySem.Challenge.pw_oy0507_01 w 11 (some (.ref 6)) 1 362 (stM tr0 15 187 w os) (piecesOf stsA enM cM ⟨0, 0, 0, 0⟩ [topFrame ⟨0, 0, 0, 0⟩]) = some (.next, stM trA 65 253 w os, cM, ⟨5, 0, 22, 54⟩) := by
  show segRunT treeTable PySem.Challenge.pw_oy0507_01 w 11 (some (.ref 6)) 1 362 (stM tr0 15 187 w os) ⟨(execs stsA enM).wrap doneF deadEnd id id, cM, ⟨0, 0, 0, 0⟩, [topFrame ⟨0, 0, 0, 0⟩]⟩ = _
  rewrite [PySem.W.Fast.te10110043849684766642, myTab_eq, PySem.W.Fast.te12563942051412417395]
  kernel_rfl
theorem pcB (w : World) (os : OsState) : segRunT treeTable PySem.Challenge.pw_oy0507_01 w 11 (some (.ref 6)) 1 1047 (stM trA 65 253 w os) (piecesOf stsB enM cM ⟨5, 0, 22, 54⟩ [topFrame ⟨0, 0, 0, 0⟩]) = some (.next, stM trB 139 381 w os, cM, ⟨23, 0, 65, 54⟩) := by
  show segRunT treeTable PySem.Challenge.pw_oy0507_01 w 11 (some (.ref 6)) 1 1047 (stM trA 65 253 w os) ⟨(execs stsB enM).wrap doneF deadEnd id id, cM, ⟨5, 0, 22, 54⟩, [topFrame ⟨0, 0, 0, 0⟩]⟩ = _
  rewrite [PySem.W.Fast.te10110043849684766642, myTab_eq, PySem.W.Fast.te12563942051412417395]
  kernel_rfl
theorem pcC (w : World) (os : OsState) : segRunT treeTable PySem.Challenge.pw_oy0507_01 w 11 (some (.ref 6)) 1 679 (stM trB 139 381 w os) (piecesOf stsC enM cM ⟨23, 0, 65, 54⟩ [topFrame ⟨0, 0, 0, 0⟩]) = some (.next, stM trC 247 575 w os, cM, ⟨70, 0, 417, 16⟩) := by
  show segRunT treeTable PySem.Challenge.pw_oy0507_01 w 11 (some (.ref 6)) 1 679 (stM trB 139 381 w os) ⟨(execs stsC enM).wrap doneF deadEnd id id, cM, ⟨23, 0, 65, 54⟩, [topFrame ⟨0, 0, 0, 0⟩]⟩ = _
  rewrite [PySem.W.Fast.te10110043849684766642, myTab_eq, PySem.W.Fast.te12563942051412417395, stsC_eq]
  kernel_rfl
theorem pcD (w : World) (os : OsState) : segRunT treeTable PySem.Challenge.pw_oy0507_01 w 11 (some (.ref 6)) 1 591 (stM trC 247 575 w os) (piecesOf stsD enM cM ⟨70, 0, 417, 16⟩ [topFrame ⟨0, 0, 0, 0⟩]) = some (.next, stM trD 327 722 w os, cM, ⟨497, 0, 502, 89⟩) := by
  show segRunT treeTable PySem.Challenge.pw_oy0507_01 w 11 (some (.ref 6)) 1 591 (stM trC 247 575 w os) ⟨(execs stsD enM).wrap doneF deadEnd id id, cM, ⟨70, 0, 417, 16⟩, [topFrame ⟨0, 0, 0, 0⟩]⟩ = _
  rewrite [PySem.W.Fast.te10110043849684766642, myTab_eq, PySem.W.Fast.te12563942051412417395]
  kernel_rfl
end Mine
end
section
open PySem PySem.W
namespace Mine
/-- the length of the run that ends at row a, column b (counted from 1) -/
noncomputable def sufS (mt : Nat → Nat → Bool) : Nat → Nat → Nat
  | 0, _ => 0
  | _ + 1, 0 => 0
  | a + 1, b + 1 => if mt a b = true then sufS mt a b + 1 else 0
theorem sufS_zero (mt : Nat → Nat → Bool) : ∀ a, sufS mt a 0 = 0
  | 0 => rfl
  | _ + 1 => rfl
theorem sufS_succ (mt : Nat → Nat → Bool) (a b : Nat) : sufS mt (a + 1) (b + 1) = if mt a b = true then sufS mt a b + 1 else 0 := rfl
theorem sufS_le (mt : Nat → Nat → Bool) : ∀ a b, sufS mt a b ≤ a ∧ sufS mt a b ≤ b
  | 0, b => ⟨Nat.le_refl _, Nat.zero_le _⟩
  | a + 1, 0 => ⟨Nat.zero_le _, Nat.le_refl _⟩
  | a + 1, b + 1 => by
    have := sufS_le mt a b
    unfold sufS
    split <;> omega
theorem sufS_run (mt : Nat → Nat → Bool) : ∀ a b t, t < sufS mt a b → mt (a - 1 - t) (b - 1 - t) = true
  | 0, b, t, h => absurd h (Nat.not_lt_zero t)
  | a + 1, 0, t, h => absurd h (Nat.not_lt_zero t)
  | a + 1, b + 1, t, h => by
    unfold sufS at h
    split at h
    · rename_i hm
      cases t with
      | zero => exact hm
      | succ t =>
        have := sufS_run mt a b t (by omega)
        rw [show a + 1 - 1 - (t + 1) = a - 1 - t by omega, show b + 1 - 1 - (t + 1) = b - 1 - t by omega]
        exact this
    · exact absurd h (Nat.not_lt_zero t)
theorem sufS_ge (mt : Nat → Nat → Bool) (i j : Nat) : ∀ k, (∀ t, t < k → mt (i + t) (j + t) = true) → k ≤ sufS mt (i + k) (j + k)
  | 0, _ => Nat.zero_le _
  | k + 1, h => by
    have := sufS_ge mt i j k fun t ht => h t (by omega)
    show k + 1 ≤ sufS mt (i + k + 1) (j + k + 1)
    unfold sufS
    rw [if_pos (h k (Nat.lt_succ_self k))]
    omega
/-- the cells that have been seen: n rows and c columns of the next -/
noncomputable def Seen (n c a b : Nat) : Prop := b ≤ 6 ∧ (a ≤ n ∨ a = n + 1 ∧ b ≤ c)
/-- the best triple after n rows and c columns of the next -/
noncomputable def Best (mt : Nat → Nat → Bool) (alo blo : Int) (n c : Nat) (t : Int × Int × Int) : Prop :=
  (t = (alo, blo, 0) ∧ ∀ a b, Seen n c a b → sufS mt a b = 0) ∨
  ∃ a b : Nat, Seen n c a b ∧ 0 < sufS mt a b ∧ t = (alo + a - sufS mt a b, blo + b - sufS mt a b, (sufS mt a b : Int)) ∧
    ∀ a' b', Seen n c a' b' → sufS mt a' b' < sufS mt a b ∨ sufS mt a' b' = sufS mt a b ∧ (a < a' ∨ a = a' ∧ b ≤ b')
theorem Best.skip {mt : Nat → Nat → Bool} {alo blo : Int} {n c c' : Nat} {t : Int × Int × Int} (h : Best mt alo blo n c t) (hcc : c ≤ c') (hz : ∀ b, c < b → b ≤ c' → sufS mt (n + 1) b = 0) : Best mt alo blo n c' t := by
  have key : ∀ a b, Seen n c' a b → Seen n c a b ∨ sufS mt a b = 0 := by
    rintro a b ⟨hb, hp | ⟨rfl, hp⟩⟩
    · exact .inl ⟨hb, .inl hp⟩
    · rcases Nat.lt_or_ge c b with h | h
      · exact .inr (hz b h hp)
      · exact .inl ⟨hb, .inr ⟨rfl, h⟩⟩
  rcases h with ⟨h1, h2⟩ | ⟨a, b, h1, h3, h4, h5⟩
  · exact .inl ⟨h1, fun a b hp => (key a b hp).elim (h2 a b) id⟩
  · refine .inr ⟨a, b, ⟨h1.1, h1.2.elim .inl fun h => .inr ⟨h.1, by omega⟩⟩, h3, h4, fun a' b' hp => ?_⟩
    rcases key a' b' hp with h | h
    · exact h5 a' b' h
    · exact .inl (by rw [h]; exact h3)
theorem Best.next {mt : Nat → Nat → Bool} {alo blo : Int} {n : Nat} {t : Int × Int × Int} (h : Best mt alo blo n 6 t) : Best mt alo blo (n + 1) 0 t := by
  have key : ∀ a b, Seen (n + 1) 0 a b → Seen n 6 a b ∨ sufS mt a b = 0 := by
    rintro a b ⟨hb, hp⟩
    by_cases h : b = 0
    · exact .inr (by rw [h]; exact sufS_zero mt a)
    · exact .inl ⟨hb, by omega⟩
  rcases h with ⟨h1, h2⟩ | ⟨a, b, h1, h3, h4, h5⟩
  · exact .inl ⟨h1, fun a b hp => (key a b hp).elim (h2 a b) id⟩
  · refine .inr ⟨a, b, ⟨h1.1, .inl (by have := h1.2; omega)⟩, h3, h4, fun a' b' hp => ?_⟩
    rcases key a' b' hp with h | h
    · exact h5 a' b' h
    · exact .inl (by rw [h]; exact h3)
/-- a cell that matches -/
theorem Best.step {mt : Nat → Nat → Bool} {alo blo : Int} {n c : Nat} {t : Int × Int × Int} (h : Best mt alo blo n c t) (hc : c < 6) (hp : 0 < sufS mt (n + 1) (c + 1)) :
    Best mt alo blo n (c + 1) (if t.2.2 < (sufS mt (n + 1) (c + 1) : Int) then (alo + (n + 1 : Nat) - sufS mt (n + 1) (c + 1), blo + (c + 1 : Nat) - sufS mt (n + 1) (c + 1), (sufS mt (n + 1) (c + 1) : Int)) else t) := by
  have new : Seen n (c + 1) (n + 1) (c + 1) := ⟨hc, .inr ⟨rfl, Nat.le_refl _⟩⟩
  have key : ∀ a b, Seen n (c + 1) a b → Seen n c a b ∨ a = n + 1 ∧ b = c + 1 := by
    rintro a b ⟨hb, hp⟩
    by_cases h : a = n + 1 ∧ b = c + 1
    · exact .inr h
    · exact .inl ⟨hb, by omega⟩
  rcases h with ⟨h1, h2⟩ | ⟨a, b, h1, h3, h4, h5⟩
  · subst h1
    rw [if_pos (by dsimp only; omega)]
    refine .inr ⟨n + 1, c + 1, new, hp, rfl, fun a' b' hp' => ?_⟩
    rcases key a' b' hp' with h | ⟨rfl, rfl⟩
    · exact .inl (by rw [h2 a' b' h]; exact hp)
    · exact .inr ⟨rfl, .inr ⟨rfl, Nat.le_refl _⟩⟩
  · subst h4
    dsimp only
    split
    · rename_i hlt
      refine .inr ⟨n + 1, c + 1, new, hp, rfl, fun a' b' hp' => ?_⟩
      rcases key a' b' hp' with h | ⟨rfl, rfl⟩
      · rcases h5 a' b' h with h | ⟨h, _⟩ <;> exact .inl (by omega)
      · exact .inr ⟨rfl, .inr ⟨rfl, Nat.le_refl _⟩⟩
    · rename_i hlt
      refine .inr ⟨a, b, ⟨h1.1, by have := h1.2; omega⟩, h3, rfl, fun a' b' hp' => ?_⟩
      rcases key a' b' hp' with h | ⟨rfl, rfl⟩
      · exact h5 a' b' h
      · rcases Nat.lt_or_ge (sufS mt (n + 1) (c + 1)) (sufS mt a b) with h | h
        · exact .inl h
        · refine .inr ⟨by omega, ?_⟩
          have := h1.2
          omega
theorem kdfLook_nil (k : Int) : kdfLook [] k 0 = 0 := rfl
theorem kdfLook_put (c : List (Int × Int)) (k v j : Int) : kdfLook (kdfPut c k v) j 0 = if j = k then v else kdfLook c j 0 := by
  unfold kdfPut
  split
  · rename_i h
    unfold kdfLook
    induction c with
    | nil => cases h
    | cons p c ih =>
      rw [List.map_cons]
      by_cases e : p.1 = k
      · rw [if_pos (by simpa using e)]
        by_cases ej : j = k
        · rw [if_pos ej, List.find?_cons_of_pos (by simp [e, ej])]; rfl
        · rw [if_neg ej, List.find?_cons_of_neg (by simp [e]; exact fun h => ej h.symm), List.find?_cons_of_neg (by simp [e]; exact fun h => ej h.symm)]
          clear h ih
          congr 2
          induction c with
          | nil => rfl
          | cons q c ih2 =>
            rw [List.map_cons]
            by_cases eq : q.1 = k
            · rw [if_pos (by simpa using eq), List.find?_cons_of_neg (by simp; intro h; exact ej (h.symm.trans eq)), List.find?_cons_of_neg (by simp; intro h; exact ej (h.symm.trans eq))]
              exact ih2
            · rw [if_neg (by simpa using eq)]
              by_cases eqj : q.1 = j
              · rw [List.find?_cons_of_pos (by simp [eqj]), List.find?_cons_of_pos (by simp [eqj])]
              · rw [List.find?_cons_of_neg (by simp [eqj]), List.find?_cons_of_neg (by simp [eqj])]
                exact ih2
      · rw [if_neg (by simpa using e)]
        have h' : (c.any fun p => decide (p.1 = k)) = true := by
          rw [List.any_cons] at h
          simpa [e] using h
        by_cases ej : p.1 = j
        · rw [List.find?_cons_of_pos (by simp [ej]), List.find?_cons_of_pos (by simp [ej]), if_neg (by rw [← ej]; exact e)]
        · rw [List.find?_cons_of_neg (by simp [ej]), List.find?_cons_of_neg (by simp [ej])]
          exact ih h'
  · rename_i h
    unfold kdfLook
    rw [List.find?_append]
    by_cases ej : j = k
    · rw [if_pos ej]
      have : c.find? (fun p => decide (p.1 = j)) = none := by
        rw [List.find?_eq_none]
        intro p hp e
        apply h
        rw [List.any_eq_true]
        exact ⟨p, hp, by rw [ej] at e; exact e⟩
      rw [this]
      simp [ej]
    · rw [if_neg ej]
      cases e : c.find? (fun p => decide (p.1 = j)) with
      | some q => rfl
      | none =>
        have ej' : ¬ k = j := fun h => ej h.symm
        simp [ej']
/-- the inner loop is a fold over the indices within the window -/
theorem inGo_fold (old : List (Int × Int)) (i blo bhi : Int) : ∀ (js : List Int) (st : St4), js.Pairwise (· < ·) → inGo old i blo bhi js st = (js.filter fun j => decide (blo ≤ j ∧ j < bhi)).foldl (fun s j => inStep old i j s) st
  | [], _, _ => rfl
  | j :: js, st, h => by
    rw [List.pairwise_cons] at h
    unfold inGo
    split
    · rename_i h1
      rw [List.filter_cons_of_neg (by simp; omega)]
      exact inGo_fold old i blo bhi js st h.2
    · split
      · rename_i h1 h2
        have : ((j :: js).filter fun j => decide (blo ≤ j ∧ j < bhi)) = [] := by
          rw [List.filter_eq_nil_iff]
          intro x hx
          rcases List.mem_cons.mp hx with rfl | hx
          · simp; omega
          · have := h.1 x hx
            simp; omega
        rw [this]; rfl
      · rename_i h1 h2
        rw [List.filter_cons_of_pos (by simp; omega), List.foldl_cons]
        exact inGo_fold old i blo bhi js _ h.2
/-- the lengths that the table keeps after a row -/
noncomputable def Lens (mt : Nat → Nat → Bool) (blo : Int) (n : Nat) (cc : List (Int × Int)) : Prop := ∀ j : Int, j < blo + 6 → kdfLook cc j 0 = sufS mt n (j - blo + 1).toNat
theorem row_fold {mt : Nat → Nat → Bool} {alo blo : Int} {n : Nat} {old : List (Int × Int)} (ho : Lens mt blo n old) : ∀ (F : List Int) (c : Nat) (cc : List (Int × Int)) (t : Int × Int × Int), F.Pairwise (· < ·) → c ≤ 6 →
    (∀ j ∈ F, blo + c ≤ j ∧ j < blo + 6) → (∀ b : Nat, c ≤ b → b < 6 → (mt n b = true ↔ blo + b ∈ F)) → (∀ j : Int, j < blo + c → kdfLook cc j 0 = sufS mt (n + 1) (j - blo + 1).toNat) → (∀ j : Int, blo + c ≤ j → kdfLook cc j 0 = 0) → Best mt alo blo n c t →
    Lens mt blo (n + 1) (F.foldl (fun s j => inStep old (alo + n) j s) (cc, t)).1 ∧ Best mt alo blo (n + 1) 0 (F.foldl (fun s j => inStep old (alo + n) j s) (cc, t)).2
  | [], c, cc, t, _, hc, _, hm, h1, h2, hb => by
    have hz : ∀ b : Nat, c < b → b ≤ 6 → sufS mt (n + 1) b = 0 := by
      intro b hb1 hb2
      obtain ⟨b', rfl⟩ : ∃ b', b = b' + 1 := ⟨b - 1, by omega⟩
      unfold sufS
      rw [if_neg (fun e => by have := (hm b' (by omega) (by omega)).mp e; cases this)]
    refine ⟨fun j hj => ?_, (hb.skip hc hz).next⟩
    dsimp only [List.foldl_nil]
    rcases Int.lt_or_le j (blo + c) with h | h
    · exact h1 j h
    · rw [h2 j h, hz (j - blo + 1).toNat (by omega) (by omega)]
      rfl
  | j :: F, c, cc, t, hp, hc, hF, hm, h1, h2, hb => by
    rw [List.pairwise_cons] at hp
    obtain ⟨j1, j2⟩ := hF j (.head _)
    obtain ⟨b, rfl⟩ : ∃ b : Nat, j = blo + b := ⟨(j - blo).toNat, by omega⟩
    have hcb : c ≤ b := by omega
    have hb6 : b < 6 := by omega
    have hmb : mt n b = true := (hm b hcb hb6).mpr (.head _)
    have hv : kdfLook old (blo + b - 1) 0 + 1 = (sufS mt (n + 1) (b + 1) : Int) := by
      rw [ho _ (by omega), sufS_succ, if_pos hmb, show (blo + (b : Int) - 1 - blo + 1).toNat = b by omega]
      rfl
    have hpos : 0 < sufS mt (n + 1) (b + 1) := by
      unfold sufS
      rw [if_pos hmb]
      omega
    have hz : ∀ b' : Nat, c < b' → b' ≤ b → sufS mt (n + 1) b' = 0 := by
      intro b' hb1 hb2
      obtain ⟨b2, rfl⟩ : ∃ b2, b' = b2 + 1 := ⟨b' - 1, by omega⟩
      unfold sufS
      rw [if_neg]
      intro e
      rcases List.mem_cons.mp ((hm b2 (by omega) (by omega)).mp e) with h | h
      · omega
      · have := hp.1 _ h; omega
    have hb' := (hb.skip hcb hz).step hb6 hpos
    rw [List.foldl_cons]
    have hst : inStep old (alo + n) (blo + b) (cc, t) = (kdfPut cc (blo + b) (sufS mt (n + 1) (b + 1) : Int), if t.2.2 < (sufS mt (n + 1) (b + 1) : Int) then (alo + (n + 1 : Nat) - sufS mt (n + 1) (b + 1), blo + (b + 1 : Nat) - sufS mt (n + 1) (b + 1), (sufS mt (n + 1) (b + 1) : Int)) else t) := by
      unfold inStep
      rw [hv]
      dsimp only
      congr 2
      · rw [show alo + (n : Int) - (sufS mt (n + 1) (b + 1) : Int) + 1 = alo + ((n + 1 : Nat) : Int) - (sufS mt (n + 1) (b + 1) : Int) by omega]
        congr 1
        rw [show blo + (b : Int) - (sufS mt (n + 1) (b + 1) : Int) + 1 = blo + ((b + 1 : Nat) : Int) - (sufS mt (n + 1) (b + 1) : Int) by omega]
    rw [hst]
    refine row_fold ho F (b + 1) _ _ hp.2 hb6 (fun x hx => ⟨by have := hp.1 x hx; omega, (hF x (.tail _ hx)).2⟩) (fun b' hb1 hb2 => ?_) (fun x hx => ?_) (fun x hx => ?_) hb'
    · rw [hm b' (by omega) hb2, List.mem_cons]
      exact ⟨fun h => h.resolve_left (by omega), .inr⟩
    · rw [kdfLook_put]
      split
      · rename_i e
        rw [e, show (blo + (b : Int) - blo + 1).toNat = b + 1 by omega]
      · rcases Int.lt_or_le x (blo + c) with h | h
        · exact h1 x h
        · rw [h2 x h, hz (x - blo + 1).toNat (by omega) (by omega)]; rfl
    · rw [kdfLook_put, if_neg (by omega)]
      exact h2 x (by omega)
/-- after all rows -/
theorem outGo_best {mt : Nat → Nat → Bool} {alo blo : Int} {row : Nat → List Int} (hs : ∀ n, n < 6 → (row n).Pairwise (· < ·)) (hm : ∀ n b : Nat, n < 6 → b < 6 → (mt n b = true ↔ blo + b ∈ row n)) : ∀ n, n ≤ 6 → Lens mt blo n (outGo row alo blo n).1 ∧ Best mt alo blo n 0 (outGo row alo blo n).2
  | 0, _ => ⟨fun j _ => rfl, .inl ⟨rfl, fun a b h => by
      obtain ⟨_, h | ⟨_, h⟩⟩ := h
      · rw [Nat.le_zero.mp h]; rfl
      · rw [Nat.le_zero.mp h]; exact sufS_zero mt a⟩⟩
  | n + 1, h => by
    obtain ⟨h1, h2⟩ := outGo_best hs hm n (by omega)
    unfold outGo
    rw [inGo_fold _ _ _ _ _ _ (hs n (by omega))]
    refine row_fold h1 _ 0 [] _ ((hs n (by omega)).filter _) (by omega) (fun j hj => ?_) (fun b _ hb => ?_) (fun j hj => ?_) (fun j _ => rfl) h2
    · have := (List.mem_filter.mp hj).2
      simp only [decide_eq_true_eq] at this
      omega
    · rw [hm n b (by omega) hb, List.mem_filter]
      simp only [decide_eq_true_eq]
      exact ⟨fun h => ⟨h, by omega⟩, (·.1)⟩
    · rw [show (j - blo + 1).toNat = 0 by omega]; rfl
end Mine
end
section
open PySem PySem.W PySem.Calls PyProof.Rows
set_option maxRecDepth 100000
namespace Mine
section
variable {prog : Program} {w : World} {A : Around} {E : Value → Shared → Prop} {s : Shared} {a q : Addr} {h₀ : Heap} {L : Addr} {m : Str → Option Value} {news : List (Addr × Obj)} {o : Obj}
theorem r_call_dgetI {kvs : List (Int × Value)} {c : List (Int × Int)} {k e : Int} {tk te : Tok} {d : Addr} {Q : Value → Shared → Prop} (N : News h₀ L s.heap news) (hq : (q, bmeth "dict.get" d) ∈ news) (hd : (d, o) ∈ news) (hD : o.IsDictOf (PySem.intKind prog w) kvs) (hf : PyProof.V.FlatPairs PyData.int kvs (kdfD c)) (lo : (d == sysModules) = false)
    (h : ∀ t, Q (.int (kdfLook c k e) t) { s with toks := s.toks + 1 }) : wpAny (model prog w) A (call (.ref q) [.int k tk, .int e te]) Q E s := by
  have hv := hf.getD PyProof.V.same_int k (PyProof.V.Flat.int e te)
  rw [kdfD_getD] at hv
  obtain ⟨t, ht⟩ := PyProof.V.Flat.int_inv hv
  refine r_call_dget N hq hd hD lo (intKind_is prog w k tk) ?_
  rw [ht]
  exact h t
noncomputable def ObjSet {K : Type} [DecidableEq K] (knd : KeyKind prog w K) (o : Obj) (S : K → Bool) : Prop := ∃ n, ∀ (h : Heap) (a : Addr), h.get? a = some o → h.SetOf knd a S n
theorem r_call_sconS {S : Str → Bool} {k : Str} {t : Tok} {d : Addr} {Q : Value → Shared → Prop} (N : News h₀ L s.heap news) (hq : (q, bmeth "set.__contains__" d) ∈ news) (hd : (d, o) ∈ news) (hS : ObjSet (PySem.strKind prog w) o S)
    (h : Q (.bool (S k)) { s with toks := s.toks + 1 }) : wpAny (model prog w) A (call (.ref q) [.str k t]) Q E s := by
  obtain ⟨n, hS⟩ := hS
  exact r_call_scon N hq (hS _ _ (N _ hd).1) (strKind_is prog w k t) rfl h
theorem r_bm_and {id : String} {b u : Addr} {h₁ : Heap} {P : Prop} (N : News h₀ L h₁ news) (hm : (u, bmeth id b) ∈ news) (h : P) : h₁.get? u = some (bmeth id b) ∧ P := ⟨(N _ hm).1, h⟩
end
theorem IsDictOf.obj {prog : Program} {w : World} {K : Type} [DecidableEq K] {knd : KeyKind prog w K} {o : Obj} {kvs : List (K × Value)} (h : o.IsDictOf knd kvs) : IsDictObj o := by
  obtain ⟨es, ep, hex, hdat, _⟩ := h
  exact ⟨hex.1, hex.2.1, es, _, hdat⟩
end Mine
end
section
open PySem PySem.W PyProof.Rows
set_option maxRecDepth 100000
namespace Mine
theorem pcPre (w : World) (os : OsState) : topGo treeTable PySem.Challenge.pw_oy0507_01 w 11 (some (.ref 6)) 12 ⟨boot_heap w.params, Array.mk [], boot_drawn, boot_toks, os⟩ (topStub PySem.Challenge.pw_oy0507_01) = some ((stM tr0 15 187 w os).abs, ⟨denote treeTable cM, cM, ⟨0, 0, 0, 0⟩, [topFrame ⟨0, 0, 0, 0⟩]⟩) := by
  unfold cM enM
  rewrite [PySem.W.Fast.te15667345088766844465, PySem.W.Fast.te14364793385576792824, PySem.W.Fast.te11892475500146522536]
  kernel_rfl
theorem pcBlock (w : World) (os : OsState) : segRun treeTable PySem.Challenge.pw_oy0507_01 w 11 (some (.ref 6)) 1 1 (stM tr0 15 187 w os).abs (blockOf (behindTheImports PySem.Challenge.pw_oy0507_01) enM cM ⟨0, 0, 0, 0⟩ [topFrame ⟨0, 0, 0, 0⟩]) = some (.next, (stM tr0 15 187 w os).abs, cM, ⟨0, 0, 0, 0⟩) := by
  kernel_rfl
theorem pcFin (w : World) (os : OsState) : topRun treeTable PySem.Challenge.pw_oy0507_01 w 11 (some (.ref 6)) 2 (stM trD 327 722 w os).abs ⟨doneF .next, cM, ⟨497, 0, 502, 89⟩, [topFrame ⟨0, 0, 0, 0⟩]⟩ = some ⟨hpF w.params, Array.mk [], ⟨0, 0, 0, 0⟩, 722, os⟩ := by
  rewrite [PySem.W.Fast.te14082659384304107361]
  kernel_rfl
theorem topRuns (w : World) (os : OsState) : topRun treeTable PySem.Challenge.pw_oy0507_01 w 11 (some (.ref 6)) (12 + (1 + (362 + (1047 + (679 + (591 + 2)))))) ⟨boot_heap w.params, Array.mk [], boot_drawn, boot_toks, os⟩ (topStub PySem.Challenge.pw_oy0507_01) = some ⟨hpF w.params, Array.mk [], ⟨0, 0, 0, 0⟩, 722, os⟩ := by
  refine go_top (pcPre w os) (piece_block (pcBlock w os) ?_)
  rw [body_cut]
  exact piece_app (segRun_of (pcA w os)) (piece_app (segRun_of (pcB w os)) (piece_app (segRun_of (pcC w os)) (piece_app (segRun_of (pcD w os)) (piece_nil (pcFin w os)))))
theorem pcSize (w : World) : ((boot_heap w.params).isNs mainGlobals && (Array.mk [] : Array GenState).size == 0, (boot_heap w.params).objs.size, (boot_heap w.params).nsMap mainGlobals "__annotations__") = (true, 11, some (.ref 6)) := by
  kernel_rfl
theorem pcOpen : ∀ w : World, (fencedOpening treeTable PySem.Challenge.pw_oy0507_01 w 5458).map (fun s => (s.heap, s.gens, s.drawn, s.toks)) = some (boot_heap w.params, Array.mk [], boot_drawn, boot_toks) :=
  boot_open (by kernel_rfl) (by decide) (fun s => by kernel_rfl)
end Mine
end
section
open PySem PySem.W PyProof.Rows
set_option maxRecDepth 100000
namespace Mine
theorem kAs_eq (P : Params) : kAs = (kK P).map (·.1) := by kernel_rfl
noncomputable abbrev hookM : Hook := kmHook kK kAs kAs_eq [316]
noncomputable abbrev xtM (s : Shared) : Bool := xlAt viewP lvL s && recOk (RowW.records PySem.Challenge.rw_oy0507_01.row.toRowW) s
theorem pcLook1 (w : World) (os : OsState) : (staticsOk (importedModules PySem.Challenge.pw_oy0507_01.main.body) (boot_heap w.params) (hpF w.params) && namesBound PySem.Challenge.pw_oy0507_01 (hpF w.params) && gensDone ⟨hpF w.params, Array.mk [], ⟨0, 0, 0, 0⟩, 722, os⟩ && laidKept (boot_heap w.params) (hpF w.params)) = true := by
  rewrite [PySem.W.Fast.te5923862056798008813]
  kernel_rfl
theorem pcLook3 (w : World) (os : OsState) : hookM.obs ⟨hpF w.params, Array.mk [], ⟨0, 0, 0, 0⟩, 722, os⟩ = hookM.val w := by
  show (kAs.map (hpF w.params).get?, [316].map (hpF w.params).get?) = ((kK w.params).map fun p => some p.2, [316].map fun _ => some (tabObj #[]))
  kernel_rfl
theorem pcLook2 (w : World) (os : OsState) : openSeen viewP looseL (importedModules PySem.Challenge.pw_oy0507_01.main.body) xtM true ⟨hpF w.params, Array.mk [], ⟨0, 0, 0, 0⟩, 722, os⟩ = openGood viewP looseL := by
  rewrite [PySem.W.Fast.te4187177175401517315, PySem.W.Fast.te5923862056798008813]
  unfold xtM
  skip
  kernel_rfl
end Mine
end
section
open PySem PySem.W PyProof.Rows
set_option maxRecDepth 100000
namespace Mine
theorem leftM : LeftO PySem.Challenge.rw_oy0507_01.row.toRowW.prog viewP looseL xtM hookM.obs hookM.val 5458 true :=
  LeftO.of_pieces (p := PySem.Challenge.pw_oy0507_01) (H₀ := boot_heap) (H₁ := hpF) (M := 12 + (1 + (362 + (1047 + (679 + (591 + 2)))))) pcOpen pcSize topRuns (by decide) (fun w => funext fun os => Prod.ext (pcLook1 w os) (Prod.ext (pcLook2 w os) (pcLook3 w os)))
end Mine
end
section
open PySem PySem.W PySem.Calls PyProof.Rows
namespace Mine
noncomputable abbrev KK : Params → Frag := kK
noncomputable abbrev PP : Program := PySem.Challenge.rw_oy0507_01.row.prog
noncomputable abbrev AA (n : Nat) (fr : List Env) : Around := { handled := none, depth := 1 + claimMargin + 10 * n, frames := some fr, guards := some [], units := 4 + 50 * n }
noncomputable abbrev Kept (h h' : Heap) : Prop := ∀ b o, h.get? b = some o → h'.get? b = some o
theorem any_le {α : Type} {M : Model} {A A' : Around} {t : Sem α} {Q : α → Shared → Prop} {E : Value → Shared → Prop} {s : Shared} (h : wpAny M A t Q E s)
    (e1 : A'.handled = A.handled) (e2 : A'.depth ≤ A.depth) (e3 : A'.frames = A.frames) (e4 : A'.guards = A.guards) (e5 : A'.units ≤ A.units) : wpAny M A' t Q E s := fun Γ p hΓ =>
  h Γ p ⟨hΓ.1.trans e1, Nat.le_trans hΓ.2.1 e2, fun l hl => hΓ.2.2.1 l (e3.trans hl), fun g hg => hΓ.2.2.2.1 g (e4.trans hg), Nat.le_trans hΓ.2.2.2.2 e5⟩
/-- into a def, its base the heap less the objects of nl, which stand in its ledger -/
theorem enterP {w : World} {A : Around} {fr : List Env} {base : Heap} {s : Shared} {K : Frag} {p : Program} {loose : List Str} {mean : ExcName → Option Value} {mg mb : Str → Option Value} {nl : List (Addr × Obj)}
    {R : Result → Shared → Prop} {prog : Program} {name qual : Str} {params : Arguments} {body : List Stmt} {scope : Scope} {dV kV doc pm cdv ct oc : Value} {an od : Option Addr} {osl : Array (Option Value)} {f : Addr} {args : Args} {binds : List (Str × Value)}
    (B : Below A base fr (hideAll s.heap (nl.map (·.1)))) (X : K.In (hideAll s.heap (nl.map (·.1)))) (T : Top p loose mean mg mb (hideAll s.heap (nl.map (·.1)))) (N : ∀ p ∈ nl, s.heap.get? p.1 = some p.2)
    (ho : K.lookup f = some ⟨oc, od, .func (fnOf name qual params body scope dV kV doc pm an cdv ct), osl⟩) (hcd : codeIn K cdv qual = true) (hroom : A.depth < recursionLimit)
    (hbind : BindsTo s (fnOf name qual params body scope dV kV doc pm an cdv ct) args binds) (hloc : ∀ y ∈ binds, scope.names.lookup y.1 = some .local)
    (h : ∀ g L' h₁, g = hideAll s.heap (nl.map (·.1)) → Fr g L' h₁ (fun y => binds.reverse.lookup y) → News g L' h₁ nl → Below A base fr g → K.In g → Top p loose mean mg mb g → (∀ p ∈ nl, p.1 < L') →
      wpAny (model prog w) (A.deeper (envOf qual scope L' f cdv)) (execs body (envOf qual scope L' f cdv))
        (fun fl s' => R (.ok (.ret (match fl with | .ret v => v | _ => .none))) s')
        (fun e s' => wpAny (model prog w) (A.deeper (envOf qual scope L' f cdv)) (leaving (envOf qual scope L' f cdv) e) (fun _ s'' => R (.error e) s'') (fun e' s'' => R (.error e') s'') s')
        { s with heap := h₁, toks := s.toks + binds.length })
    (hco : scope.isCoroutine = false) (hgen : scope.isGenerator = false) (hk : scope.kind = .function)
    (hcell : ∀ x ∈ scope.names, x.2 ≠ .cell) : codeAny (model prog w) A (.call (.ref f) args) R s := by
  have st : Kept (hideAll s.heap (nl.map (·.1))) s.heap := fun b o e => of_hideAll _ e
  have X' : K.In s.heap := X.keeps st
  refine codeAny_call_def (fd := fnOf name qual params body scope dV kV doc pm an cdv ct) (body := body) (binds := binds) hroom (X' _ _ ho) rfl (T.nolimit.keeps st) (codeRec_of X' hcd) rfl hbind hcell hloc (fun h₁ hns hk₁ => ?_) hco hgen hk
  refine h _ s.heap.objs.size h₁ rfl ⟨hns, fun b o e => hk₁ b o (of_hideAll _ e), Nat.le_of_eq (hideAll_size _ _)⟩ (fun p hp => ⟨hk₁ _ _ (N p hp), Nat.ne_of_lt (Heap.lt_size (N p hp)), hideAll_none _ (List.mem_map_of_mem hp)⟩) B X T (fun p hp => Heap.lt_size (N p hp))
/-- what a call of a contract's def wants of the caller, at a call from a walked frame -/
structure Cx (A : Around) (fr : List Env) (w : World) (K : Frag) (p : Program) (loose : List Str) (mean : ExcName → Option Value) (mg mb : Str → Option Value) (base : Heap) (h : Heap) (nl : List (Addr × Obj)) : Prop where
  B : Below A base fr (hideAll h (nl.map (·.1)))
  X : K.In (hideAll h (nl.map (·.1)))
  T : Top p loose mean mg mb (hideAll h (nl.map (·.1)))
  N : ∀ p ∈ nl, h.get? p.1 = some p.2
theorem Cx.of {A A₁ : Around} {fr : List Env} {w : World} {K : Frag} {p : Program} {loose : List Str} {mean : ExcName → Option Value} {mg mb : Str → Option Value} {base h₀ h : Heap} {L a : Addr} {m : Str → Option Value} {cn : Str} {cs : Scope} {ccd : Value} {news nl : List (Addr × Obj)}
    (B : Below A base fr h₀) (F : Fr h₀ L h m) (N : News h₀ L h news) (X : K.In h₀) (T : Top p loose mean mg mb h₀) (hs : ∀ p ∈ nl, p ∈ news) (hA : A₁.frames = some (envOf cn cs L a ccd :: fr)) (hck : cs.kind = .function) :
    Cx A₁ (envOf cn cs L a ccd :: fr) w K p loose mean mg mb base h nl := by
  have N' : News h₀ L h nl := fun p hp => N p (hs p hp)
  have nm : ∀ b o, h₀.get? b = some o → b ∉ nl.map (·.1) := fun b o e q => by
    obtain ⟨p, hp, rfl⟩ := List.mem_map.mp q
    rw [(N' p hp).2.2] at e; cases e
  have st : h₀.StaysIn (hideAll h (nl.map (·.1))) := fun b o e => hideAll_get _ (F.keep b o e) (nm b o e)
  obtain ⟨oL, es, ep, hL, hLd, hLk, hLf⟩ := F.ns
  have nL : L ∉ nl.map (·.1) := fun q => by
    obtain ⟨p, hp, e⟩ := List.mem_map.mp q
    exact (N' p hp).2.1 e
  have B₁ := B.push (name := cn) (scope := cs) (a := a) (cd := ccd) F hck
  exact ⟨⟨hA, fun b o e => st b o (B.stays b o e), funFrames_hideAll B₁.frames fun env he b hb hf => by
    cases he with
    | head => exact nL ((Option.some.inj hf : L = b) ▸ hb)
    | tail _ he =>
      obtain ⟨L₁, o₁, hf₁, ho₁⟩ := funFrames_in B.frames env he
      rw [hf₁] at hf
      exact nm L₁ o₁ ho₁ ((Option.some.inj hf : L₁ = b) ▸ hb)⟩, X.keeps st, T.keeps st, fun p hp => (N' p hp).1⟩
end Mine
end
section
open PySem PySem.W PySem.Calls PyProof.Rows
namespace Mine
noncomputable def en (P : Params) (x : Str) (t : Tok) (v : Value) : DictEntry := ⟨PyData.keyHash P x, .str x t, v⟩
end Mine
end
section
open PySem PySem.W PySem.Calls PyProof.Rows
namespace Mine
/-- the end hidden behind a name: a walk's terms stay small -/
theorem opq {α : Type} {M : Model} {A : Around} {t : Sem α} {P : α → Shared → Prop} {E : Value → Shared → Prop} {s : Shared} (h : ∀ Q : α → Shared → Prop, (∀ f s', P f s' → Q f s') → wpAny M A t Q E s) : wpAny M A t P E s := h P fun _ _ x => x
theorem pr2 {α β : Type} {P : α × β → Prop} (h : ∀ a b, P (a, b)) : ∀ x, P x := fun x => h x.1 x.2
theorem pr3 {α β γ : Type} {P : α × β × γ → Prop} (h : ∀ a b c, P (a, b, c)) : ∀ x, P x := fun x => h x.1 x.2.1 x.2.2
/-- one object of a ledger behind a name -/
theorem hide2 {h₀ h : Heap} {L dd : Addr} {o : Obj} {a b : Addr × Obj} {r : List (Addr × Obj)} (N : News h₀ L h (a :: b :: (dd, o) :: r)) : ∃ oD, oD = o ∧ News h₀ L h (a :: b :: (dd, oD) :: r) := ⟨_, rfl, N⟩
theorem hide4 {h₀ h : Heap} {L dd : Addr} {o : Obj} {a b c d : Addr × Obj} {r : List (Addr × Obj)} (N : News h₀ L h (a :: b :: c :: d :: (dd, o) :: r)) : ∃ oD, oD = o ∧ News h₀ L h (a :: b :: c :: d :: (dd, oD) :: r) := ⟨_, rfl, N⟩
theorem hide6 {h₀ h : Heap} {L dd : Addr} {o : Obj} {a b c d e f : Addr × Obj} {r : List (Addr × Obj)} (N : News h₀ L h (a :: b :: c :: d :: e :: f :: (dd, o) :: r)) : ∃ oD, oD = o ∧ News h₀ L h (a :: b :: c :: d :: e :: f :: (dd, oD) :: r) := ⟨_, rfl, N⟩
theorem pr6 {α β γ δ ε ζ : Type} {P : (α × β × γ) × δ × ε × ζ → Prop} (h : ∀ a b c d e f, P ((a, b, c), d, e, f)) : ∀ x, P x := fun x => h x.1.1 x.1.2.1 x.1.2.2 x.2.1 x.2.2.1 x.2.2.2
theorem pr8 {α β γ δ ε ζ η θ : Type} {P : α × (β × γ × δ × ε) × ζ × η × θ → Prop} (h : ∀ a b c d e f g i, P (a, (b, c, d, e), f, g, i)) : ∀ x, P x := fun x => h x.1 x.2.1.1 x.2.1.2.1 x.2.1.2.2.1 x.2.1.2.2.2 x.2.2.1 x.2.2.2.1 x.2.2.2.2
theorem pr9 {α β γ δ ε ζ η θ ι : Type} {P : α × β × (γ × δ × ε × ζ) × η × θ × ι → Prop} (h : ∀ a b c d e f g i j, P (a, b, (c, d, e, f), g, i, j)) : ∀ x, P x := fun x => h x.1 x.2.1 x.2.2.1.1 x.2.2.1.2.1 x.2.2.1.2.2.1 x.2.2.1.2.2.2 x.2.2.2.1 x.2.2.2.2.1 x.2.2.2.2.2
theorem opqW {β : Type} {M M2 : Model} {A A2 : Around} {t : Sem Bool} {t2 : Sem β} {P : β → Shared → Prop} {P2 : Shared → Prop} {E E2 : Value → Shared → Prop} {s : Shared}
    (h : ∀ (Q : β → Shared → Prop) (Q2 : Shared → Prop), (∀ f s', P f s' → Q f s') → (∀ s', P2 s' → Q2 s') → wpAny M A t (fun b s₂ => if b = true then wpAny M2 A2 t2 Q E2 s₂ else Q2 s₂) E s) :
    wpAny M A t (fun b s₂ => if b = true then wpAny M2 A2 t2 P E2 s₂ else P2 s₂) E s := h P P2 (fun _ _ x => x) fun _ x => x
/-- what a loop's turn leaves: the ledger Led c (and own), the names ps c, the rest as in m₀ -/
noncomputable def TEnd {σ : Type} (h₀ : Heap) (L I : Addr) (x : Str) (Led : σ → List (Addr × Obj)) (ps : σ → List (Str × Value)) (stored : List Str) (m₀ : Str → Option Value) (Inv : σ → Prop) (own : List (Addr × Obj)) (s₁ s₂ : Shared) : Prop :=
  ∃ c h' tk m', s₂ = { s₁ with heap := h', toks := tk } ∧ Fr h₀ L h' m' ∧ News h₀ L h' (Led c ++ own) ∧ (∀ p ∈ Led c, p.1 ≠ I) ∧ (∀ p ∈ ps c, m' p.1 = some p.2) ∧
    (∀ z, z ≠ x → (∀ p ∈ ps c, z ≠ p.1) → stored.contains z = false → m' z = m₀ z) ∧ Inv c
noncomputable def TPost {σ : Type} (h₀ : Heap) (L I : Addr) (x : Str) (Led : σ → List (Addr × Obj)) (ps : σ → List (Str × Value)) (stored : List Str) (m₀ : Str → Option Value) (Inv Fin : σ → Prop) (own : List (Addr × Obj)) (s₁ : Shared) (Q : Flow → Shared → Prop) (f : Flow) (s₂ : Shared) : Prop :=
  match f with
  | .ret v => Q (.ret v) s₂
  | .brk => TEnd h₀ L I x Led ps stored m₀ Fin [] s₁ s₂
  | _ => TEnd h₀ L I x Led ps stored m₀ Inv own s₁ s₂
theorem TEnd.intro {σ : Type} {h₀ : Heap} {L I : Addr} {x : Str} {Led : σ → List (Addr × Obj)} {ps : σ → List (Str × Value)} {stored : List Str} {m₀ : Str → Option Value} {Inv : σ → Prop} {own news' : List (Addr × Obj)} {s₁ : Shared} {h' : Heap} {tk : Nat} {m' : Str → Option Value} (c : σ)
    (F : Fr h₀ L h' m') (N : News h₀ L h' news') (hs : ∀ p ∈ Led c ++ own, p ∈ news') (hI : ∀ p ∈ Led c, p.1 ≠ I) (hk : ∀ p ∈ ps c, m' p.1 = some p.2)
    (hr : ∀ z, z ≠ x → (∀ p ∈ ps c, z ≠ p.1) → stored.contains z = false → m' z = m₀ z) (hi : Inv c) : TEnd h₀ L I x Led ps stored m₀ Inv own s₁ { s₁ with heap := h', toks := tk } :=
  ⟨c, h', tk, m', rfl, F, fun p hp => N p (hs p hp), hI, hk, hr, hi⟩
theorem off_of {I : Addr} {l l' : List (Addr × Obj)} (h : ∀ p ∈ l, p.1 ≠ I) (e : l'.map (·.1) = l.map (·.1)) : ∀ p ∈ l', p.1 ≠ I := fun p hp => by
  have : p.1 ∈ l'.map (·.1) := List.mem_map_of_mem hp
  rw [e] at this
  obtain ⟨q, hq, hqe⟩ := List.mem_map.mp this
  exact hqe ▸ h q hq
section
variable {prog : Program} {w : World} {A : Around} {E : Value → Shared → Prop} {s : Shared} {env : Env} {h₀ : Heap} {x : Str} {body : List Stmt} {Q : Flow → Shared → Prop}
theorem for_walk {σ : Type} {I : Addr} {fp : List Addr} {n : Nat} {P : Nat → Value → Prop} {St : Nat → Heap → Prop} {m₀ : Str → Option Value} (Led : σ → List (Addr × Obj)) (ps : σ → List (Str × Value)) (stored : List Str) (Inv : Nat → σ → Prop) (Fin : σ → Prop) (c₀ : σ)
    (W : Walks prog w A I fp [I] n P St) (hLf : env.locals ∉ fp) (hI : h₀.get? I = none) (hSI : ∀ i h, St i h → ∃ o, h.get? I = some o)
    (src : ∀ b ∈ fp, b ≠ I → (∃ o, h₀.get? b = some o) ∨ ∃ o, ∀ c, (b, o) ∈ Led c)
    (hn : ∀ p ∈ Led c₀, p.1 ≠ I) (hst : St 0 s.heap) (F : Fr h₀ env.locals s.heap m₀) (N : News h₀ env.locals s.heap (Led c₀)) (hk : ∀ p ∈ ps c₀, m₀ p.1 = some p.2) (hinv : Inv 0 c₀)
    (turn : ∀ i v c (u : Str → Option Value) h tk oI, i < n → P i v → Inv i c → (∀ p ∈ Led c, p.1 ≠ I) → Fr h₀ env.locals h (fun y => if y = x then some v else kstB (fun z => if stored.contains z then u z else m₀ z) (ps c) y) → News h₀ env.locals h (Led c ++ [(I, oI)]) →
      wpAny (model prog w) A (execs body env) (TPost h₀ env.locals I x Led ps stored m₀ (Inv (i + 1)) Fin [(I, oI)] { s with heap := h, toks := tk } Q) E { s with heap := h, toks := tk })
    (fin : ∀ c, Inv n c → Fin c)
    (done : ∀ c (u : Str → Option Value) h tk, Fin c → Fr h₀ env.locals h (fun y => if y = x then u y else kstB (fun z => if stored.contains z then u z else m₀ z) (ps c) y) → News h₀ env.locals h (Led c) → Q .next { s with heap := h, toks := tk }) :
    LoopAtV prog w A h₀ env x body Q E (.ref I) s := by
  refine ⟨I, fp, [I], n, P, St, m₀, Led c₀, fun i m nx => ∃ c, nx = Led c ∧ (∀ p ∈ ps c, m p.1 = some p.2) ∧ (∀ z, z ≠ x → (∀ p ∈ ps c, z ≠ p.1) → stored.contains z = false → m z = m₀ z) ∧ Inv i c, rfl, W, hLf, ?_, ?_, hst, F, N, ⟨c₀, rfl, hk, fun _ _ _ _ => rfl, hinv⟩, ?_, ?_⟩
  · intro b hb
    rw [List.mem_singleton.mp hb]
    exact hI
  · intro p hp h
    exact hn p hp (List.mem_singleton.mp h)
  · rintro i v m₁ nx s₁ own ⟨h, tk, rfl⟩ hi hP ⟨c, rfl, h1, h2, hv⟩ hoff hown hget hall hst' F₁ N₁
    obtain ⟨oI, hoI⟩ := hSI _ _ hst'
    have hIfp : I ∈ fp := W.sub I (.head _)
    have mI : (I, oI) ∈ own := hall I hIfp hI oI hoI
    have hoff' : ∀ p ∈ Led c, p.1 ≠ I := fun p hp e => hoff p hp (by rw [e]; exact .head _)
    have N₂ : News h₀ env.locals h (Led c ++ [(I, oI)]) := by
      intro p hp
      rcases List.mem_append.mp hp with hp | hp
      · exact N₁ p (List.mem_append_right _ hp)
      · rw [List.mem_singleton.mp hp]; exact N₁ _ (List.mem_append_left _ mI)
    have big : ∀ c' h' (m' : Str → Option Value), News h₀ env.locals h' (Led c' ++ [(I, oI)]) → News h₀ env.locals h' (own ++ Led c') := by
      intro c' h' m' N' p hp
      rcases List.mem_append.mp hp with hp | hp
      · by_cases e : p.1 = I
        · have := hget p hp
          rw [e, hoI] at this
          have e2 : p = (I, oI) := Prod.ext e (Option.some.inj this).symm
          rw [e2]; exact N' _ (List.mem_append_right _ (.head _))
        · rcases src p.1 (hown p hp) e with ⟨o, ho⟩ | ⟨o, ho⟩
          · have := (N₁ p (List.mem_append_left _ hp)).2.2
            rw [ho] at this; cases this
          · have h3 := (N₁ _ (List.mem_append_right _ (ho c))).1
            have h4 := (N₁ p (List.mem_append_left _ hp)).1
            rw [h3] at h4
            have e2 : p = (p.1, o) := Prod.ext rfl (Option.some.inj h4).symm
            rw [e2]; exact N' _ (List.mem_append_left _ (ho c'))
      · exact N' p (List.mem_append_left _ hp)
    refine wpAny_mono (turn i v c m₁ h tk oI hi hP hv hoff' (kst_fr h1 h2 F₁) N₂) (fun f s₂ p => ?_) fun _ _ x => x
    have up : TEnd h₀ env.locals I x Led ps stored m₀ (Inv (i + 1)) [(I, oI)] { s with heap := h, toks := tk } s₂ → LoopStepU h₀ env.locals [I] own (fun m nx => ∃ c, nx = Led c ∧ (∀ p ∈ ps c, m p.1 = some p.2) ∧ (∀ z, z ≠ x → (∀ p ∈ ps c, z ≠ p.1) → stored.contains z = false → m z = m₀ z) ∧ Inv (i + 1) c) { s with heap := h, toks := tk } .next s₂ := by
      rintro ⟨c', h', tk', m', rfl, F', N', hI', hk', hr', hv'⟩
      exact ⟨rfl, h', tk', m', Led c', rfl, F', big c' h' m' N', fun p hp e => hI' p hp (List.mem_singleton.mp e), ⟨c', rfl, hk', hr', hv'⟩⟩
    cases f with
    | ret v => exact .ret p
    | brk =>
      obtain ⟨c', h', tk', m', rfl, F', N', hI', hk', hr', hv'⟩ := p
      exact .brk (done c' m' h' tk' hv' (kst_frOut hk' hr' F') (by simpa using N'))
    | next => exact .next (up p)
    | cont => exact .cont (up p)
  · rintro h tk m₁ nx F₁ N₁ _ ⟨c, rfl, h1, h2, hv⟩
    exact done c m₁ h tk (fin c hv) (kst_frOut h1 h2 F₁) N₁
theorem for_range {σ : Type} {r : Addr} {a₀ b₀ st₀ : Int} {t₀ u₀ v₀ : Tok} {n : Nat} {m₀ : Str → Option Value} (Led : σ → List (Addr × Obj)) (ps : σ → List (Str × Value)) (stored : List Str) (Inv : Nat → σ → Prop) (Fin : σ → Prop) (c₀ : σ)
    (hh : A.handled = none) (hr : IsRange s.heap r a₀ b₀ st₀ t₀ u₀ v₀) (hsmall : Builtin.Range.small a₀ b₀ st₀ = true) (hn : Builtin.Range.rangeSize a₀ b₀ st₀ = (n : Int)) (F : Fr h₀ env.locals s.heap m₀) (N : News h₀ env.locals s.heap (Led c₀)) (hk : ∀ p ∈ ps c₀, m₀ p.1 = some p.2) (hinv : Inv 0 c₀)
    (turn : ∀ I i t c (u : Str → Option Value) h tk oI, i < n → Inv i c → (∀ p ∈ Led c, p.1 ≠ I) → Fr h₀ env.locals h (fun y => if y = x then some (.int (a₀ + (i : Nat) * st₀) t) else kstB (fun z => if stored.contains z then u z else m₀ z) (ps c) y) → News h₀ env.locals h (Led c ++ [(I, oI)]) →
      wpAny (model prog w) A (execs body env) (TPost h₀ env.locals I x Led ps stored m₀ (Inv (i + 1)) Fin [(I, oI)] { s with heap := h, toks := tk } Q) E { s with heap := h, toks := tk })
    (fin : ∀ c, Inv n c → Fin c)
    (done : ∀ c (u : Str → Option Value) h tk, Fin c → Fr h₀ env.locals h (fun y => if y = x then u y else kstB (fun z => if stored.contains z then u z else m₀ z) (ps c) y) → News h₀ env.locals h (Led c) → Q .next { s with heap := h, toks := tk }) :
    wpAny (model prog w) A (pyIter (.ref r)) (fun it s₂ => LoopAtV prog w A h₀ env x body Q E it s₂) E s := by
  refine wpAny_pyIter_range hr hsmall ?_
  have W : Walks prog w A s.heap.objs.size [s.heap.objs.size] [s.heap.objs.size] n _ _ := Walks.range hh _ a₀ st₀ n
  refine for_walk Led ps stored Inv Fin c₀ W ?_ (next_is_new F) ?_ ?_ ?_ (by show IsRangeIter _ _ _ _ _; rw [hn]; simpa using Heap.get?_push_size _ rfl) (F.push _) (fun p hp => ⟨Heap.get?_push_of_some _ (N p hp).1, (N p hp).2⟩) hk hinv ?_ fin done
  · intro hm
    exact absurd F.ns.lt ((List.mem_singleton.mp hm) ▸ Nat.lt_irrefl _)
  · intro i h hs
    exact ⟨_, hs⟩
  · intro b hb hne
    exact absurd (List.mem_singleton.mp hb) hne
  · intro p hp e
    exact absurd (Heap.lt_size (N p hp).1) (e ▸ Nat.lt_irrefl _)
  · rintro i v c u h tk oI hi ⟨t, rfl⟩ hv hoff F₁ N₁
    exact turn _ i t c u h tk oI hi hv hoff F₁ N₁
theorem for_src {σ : Type} {l : Addr} {vs : Array Value} {n : Nat} {m₀ : Str → Option Value} (Led : σ → List (Addr × Obj)) (ps : σ → List (Str × Value)) (stored : List Str) (Inv : Nat → σ → Prop) (Fin : σ → Prop) (c₀ : σ)
    (hh : A.handled = none) (hls : s.heap.IsList l vs) (hL : l ≠ env.locals) (src : (∃ o, h₀.get? l = some o) ∨ ∃ o, ∀ c, (l, o) ∈ Led c) (hsz : vs.size = n) (F : Fr h₀ env.locals s.heap m₀) (N : News h₀ env.locals s.heap (Led c₀)) (hk : ∀ p ∈ ps c₀, m₀ p.1 = some p.2) (hinv : Inv 0 c₀)
    (turn : ∀ I i v c (u : Str → Option Value) h tk oI, i < n → vs[i]? = some v → Inv i c → (∀ p ∈ Led c, p.1 ≠ I) → Fr h₀ env.locals h (fun y => if y = x then some v else kstB (fun z => if stored.contains z then u z else m₀ z) (ps c) y) → News h₀ env.locals h (Led c ++ [(I, oI)]) →
      wpAny (model prog w) A (execs body env) (TPost h₀ env.locals I x Led ps stored m₀ (Inv (i + 1)) Fin [(I, oI)] { s with heap := h, toks := tk } Q) E { s with heap := h, toks := tk })
    (fin : ∀ c, Inv n c → Fin c)
    (done : ∀ c (u : Str → Option Value) h tk, Fin c → Fr h₀ env.locals h (fun y => if y = x then u y else kstB (fun z => if stored.contains z then u z else m₀ z) (ps c) y) → News h₀ env.locals h (Led c) → Q .next { s with heap := h, toks := tk }) :
    wpAny (model prog w) A (pyIter (.ref l)) (fun it s₂ => LoopAtV prog w A h₀ env x body Q E it s₂) E s := by
  have hne : l ≠ s.heap.objs.size := by
    obtain ⟨o, ho, _⟩ := id hls
    exact Nat.ne_of_lt (Heap.lt_size ho)
  refine wpAny_pyIter_list hls ?_
  have W := Walks.list (prog := prog) (w := w) hh s.heap.objs.size l hne vs
  rw [hsz] at W
  refine for_walk Led ps stored Inv Fin c₀ W ?_ (next_is_new F) ?_ ?_ ?_ ⟨⟨_, Heap.get?_push_size _ rfl, rfl, rfl⟩, hls.at fun o e => Heap.get?_push_of_some _ e⟩ (F.push _) (fun p hp => ⟨Heap.get?_push_of_some _ (N p hp).1, (N p hp).2⟩) hk hinv ?_ fin done
  · intro hm
    rcases List.mem_cons.mp hm with e | hm
    · exact absurd F.ns.lt (e ▸ Nat.lt_irrefl _)
    · exact hL (List.mem_singleton.mp hm).symm
  · rintro i h ⟨⟨o, ho, _⟩, _⟩
    exact ⟨o, ho⟩
  · intro b hb hne
    rcases List.mem_cons.mp hb with e | hm
    · exact absurd e hne
    · rw [List.mem_singleton.mp hm]; exact src
  · intro p hp e
    exact absurd (Heap.lt_size (N p hp).1) (e ▸ Nat.lt_irrefl _)
  · rintro i v c u h tk oI hi hP hv hoff F₁ N₁
    exact turn _ i v c u h tk oI hi hP hv hoff F₁ N₁
end
end Mine
end
section
open PySem PySem.W PySem.Calls PyProof.Rows
set_option maxRecDepth 100000
namespace Mine
theorem tn_kind : builtinKind "tuple.__new__" = some .builtinFn := by decide +kernel
theorem tn_split : splitId "tuple.__new__" = some ("tuple", "__new__") := by decide +kernel
theorem tn_entry : entryFor table "tuple.__new__" = some Builtin.«tuple.__new__» := entryFor_of_tree (by kernel_rfl)
theorem tn_quiet : plainId "tuple.__new__" = true := by decide +kernel
theorem tn_made : Bind.madeBy (.type "tuple") = pure (some "tuple.__new__") := by
  kernel_rfl
theorem tn_best : Builtin.Slots.bestBase [.type "tuple"] = pure (.type "tuple") := by kernel_rfl
set_option maxHeartbeats 40000000 in
theorem tn_looks (M : Model) (P : Params) (hh : Heap) (X : (KK P).In hh) : Looks M hh (Bind.madeBy (.ref 135)) none ∧ Looks M hh (Bind.staticBase (.ref 135)) (.type "tuple") := by
  have hPP : PP = PP := rfl
  unfold PP at hPP
  unfold KK at X
  revert hPP X
  k_fill
  intro X hPP
  have hC := X 135 _ (by k_is)
  have hcl := looks_clsIn (M := M) X (C := 135) (by k_is)
  have hm : Looks M hh (mroOf (.ref 135)) [.ref 135, .type "tuple", .type "object"] := hcl.andThen .now
  have made : Looks M hh (Bind.madeBy (.ref 135)) none := by
    intro A Q E s k q
    unfold Bind.madeBy
    refine wpAny_bind (hm A _ E s k ?_)
    rw [List.forIn_cons]
    refine wpAny_bind (wpAny_bind (wpAny_bind (wpAny_bind (wpAny_loadPart (k _ _ hC) (wpAny_pure ?_)))))
    dsimp only
    exact wpAny_pure (wpAny_pure (wpAny_pure q))
  refine ⟨made, ?_⟩
  intro A Q E s k q
  unfold Bind.staticBase
  refine wpAny_bind (hm A _ E s k ?_)
  rw [List.forIn_cons]
  refine wpAny_bind (wpAny_bind ?_)
  dsimp only
  refine wpAny_bind (made A _ E s k ?_)
  rw [if_neg (by decide)]
  refine wpAny_bind (hcl A _ E s k ?_)
  dsimp only
  rw [tn_best]
  refine wpAny_bind (wpAny_pure (wpAny_pure ?_))
  dsimp only
  rw [List.forIn_cons]
  refine wpAny_bind (wpAny_bind ?_)
  dsimp only
  rw [tn_made]
  refine wpAny_pure ?_
  rw [if_pos (by rfl)]
  exact wpAny_pure (wpAny_pure (wpAny_pure q))
theorem sg_tn : (Manifest.signature? "tuple.__new__").isSome = true := by decide +kernel
noncomputable def sig_tn : Manifest.Signature := (Manifest.signature? "tuple.__new__").get sg_tn
theorem hsig_tn : Manifest.signature? "tuple.__new__" = some sig_tn := (Option.some_get _).symm
theorem tn_args (D : Addr) : Bind.checkArgs "tuple.__new__" sig_tn ⟨[.ref 135, .ref D], []⟩ = pure () := by kernel_rfl
set_option maxHeartbeats 40000000 in
theorem r_tuple_new {w : World} {A : Around} {D : Addr} {items : Array Value} {Q E : Value → Shared → Prop} {s : Shared} (X : (KK w.params).In s.heap) (hD : s.heap.get? D = some { cls := .type "tuple", data := .seq items }) (hsz : items.size ≤ sizeLine)
    (h : ∀ x dx h' tk', Kept s.heap h' → s.heap.get? x = none → h'.get? x = some { cls := .ref 135, dict := some dx, data := .seq items } → h'.get? dx = some emptyDict → Q (.ref x) { s with heap := h', toks := tk' }) :
    wpAny (model PP w) A (call (.builtin "tuple.__new__") [.ref 135, .ref D]) Q E s := by
  obtain ⟨L1, L2⟩ := tn_looks (model PP w) w.params s.heap X
  unfold KK at X
  unfold PP at *
  revert X
  k_fill
  intro X
  have L3 := looks_subIn (M := model PySem.Challenge.rw_oy0507_01.row.prog w) X (t := .ref 135) (base := .type "tuple") (r := true) (by k_is)
  have L4 := looks_findIn (M := model PySem.Challenge.rw_oy0507_01.row.prog w) X (t := .ref 135) (name := "__init__") (r := some (.builtin "object.__init__")) (by k_is)
  have hC := X 135 _ (by k_is)
  refine wpAny_call (codeAny_call_builtin_code (Code.quiet_builtin _ (by decide +kernel)) ?_)
  simp only [checkBuiltinCall, tn_kind, tn_split]
  have L5 : Looks (model PySem.Challenge.rw_oy0507_01.row.prog w) s.heap (isType (.ref 135)) true := by
    unfold isType
    exact (Looks.ld hC).andThen .now
  rw [if_pos (by decide)]
  refine wpAny_bind (L5.at ?_)
  rw [if_neg (by decide)]
  refine wpAny_bind (L3.at ?_)
  rw [if_neg (by decide)]
  refine wpAny_bind (L2.at ?_)
  refine wpAny_bind ?_
  rw [tn_made]
  refine wpAny_pure ?_
  dsimp only
  rw [if_neg (by decide)]
  rw [hsig_tn]
  dsimp only
  rw [tn_args]
  refine wpAny_pure ?_
  refine codeAny_builtin tn_entry ?_
  rw [Around.under_plainId tn_quiet]
  unfold Builtin.«tuple.__new__»
  dsimp only
  refine wpAny_bind (L5.at ?_)
  rw [if_neg (by decide)]
  try dsimp only
  refine wpAny_bind (L3.at ?_)
  rw [if_neg (by decide)]
  try dsimp only
  have L6 : Looks (model PySem.Challenge.rw_oy0507_01.row.prog w) s.heap (Bind.madeHere "tuple.__new__" (.ref 135)) () := by
    unfold Bind.madeHere
    refine L2.andThen ?_
    rw [tn_made]
    refine Looks.now.andThen (Looks.of_pure ?_)
    rw [if_neg (by decide)]
  refine wpAny_bind (L6.at ?_)
  refine wpAny_bind (L4.at ?_)
  rw [if_pos (by decide)]
  refine wpAny_bind (wpAny_of_eq (a := ()) (by kernel_rfl) ?_)
  refine wpAny_bind (wpAny_of_eq (a := ()) (by kernel_rfl) ?_)
  rw [if_neg (by decide)]
  refine wpAny_bind (wpAny_collect_seq D (.inr rfl) hD rfl rfl (fun h₁ hk => ?_) hsz)
  refine wpAny_bind (wpAny_pure ?_)
  refine wpAny_bind (wpAny_alloc ?_)
  have hC₂ := Heap.get?_push_of_some { cls := .ref 135, dict := some h₁.objs.size, data := .seq items } (Heap.get?_push_of_some emptyDict (hk _ _ hC))
  refine wpAny_bind ?_
  rw [Array.toArray_toList]
  unfold newObj
  dsimp only
  rw [if_neg (Nat.not_lt.mpr hsz)]
  try (show wpAny _ _ (newObjAsIs _ _ _) _ _ _)
  unfold newObjAsIs classHasDel
  refine wpAny_bind (wpAny_alloc ?_)
  dsimp only
  refine wpAny_bind (wpAny_bind (wpAny_load hC₂ (wpAny_pure ?_)))
  dsimp only
  rw [if_neg (by decide)]
  refine wpAny_pure (wpAny_pure ?_)
  show Q _ _
  refine h _ h₁.objs.size _ s.toks (fun b o e => Heap.get?_push_of_some _ (Heap.get?_push_of_some _ (hk b o e))) ?_ (Heap.get?_push_size _ rfl) (Heap.get?_push_of_some _ (Heap.get?_push_size _ rfl))
  rw [Heap.size_push]
  cases e : s.heap.get? (h₁.objs.size + 1) with
  | none => rfl
  | some o => exact absurd (Heap.lt_size (hk _ _ e)) (Nat.not_lt.mpr (Nat.le_succ _))
end Mine
end
section
open PySem PySem.W PySem.Calls PyProof.Rows
namespace Mine
theorem meta_tuple : typeOf (.type "tuple") = pure (.type "type") := by kernel_rfl
local macro_rules | `(tactic| walk_at "getMethod type:tuple") => `(tactic| (k_here; refine' method_type ?F ?X ?m (by decide +kernel) ?e ?h ?_; (case F => k_asm); (case X => k_asm); (case m => exact meta_tuple); (case e => k_dflt k_is); (case h => k_handed)))
set_option maxRecDepth 100000 in
set_option maxHeartbeats 40000000 in
theorem new_c (w : World) (p : Program) (loose : List Str) (mean : ExcName → Option Value) (mg mb : Str → Option Value) 
   (fr : List Env) (base : Heap) (s : Shared) (i j k : Int) (ti tj tk : Tok)
    (Q E : Value → Shared → Prop) 
    (C : Cx (AA 4 fr) fr w (KK w.params) p loose mean mg mb base s.heap [])
    (ret : ∀ x dx h' tk', Kept s.heap h' → s.heap.get? x = none → h'.get? x = some { cls := .ref 135, dict := some dx, data := .seq #[.int i ti, .int j tj, .int k tk] } → h'.get? dx = some emptyDict → Q (.ref x) { s with heap := h', toks := tk' })
     :
    wpAny (model PP w) (AA 4 fr) (call (.ref 82) [.ref 135, .int i ti, .int j tj, .int k tk]) Q E s := by
  unfold KK at C
  unfold PP
  revert C
  k_fill
  intro C
  obtain ⟨B, X, T, N⟩ := C
  refine wpAny_call ?_
  refine' enterP ?k1 ?k2 ?k3 ?kN ?k6 ?k7 ?k8 ?k9 ?kB ?_ ?c2 ?c3 ?c4 ?c5; (case k1 => exact B); (case k2 => exact X); (case k3 => exact T); (case kN => exact N); (case k6 => k_is); (case k7 => k_is); (case k8 => exact Nat.le_of_ble_eq_true rfl); (case k9 => first | exact BindsTo.of_eq rfl | exact binds_K (K := Mine.kK w.params) (X.keeps fun b o e => of_hideAll _ e) rfl (by k_is) rfl rfl rfl); (case c5 => decide); (case kB => exact locs rfl); (case c2 => exact rfl); (case c3 => exact rfl); (case c4 => exact rfl); intro g' L' h' hg' F' N' B' X' T' lt'; (try dsimp only); (try k_fold)
  clear lt'
  k_steps
  rename_i D1 h1 F1 N1 l1
  refine r_tuple_new (X'.keeps F1.keep) (N1 _ (.head _)).1 (by show 3 ≤ sizeLine; rw [sizeLine_eq]; decide) fun x dx h2 tk2 hk hx hxo hdo => ?_
  have hk0 : Kept s.heap h1 := fun b o e => F1.keep b o (by rw [hg']; exact hideAll_get _ e (List.not_mem_nil))
  refine ret x dx h2 tk2 (fun b o e => hk b o (hk0 b o e)) ?_ hxo hdo
  cases e : s.heap.get? x with
  | none => rfl
  | some o => exact absurd ((hk0 _ _ e).symm.trans hx) (by simp)
end Mine
end
section
open PySem PySem.W PySem.Calls PyProof.Rows
namespace Mine
/-- the nine codes of a mode, as _law_nine reckons them -/
noncomputable def nine (mode : Int) : List Int := [(mode.fdiv (4 * 8 ^ Int.toNat 2)).fmod 2, 2 * (mode.fdiv (2 * 8 ^ Int.toNat 2)).fmod 2, if (mode.fdiv (2 ^ (9 + 2 : Int).toNat)).fmod 2 = 0 then 3 * (mode.fdiv (8 ^ Int.toNat 2)).fmod 2 else 4 + (mode.fdiv (8 ^ Int.toNat 2)).fmod 2 + 0, (mode.fdiv (4 * 8 ^ Int.toNat 1)).fmod 2, 2 * (mode.fdiv (2 * 8 ^ Int.toNat 1)).fmod 2, if (mode.fdiv (2 ^ (9 + 1 : Int).toNat)).fmod 2 = 0 then 3 * (mode.fdiv (8 ^ Int.toNat 1)).fmod 2 else 4 + (mode.fdiv (8 ^ Int.toNat 1)).fmod 2 + 0, (mode.fdiv (4 * 8 ^ Int.toNat 0)).fmod 2, 2 * (mode.fdiv (2 * 8 ^ Int.toNat 0)).fmod 2, if (mode.fdiv (2 ^ (9 + 0 : Int).toNat)).fmod 2 = 0 then 3 * (mode.fdiv (8 ^ Int.toNat 0)).fmod 2 else 4 + (mode.fdiv (8 ^ Int.toNat 0)).fmod 2 + 2]
theorem ints9 {a1 a2 a3 a4 a5 a6 a7 a8 a9 : Int} {t1 t2 t3 t4 t5 t6 t7 t8 t9 : Tok} {l : List Int} (h : l = [a1, a2, a3, a4, a5, a6, a7, a8, a9]) :
    IntsAre (((((((((#[].push (.int a1 t1)).push (.int a2 t2)).push (.int a3 t3)).push (.int a4 t4)).push (.int a5 t5)).push (.int a6 t6)).push (.int a7 t7)).push (.int a8 t8)).push (.int a9 t9)).toList l := by
  subst h
  exact .cons _ _ (.cons _ _ (.cons _ _ (.cons _ _ (.cons _ _ (.cons _ _ (.cons _ _ (.cons _ _ (.cons _ _ .nil))))))))
theorem kept_nil {hh h' g' : Heap} {L : Addr} {m : Str → Option Value} (hg : g' = hideAll hh (List.map (·.1) ([] : List (Addr × Obj)))) (F : Fr g' L h' m) : Kept hh h' := fun b o e => F.keep b o (by rw [hg]; exact hideAll_get _ e List.not_mem_nil)
theorem fresh_nil {hh g' : Heap} {b : Addr} (hg : g' = hideAll hh (List.map (·.1) ([] : List (Addr × Obj)))) (hn : g'.get? b = none) : hh.get? b = none := by
  cases e : hh.get? b with
  | none => rfl
  | some o =>
    have := hideAll_get (List.map (·.1) ([] : List (Addr × Obj))) e List.not_mem_nil
    rw [← hg, hn] at this
    cases this
section
variable {prog : Program} {w : World} {A : Around} {E : Value → Shared → Prop} {s : Shared} {env : Env} {h₀ : Heap} {x : Str} {body : List Stmt} {Q : Flow → Shared → Prop}
theorem for_tup {σ : Type} {l : Addr} {vs : Array Value} {n : Nat} {m₀ : Str → Option Value} (Led : σ → List (Addr × Obj)) (ps : σ → List (Str × Value)) (stored : List Str) (Inv : Nat → σ → Prop) (Fin : σ → Prop) (c₀ : σ)
    (hh : A.handled = none) (hls : s.heap.IsTuple l vs) (hL : l ≠ env.locals) (src : (∃ o, h₀.get? l = some o) ∨ ∃ o, ∀ c, (l, o) ∈ Led c) (hsz : vs.size = n) (F : Fr h₀ env.locals s.heap m₀) (N : News h₀ env.locals s.heap (Led c₀)) (hk : ∀ p ∈ ps c₀, m₀ p.1 = some p.2) (hinv : Inv 0 c₀)
    (turn : ∀ I i v c (u : Str → Option Value) h tk oI, i < n → vs[i]? = some v → Inv i c → (∀ p ∈ Led c, p.1 ≠ I) → Fr h₀ env.locals h (fun y => if y = x then some v else kstB (fun z => if stored.contains z then u z else m₀ z) (ps c) y) → News h₀ env.locals h (Led c ++ [(I, oI)]) →
      wpAny (model prog w) A (execs body env) (TPost h₀ env.locals I x Led ps stored m₀ (Inv (i + 1)) Fin [(I, oI)] { s with heap := h, toks := tk } Q) E { s with heap := h, toks := tk })
    (fin : ∀ c, Inv n c → Fin c)
    (done : ∀ c (u : Str → Option Value) h tk, Fin c → Fr h₀ env.locals h (fun y => if y = x then u y else kstB (fun z => if stored.contains z then u z else m₀ z) (ps c) y) → News h₀ env.locals h (Led c) → Q .next { s with heap := h, toks := tk }) :
    wpAny (model prog w) A (pyIter (.ref l)) (fun it s₂ => LoopAtV prog w A h₀ env x body Q E it s₂) E s := by
  have hne : l ≠ s.heap.objs.size := by
    obtain ⟨o, ho, _⟩ := id hls
    exact Nat.ne_of_lt (Heap.lt_size ho)
  refine wpAny_pyIter_tuple hls ?_
  have W := Walks.tuple (prog := prog) (w := w) hh s.heap.objs.size l hne vs
  rw [hsz] at W
  refine for_walk Led ps stored Inv Fin c₀ W ?_ (next_is_new F) ?_ ?_ ?_ ⟨⟨_, Heap.get?_push_size _ rfl, rfl, rfl⟩, hls.at fun o e => Heap.get?_push_of_some _ e⟩ (F.push _) (fun p hp => ⟨Heap.get?_push_of_some _ (N p hp).1, (N p hp).2⟩) hk hinv ?_ fin done
  · intro hm
    rcases List.mem_cons.mp hm with e | hm
    · exact absurd F.ns.lt (e ▸ Nat.lt_irrefl _)
    · exact hL (List.mem_singleton.mp hm).symm
  · rintro i h ⟨⟨o, ho, _⟩, _⟩
    exact ⟨o, ho⟩
  · intro b hb hne
    rcases List.mem_cons.mp hb with e | hm
    · exact absurd e hne
    · rw [List.mem_singleton.mp hm]; exact src
  · intro p hp e
    exact absurd (Heap.lt_size (N p hp).1) (e ▸ Nat.lt_irrefl _)
  · rintro i v c u h tk oI hi hP hv hoff F₁ N₁
    exact turn _ i v c u h tk oI hi hP hv hoff F₁ N₁
end
theorem ints_push3 {vs : Array Value} {l : List Int} {a b c : Int} {t1 t2 t3 : Tok} (h : IntsAre vs.toList l) : IntsAre (((vs.push (.int a t1)).push (.int b t2)).push (.int c t3)).toList (l ++ [a, b, c]) := by
  rw [Array.toList_push, Array.toList_push, Array.toList_push, List.append_assoc, List.append_assoc]
  revert h
  generalize vs.toList = v
  intro h
  induction h with
  | nil => exact .cons _ _ (.cons _ _ (.cons _ _ .nil))
  | cons a t _ ih => exact .cons _ _ ih
noncomputable def HaltK (p : Prop) : Prop := p
theorem HaltK.mk {p : Prop} (h : HaltK p) : p := h
theorem nine_sz0 {vs : Array Value} (h : vs.size + 9 ≤ sizeLine) : vs.size ≤ sizeLine := Nat.le_trans (Nat.le_add_right _ 9) h
theorem nine_sz1 {vs : Array Value} {a : Value} (h : vs.size + 9 ≤ sizeLine) : (vs.push a).size ≤ sizeLine := by
  rw [Array.size_push]; omega
theorem nine_sz2 {vs : Array Value} {a b : Value} (h : vs.size + 9 ≤ sizeLine) : ((vs.push a).push b).size ≤ sizeLine := by
  rw [Array.size_push, Array.size_push]; omega
local macro_rules | `(tactic| walk_at "call builtin:list.append") => `(tactic| (k_here; (with_reducible show wpAny _ _ (call (Value.builtin _) [Value.ref _, _]) _ _ _); (refine' append_K ?k1 ?k2 ?k3 ?_ ?z; (case k1 => k_asm); (case k2 => k_asm); (case k3 => k_upd); (case z => first | exact nine_sz0 (by assumption) | exact nine_sz1 (by assumption) | exact nine_sz2 (by assumption)); k_whole); intro h' F' N'))
local macro_rules | `(tactic| walk_at "pyIter ref") => `(tactic| (k_here; (with_reducible refine HaltK.mk ?_)))
local macro_rules | `(tactic| kst_same) => `(tactic| (intro z h1 h2 h3; (simp only [List.forall_mem_cons, List.not_mem_nil, false_implies, implies_true, and_true, ne_eq] at h2); (simp only [List.contains_cons, List.contains_nil, Bool.or_false, Bool.or_eq_false_iff, beq_eq_false_iff_ne, ne_eq] at h3); (simp [kstB, h1, h2, h3]; done)))
local macro_rules | `(tactic| walk_at "exec For Name Tuple cons nil") => `(tactic| (k_here; (rename Fr _ _ _ _ => lF'); (with_unfolding_all refine' For_invVF lF' ?k1 ?k2 ?_; (case k1 => exact rfl); (case k2 => exact rfl); k_whole)))
set_option maxRecDepth 100000 in
set_option maxHeartbeats 40000000 in
theorem nine_c (w : World) (p : Program) (loose : List Str) (mean : ExcName → Option Value) (mg mb : Str → Option Value) 
   (fr : List Env) (base : Heap) (s : Shared) (mode : Int) (tm : Tok)
    (Q E : Value → Shared → Prop) 
    (C : Cx (AA 3 fr) fr w (KK w.params) p loose mean mg mb base s.heap []) (h0 : 0 ≤ mode) (h1 : mode < 65536)
    (ret : ∀ x vs n h' tk', Kept s.heap h' → s.heap.get? x = none → h'.get? x = some (PySem.W.listOf vs n) → IntsAre vs.toList (nine mode) → Q (.ref x) { s with heap := h', toks := tk' }) :
    wpAny (model PP w) (AA 3 fr) (call (.ref 300) [.int mode tm]) Q E s := by
  unfold KK at C
  unfold PP
  revert C
  k_fill
  intro C
  obtain ⟨B, X, T, N⟩ := C
  obtain ⟨hh, g, d, t, os⟩ := s
  refine wpAny_call ?_
  refine' enterP ?k1 ?k2 ?k3 ?kN ?k6 ?k7 ?k8 ?k9 ?kB ?_ ?c2 ?c3 ?c4 ?c5; (case k1 => exact B); (case k2 => exact X); (case k3 => exact T); (case kN => exact N); (case k6 => k_is); (case k7 => k_is); (case k8 => exact Nat.le_of_ble_eq_true rfl); (case k9 => first | exact BindsTo.of_eq rfl | exact binds_K (K := Mine.kK w.params) (X.keeps fun b o e => of_hideAll _ e) rfl (by k_is) rfl rfl rfl); (case c5 => decide); (case kB => exact locs rfl); (case c2 => exact rfl); (case c3 => exact rfl); (case c4 => exact rfl); intro g' L' h' hg' F' N' B' X' T' lt'; (try dsimp only); (try k_fold)
  clear lt'
  k_steps
  unfold HaltK
  rename_i D1 hA tr hB D2 h2 F2 N2 l2
  refine for_tup (σ := Array Value × Nat) (n := 3) (fun c => [(D2, { cls := .type "tuple", data := .seq #[.int 2 tk, .int 1 (tk + 1), .int 0 (tk + 1 + 1)] }), (D1, listOf c.1 c.2)]) (fun _ => []) ["run", "above"]
    (fun i c => IntsAre c.1.toList ((nine mode).take (3 * i))) (fun c => IntsAre c.1.toList (nine mode)) (#[], 0) rfl ⟨_, (N2 _ (.head _)).1, rfl, _, rfl⟩ (N2 _ (.head _)).2.1 (.inr ⟨_, fun _ => .head _⟩) rfl F2 N2 (fun _ h => nomatch h) IntsAre.nil ?turn (fun c h => h) ?done
  case turn =>
    rintro I i v ⟨vs, nn⟩ u h tk5 oI hi hv hinv hoff F4 N4
    dsimp only at F4 N4 hinv
    dsimp only [List.cons_append, List.nil_append] at N4
    clear F2 N2
    have fin : ∀ {a b c : Int} {t1 t2 t3 : Tok} {l' : List Int}, (nine mode).take (3 * i) ++ [a, b, c] = l' → IntsAre (((vs.push (.int a t1)).push (.int b t2)).push (.int c t3)).toList l' := fun e => e ▸ ints_push3 hinv
    have hsz : vs.size ≤ 9 := by
      have h1 := hinv.length
      rw [Array.length_toList, List.length_take] at h1
      rw [h1]
      exact Nat.le_trans (Nat.min_le_right _ _) (Nat.le_refl 9)
    have hszl : vs.size + 9 ≤ sizeLine := Nat.le_trans (Nat.add_le_add_right hsz 9) (by decide)
    have hI1 : D1 ≠ I := hoff _ (.tail _ (.head _))
    have hI2 : I ≠ D1 := fun q => hI1 q.symm
    clear hinv
    rcases i with _ | _ | _ | i
    · have hv' : some (Value.int 2 tk) = some v := hv
      cases hv'
      clear hv
      k_steps
      all_goals
        show TEnd _ _ _ _ _ _ _ _ _ _ _ _
        rename Fr _ _ _ _ => FZ
        rename News _ _ _ _ => NZ
        refine TEnd.intro (((vs.push _).push _).push _, nn + 1 + 1 + 1) FZ NZ (by kst_in) (off_of hoff rfl) (fun _ h => nomatch h) (by kst_same) (fin ?_)
        unfold nine
        first | rw [if_pos (show (mode.fdiv (2 ^ (9 + 2 : Int).toNat)).fmod 2 = 0 by assumption)]; rfl | rw [if_neg (show ¬ (mode.fdiv (2 ^ (9 + 2 : Int).toNat)).fmod 2 = 0 by assumption)]; rfl
    · have hv' : some (Value.int 1 (tk + 1)) = some v := hv
      cases hv'
      clear hv
      k_steps
      all_goals
        show TEnd _ _ _ _ _ _ _ _ _ _ _ _
        rename Fr _ _ _ _ => FZ
        rename News _ _ _ _ => NZ
        refine TEnd.intro (((vs.push _).push _).push _, nn + 1 + 1 + 1) FZ NZ (by kst_in) (off_of hoff rfl) (fun _ h => nomatch h) (by kst_same) (fin ?_)
        unfold nine
        first | rw [if_pos (show (mode.fdiv (2 ^ (9 + 1 : Int).toNat)).fmod 2 = 0 by assumption)]; rfl | rw [if_neg (show ¬ (mode.fdiv (2 ^ (9 + 1 : Int).toNat)).fmod 2 = 0 by assumption)]; rfl
    · have hv' : some (Value.int 0 (tk + 1 + 1)) = some v := hv
      cases hv'
      clear hv
      k_steps
      all_goals
        show TEnd _ _ _ _ _ _ _ _ _ _ _ _
        rename Fr _ _ _ _ => FZ
        rename News _ _ _ _ => NZ
        refine TEnd.intro (((vs.push _).push _).push _, nn + 1 + 1 + 1) FZ NZ (by kst_in) (off_of hoff rfl) (fun _ h => nomatch h) (by kst_same) (fin ?_)
        unfold nine
        first | rw [if_pos (show (mode.fdiv (2 ^ (9 + 0 : Int).toNat)).fmod 2 = 0 by assumption)]; rfl | rw [if_neg (show ¬ (mode.fdiv (2 ^ (9 + 0 : Int).toNat)).fmod 2 = 0 by assumption)]; rfl
    · exact absurd hi (Nat.not_lt.mpr (Nat.le_add_left 3 i))
  case done =>
    rintro ⟨vs, nn⟩ u h3 tk3 hv F4 N4
    dsimp only at F4 N4 hv
    clear F2 N2
    show wpAny _ _ _ _ _ _
    k_steps
    rename Fr _ _ _ _ => FZ
    rename News _ _ _ _ => NZ
    have nz := NZ _ (.tail _ (.head _))
    exact ret _ _ _ _ _ (kept_nil hg' FZ) (fresh_nil hg' nz.2.2) nz.1 hv
end Mine
end
section
open PySem PySem.W PySem.Calls PyProof.Rows
namespace Mine
section
variable {prog : Program} {w : World} {A : Around} {E : Value → Shared → Prop} {s : Shared} {env : Env} {h₀ : Heap} {xi xc : Str} {body : List Stmt} {Q : Flow → Shared → Prop}
/-- a for over pairs by a ghost state -/
noncomputable def PTurn {σ : Type} (h₀ : Heap) (L : Addr) (wr : List Addr) (xi xc : Str) (Led : σ → List (Addr × Obj)) (ps : σ → List (Str × Value)) (stored : List Str) (m₀ : Str → Option Value) (Inv : σ → Prop) (own : List (Addr × Obj)) (s₁ s₂ : Shared) : Prop :=
  ∃ c h' tk m', s₂ = { s₁ with heap := h', toks := tk } ∧ Fr h₀ L h' m' ∧ News h₀ L h' (Led c ++ own) ∧ (∀ p ∈ Led c, p.1 ∉ wr) ∧ (∀ p ∈ ps c, m' p.1 = some p.2) ∧
    (∀ z, z ≠ xi → z ≠ xc → (∀ p ∈ ps c, z ≠ p.1) → stored.contains z = false → m' z = m₀ z) ∧ Inv c
theorem PTurn.intro {σ : Type} {L : Addr} {wr : List Addr} {Led : σ → List (Addr × Obj)} {ps : σ → List (Str × Value)} {stored : List Str} {m₀ : Str → Option Value} {Inv : σ → Prop} {own news' : List (Addr × Obj)} {s₁ : Shared} {h' : Heap} {tk : Nat} {m' : Str → Option Value} (c : σ)
    (F : Fr h₀ L h' m') (N : News h₀ L h' news') (hs : ∀ p ∈ Led c ++ own, p ∈ news') (hI : ∀ p ∈ Led c, p.1 ∉ wr) (hk : ∀ p ∈ ps c, m' p.1 = some p.2)
    (hr : ∀ z, z ≠ xi → z ≠ xc → (∀ p ∈ ps c, z ≠ p.1) → stored.contains z = false → m' z = m₀ z) (hi : Inv c) : PTurn h₀ L wr xi xc Led ps stored m₀ Inv own s₁ { s₁ with heap := h', toks := tk } :=
  ⟨c, h', tk, m', rfl, F, fun p hp => N p (hs p hp), hI, hk, hr, hi⟩
theorem pair_walk {σ : Type} {pk pv pt : Pos} {x1 : Nat} {I : Addr} {fp wr : List Addr} {n : Nat} {Pt : Nat → Array Value → Prop} {St : Nat → Heap → Prop} {Mid : Nat → Addr → Heap → Prop} {P2 : Nat → Value → Value → Prop} {m₀ : Str → Option Value}
    (Led : σ → List (Addr × Obj)) (ps : σ → List (Str × Value)) (stored : List Str) (Inv : Nat → σ → Prop) (c₀ : σ)
    (hh : A.handled = none) (W : WalksT prog w A I fp wr n Pt St Mid) (h2 : ∀ i vals, Pt i vals → ∃ v0 v1, vals = #[v0, v1] ∧ P2 i v0 v1)
    (hxi : env.kindOf xi = some .local) (hxc : env.kindOf xc = some .local)
    (hp : (env.scope.kind == .class || (env.scope.kind == .module && env.locals != env.globals)) = false)
    (hLf : env.locals ∉ fp) (hSt : ∀ i h, St i h → ∀ b ∈ wr, ∃ o, h.get? b = some o) (hwr : ∀ b ∈ wr, h₀.get? b = none) (hnw : ∀ p ∈ Led c₀, p.1 ∉ wr)
    (hst : St 0 s.heap) (F : Fr h₀ env.locals s.heap m₀) (N : News h₀ env.locals s.heap (Led c₀)) (hk : ∀ p ∈ ps c₀, m₀ p.1 = some p.2) (hinv : Inv 0 c₀)
    (turn : ∀ i v0 v1 c (u : Str → Option Value) h tk own, i < n → P2 i v0 v1 → Inv i c → (∀ p ∈ Led c, p.1 ∉ wr) → (∀ p ∈ own, p.1 ∈ fp) → (∀ b ∈ wr, ∃ o, (b, o) ∈ own) →
      Fr h₀ env.locals h (fun y => if y = xc then some v1 else if y = xi then some v0 else kstB (fun z => if stored.contains z then u z else m₀ z) (ps c) y) → News h₀ env.locals h (Led c ++ own) →
      wpAny (model prog w) A (execs body env) (fun f s₂ => match f with
        | .next => PTurn h₀ env.locals wr xi xc Led ps stored m₀ (Inv (i + 1)) own { s with heap := h, toks := tk } s₂
        | _ => False) E { s with heap := h, toks := tk })
    (done : ∀ c (u : Str → Option Value) h tk, Inv n c → Fr h₀ env.locals h (fun y => if y = xc then u y else if y = xi then u y else kstB (fun z => if stored.contains z then u z else m₀ z) (ps c) y) → News h₀ env.locals h (Led c) → Q .next { s with heap := h, toks := tk })
    (hE : PassesOwn (model prog w) A env E := by passes_own) :
    codeAny (model prog w) A (.forLoop (.Tuple [.Name xi pk, .Name xc pv] x1 pt) (.ref I) body [] env) (fun r s' => match r with | .ok f => Q f s' | .error e => cameBackBy (model prog w) A env E e s') s := by
  have hLw : env.locals ∉ wr := fun h => hLf (W.sub _ h)
  have old : ∀ b o, h₀.get? b = some o → b ∉ wr := fun b o e hb => by rw [hwr b hb] at e; cases e
  have em : ∀ (ps' : List (Str × Value)) (m₁ : Str → Option Value) (y : Str), (∀ p ∈ ps', m₁ p.1 = some p.2) → (∀ z, z ≠ xi → z ≠ xc → (∀ p ∈ ps', z ≠ p.1) → stored.contains z = false → m₁ z = m₀ z) → y ≠ xc → y ≠ xi → kstB (fun z => if stored.contains z then m₁ z else m₀ z) ps' y = m₁ y := by
    intro ps' m₁ y h1 h3 hc hi
    refine kstB_eq h1 fun hn => ?_
    show (if stored.contains y = true then m₁ y else m₀ y) = m₁ y
    cases h4 : stored.contains y with
    | true => simp
    | false => simp only [Bool.false_eq_true, if_false]; exact (h3 y hi hc hn h4).symm
  refine codeAny_forLoop_any
    (fun k s' => ∃ h' tk m' c i, s' = { s with heap := h', toks := tk } ∧ St i h' ∧ Fr h₀ env.locals h' m' ∧ News h₀ env.locals h' (Led c) ∧ (∀ p ∈ Led c, p.1 ∉ wr) ∧ (∀ p ∈ ps c, m' p.1 = some p.2) ∧ (∀ z, z ≠ xi → z ≠ xc → (∀ p ∈ ps c, z ≠ p.1) → stored.contains z = false → m' z = m₀ z) ∧ Inv i c ∧ i ≤ n ∧ k = n + 1 - i) ?_ (n + 1)
    ⟨s.heap, s.toks, m₀, c₀, 0, rfl, hst, F, N, hnw, hk, fun _ _ _ _ _ => rfl, hinv, Nat.zero_le _, rfl⟩
  rintro k s' ⟨H, tk, m', c, i, rfl, hst', F', N', hn', hk', hr', hv, hi, rfl⟩
  have next : ∀ h₁ : Heap, (∀ b o, b ∉ wr → H.get? b = some o → h₁.get? b = some o) → Fr h₀ env.locals h₁ m' ∧ News h₀ env.locals h₁ (Led c) := fun h₁ hk₁ =>
    ⟨⟨F'.ns.at' fun o e => hk₁ _ o hLw e, fun b o e => hk₁ b o (old b o e) (F'.keep b o e), F'.above⟩, fun p hp => ⟨hk₁ _ _ (hn' p hp) (N' p hp).1, (N' p hp).2⟩⟩
  by_cases hlt : i < n
  · refine W.item i _ _ _ hlt hst' fun T vals h₁ tk₁ hPt _ hT hMid hk₁ => ?_
    obtain ⟨v0, v1, rfl, hP2⟩ := h2 i vals hPt
    refine W.go _ x1 pt i T _ _ _ hMid fun h₂ hst₂ hk₂ => ?_
    have ht₂ : h₂.IsTuple T #[v0, v1] := hT.at fun o e => hk₂ T o (W.apart i T h₁ hMid) e
    refine wpAny_assign_Tuple hh ht₂ rfl rfl fun h₃ hx₃ => ?_
    replace hx₃ : Heap.ExtBut h₂.objs.size h₂ h₃ := hx₃
    have up₃ : ∀ b o, h₂.get? b = some o → h₃.get? b = some o := fun b o x => hx₃ b o (Nat.ne_of_lt (Heap.lt_size x)) x
    obtain ⟨F₃, N₃⟩ := next h₃ fun b o hb x => up₃ b o (hk₂ b o hb (hk₁ b o hb x))
    show wpAny _ A (do holding [v1] (assign (.Name xi pk) env v0); do holding [] (assign (.Name xc pv) env v1); pure ()) _ _ _
    refine wpAny_bind (wpAny_holding (wpAny_assign_Name (wpAny_storeName_local hxi F₃.ns (fun h₄ hn₄ hs₄ => ?_) hp)))
    replace hs₄ : Heap.SameBut env.locals h₃ h₄ := hs₄
    have F₄ := F₃.set hn₄ hs₄
    refine wpAny_bind (wpAny_holding (wpAny_assign_Name (wpAny_storeName_local hxc F₄.ns (fun h₅ hn₅ hs₅ => wpAny_pure ?_) hp)))
    replace hs₅ : Heap.SameBut env.locals h₄ h₅ := hs₅
    have F₅ := F₄.set hn₅ hs₅
    have N₅ : News h₀ env.locals h₅ (Led c) := (N₃.set hs₄).set hs₅
    have hst₅ : St (i + 1) h₅ := W.frame _ _ _ hst₂ fun b hb o e => hs₅.extBut b o (fun q => hLf (q ▸ hb)) (hs₄.extBut b o (fun q => hLf (q ▸ hb)) (up₃ b o e))
    have eF : (fun y => if y = xc then some v1 else if y = xi then some v0 else m' y) = fun y => if y = xc then some v1 else if y = xi then some v0 else kstB (fun z => if stored.contains z then m' z else m₀ z) (ps c) y := by
      funext y
      by_cases hc : y = xc
      · rw [if_pos hc, if_pos hc]
      · rw [if_neg hc, if_neg hc]
        by_cases hx : y = xi
        · rw [if_pos hx, if_pos hx]
        · rw [if_neg hx, if_neg hx]; exact (em _ _ y hk' hr' hc hx).symm
    have F₆ : Fr h₀ env.locals h₅ (fun y => if y = xc then some v1 else if y = xi then some v0 else kstB (fun z => if stored.contains z then m' z else m₀ z) (ps c) y) := by rw [← eF]; exact F₅
    have Nown : News h₀ env.locals h₅ (ownOf h₀ fp h₅) := news_ownOf hLf
    have N₆ : News h₀ env.locals h₅ (Led c ++ ownOf h₀ fp h₅) := N₅.append Nown
    refine wpAny_mono (wpAny_passesOwn hE (turn i v0 v1 c m' h₅ _ (ownOf h₀ fp h₅) hlt hP2 hv hn' ownOf_sub (fun b hb => let ⟨o, e⟩ := hSt _ _ hst₅ b hb; ⟨o, mem_ownOf (W.sub b hb) (hwr b hb) e⟩) F₆ N₆)) (fun f s₃ h₆ => ?_) fun _ _ e => e
    cases f with
    | ret v => exact h₆.elim
    | brk => exact h₆.elim
    | cont => exact h₆.elim
    | next =>
      obtain ⟨c', h₆', tk₆, m₂, rfl, F₇, N₇, hn₇, hk₇, hr₇, hv₇⟩ := h₆
      refine ⟨n + 1 - (i + 1), by omega, h₆', tk₆, m₂, c', i + 1, rfl, ?_, F₇, (fun p hp => N₇ p (List.mem_append_left _ hp)), hn₇, hk₇, hr₇, hv₇, hlt, rfl⟩
      refine W.frame _ _ _ hst₅ fun b hb o e => ?_
      cases hn : h₀.get? b with
      | some o₀ =>
        have : o₀ = o := by have q := F₅.keep b o₀ hn; rw [e] at q; exact (Option.some.inj q).symm
        exact this ▸ F₇.keep b o₀ hn
      | none => exact (N₇ _ (List.mem_append_right _ (mem_ownOf hb hn e))).1
  · have hin : i = n := by omega
    subst hin
    refine W.done _ _ _ hst' fun h₁ tk₁ hk₁ => wpAny_execs_nil ?_
    obtain ⟨F₁, N₁⟩ := next h₁ hk₁
    refine done c m' h₁ tk₁ hv ?_ N₁
    have eF : (fun y => if y = xc then m' y else if y = xi then m' y else kstB (fun z => if stored.contains z then m' z else m₀ z) (ps c) y) = m' := by
      funext y
      by_cases hc : y = xc
      · rw [if_pos hc]
      · rw [if_neg hc]
        by_cases hx : y = xi
        · rw [if_pos hx]
        · rw [if_neg hx]; exact em _ _ y hk' hr' hc hx
    rw [eF]; exact F₁
theorem enum_str_loop {σ : Type} {pk pv pt : Pos} {x1 : Nat} {x : Str} {t : Tok} {m₀ : Str → Option Value} (Led : σ → List (Addr × Obj)) (ps : σ → List (Str × Value)) (stored : List Str) (Inv : Nat → σ → Prop) (c₀ : σ)
    (hh : A.handled = none) (hxi : env.kindOf xi = some .local) (hxc : env.kindOf xc = some .local)
    (hp : (env.scope.kind == .class || (env.scope.kind == .module && env.locals != env.globals)) = false)
    (F : Fr h₀ env.locals s.heap m₀) (N : News h₀ env.locals s.heap (Led c₀)) (hk : ∀ p ∈ ps c₀, m₀ p.1 = some p.2) (hinv : Inv 0 c₀)
    (turn : ∀ I J (i : Nat) cp ti tv c (u : Str → Option Value) h tk own, J = I + 1 → i < x.length → x.cps[i]? = some cp → Inv i c → (∀ p ∈ Led c, p.1 ∉ [J, I]) → (∀ p ∈ own, p.1 ∈ [J, I]) → (∀ b ∈ [J, I], ∃ o, (b, o) ∈ own) →
      Fr h₀ env.locals h (fun y => if y = xc then some (.str ⟨#[cp]⟩ tv) else if y = xi then some (.int i ti) else kstB (fun z => if stored.contains z then u z else m₀ z) (ps c) y) → News h₀ env.locals h (Led c ++ own) →
      wpAny (model prog w) A (execs body env) (fun f s₂ => match f with
        | .next => PTurn h₀ env.locals [J, I] xi xc Led ps stored m₀ (Inv (i + 1)) own { s with heap := h, toks := tk } s₂
        | _ => False) E { s with heap := h, toks := tk })
    (done : ∀ c (u : Str → Option Value) h tk, Inv x.length c → Fr h₀ env.locals h (fun y => if y = xc then u y else if y = xi then u y else kstB (fun z => if stored.contains z then u z else m₀ z) (ps c) y) → News h₀ env.locals h (Led c) → Q .next { s with heap := h, toks := tk })
    (hE : PassesOwn (model prog w) A env E := by passes_own) :
    wpAny (model prog w) A (call (.type "enumerate") [.str x t]) (fun xv s₁ => wpAny (model prog w) A (pyIter xv) (fun it s₂ => codeAny (model prog w) A (.forLoop (.Tuple [.Name xi pk, .Name xc pv] x1 pt) it body [] env) (fun r s' => match r with | .ok f => Q f s' | .error e => cameBackBy (model prog w) A env E e s') s₂) E s₁) E s := by
  have hLs : env.locals < s.heap.objs.size := F.ns.lt
  have hab : h₀.objs.size ≤ env.locals := F.above
  refine call_enumerate_str fun h' he hit hsz hk' => ?_
  have F' : Fr h₀ env.locals h' m₀ := ⟨F.ns.keeps hk', fun b o e => hk' b o (F.keep b o e), F.above⟩
  have N' : News h₀ env.locals h' (Led c₀) := fun p hp => ⟨hk' _ _ (N p hp).1, (N p hp).2⟩
  refine wpAny_pyIter_enum he ?_
  have side1 : s.heap.objs.size + 1 ∉ [s.heap.objs.size] := fun hm => Nat.succ_ne_self _ (List.mem_singleton.mp hm)
  have off : ∀ q, q < s.heap.objs.size → q ∉ [s.heap.objs.size + 1, s.heap.objs.size] := fun q hq hm => by
    rcases List.mem_cons.mp hm with e | hm
    · exact Nat.ne_of_lt (Nat.lt_succ_of_lt hq) e
    · exact Nat.ne_of_lt hq (List.mem_singleton.mp hm)
  have hwr : ∀ b ∈ [s.heap.objs.size + 1, s.heap.objs.size], h₀.get? b = none := fun b hb => by
    rcases List.mem_cons.mp hb with rfl | hb
    · exact Heap.get?_none_of_le (Nat.le_trans hab (Nat.le_of_lt (Nat.lt_succ_of_lt hLs)))
    · rw [List.mem_singleton.mp hb]; exact Heap.get?_none_of_le (Nat.le_trans hab (Nat.le_of_lt hLs))
  have hnw : ∀ p ∈ Led c₀, p.1 ∉ [s.heap.objs.size + 1, s.heap.objs.size] := fun p hp => off _ (Heap.lt_size (N p hp).1)
  cases ha : x.cps.all (· < 128)
  · have hit' : h'.IsStrIter s.heap.objs.size "str_iterator" x t 0 := by simpa [strIterType, ha] using hit
    refine pair_walk (P2 := fun i v0 v1 => ∃ t, v0 = .int i t ∧ ∃ c u, x.cps[i]? = some c ∧ v1 = .str ⟨#[c]⟩ u) Led ps stored Inv c₀ hh (WalksT.enumerateD (Draws.strWide (A := A.in1) hh s.heap.objs.size x t) (s.heap.objs.size + 1) (Nat.succ_ne_self _) side1 (by simp)) ?_ hxi hxc hp (off _ hLs) ?_ hwr hnw ⟨⟨_, by simpa using he⟩, hit'⟩ F' N' hk hinv ?_ done hE
    · rintro i vals ⟨t, v, hPx, rfl⟩
      exact ⟨_, _, rfl, t, rfl, hPx⟩
    · rintro i h ⟨⟨_, he⟩, hit⟩ b hb
      rcases List.mem_cons.mp hb with rfl | hb
      · exact ⟨_, he⟩
      · rw [List.mem_singleton.mp hb]
        obtain ⟨o, ho, _⟩ := id hit
        exact ⟨o, ho⟩
    · rintro i v0 v1 c u h tk own hi ⟨t, rfl, cp, tv, hc, rfl⟩ hv h1 h2 h3 F₁ N₁
      exact turn _ _ i cp t tv c u h tk own rfl hi hc hv h1 h2 h3 F₁ N₁
  · have hit' : h'.IsStrIter s.heap.objs.size "str_ascii_iterator" x t 0 := by simpa [strIterType, ha] using hit
    refine pair_walk (P2 := fun i v0 v1 => ∃ t, v0 = .int i t ∧ ∃ c u, x.cps[i]? = some c ∧ v1 = .str ⟨#[c]⟩ u) Led ps stored Inv c₀ hh (WalksT.enumerateD (Draws.strAscii (A := A.in1) hh s.heap.objs.size x t) (s.heap.objs.size + 1) (Nat.succ_ne_self _) side1 (by simp)) ?_ hxi hxc hp (off _ hLs) ?_ hwr hnw ⟨⟨_, by simpa using he⟩, hit'⟩ F' N' hk hinv ?_ done hE
    · rintro i vals ⟨t, v, hPx, rfl⟩
      exact ⟨_, _, rfl, t, rfl, hPx⟩
    · rintro i h ⟨⟨_, he⟩, hit⟩ b hb
      rcases List.mem_cons.mp hb with rfl | hb
      · exact ⟨_, he⟩
      · rw [List.mem_singleton.mp hb]
        obtain ⟨o, ho, _⟩ := id hit
        exact ⟨o, ho⟩
    · rintro i v0 v1 c u h tk own hi ⟨t, rfl, cp, tv, hc, rfl⟩ hv h1 h2 h3 F₁ N₁
      exact turn _ _ i cp t tv c u h tk own rfl hi hc hv h1 h2 h3 F₁ N₁
end
end Mine
end
section
open PySem PySem.W PySem.Calls PyProof.Rows
namespace Mine
noncomputable def WEnd {σ : Type} (h₀ : Heap) (L : Addr) (Led : σ → List (Addr × Obj)) (ps : σ → List (Str × Value)) (stored : List Str) (m₀ : Str → Option Value) (Inv : σ → Prop) (s₁ s₂ : Shared) : Prop :=
  ∃ c h' tk m' news', s₂ = { s₁ with heap := h', toks := tk } ∧ Fr h₀ L h' m' ∧ News h₀ L h' news' ∧ (∀ p ∈ Led c, p ∈ news') ∧ (∀ p ∈ ps c, m' p.1 = some p.2) ∧
    (∀ z, (∀ p ∈ ps c, z ≠ p.1) → stored.contains z = false → m' z = m₀ z) ∧ Inv c
theorem WEnd.intro {σ : Type} {h₀ : Heap} {L : Addr} {Led : σ → List (Addr × Obj)} {ps : σ → List (Str × Value)} {stored : List Str} {m₀ : Str → Option Value} {Inv : σ → Prop} {news' : List (Addr × Obj)} {s₁ : Shared} {h' : Heap} {tk : Nat} {m' : Str → Option Value} (c : σ)
    (F : Fr h₀ L h' m') (N : News h₀ L h' news') (hs : ∀ p ∈ Led c, p ∈ news') (hk : ∀ p ∈ ps c, m' p.1 = some p.2)
    (hr : ∀ z, (∀ p ∈ ps c, z ≠ p.1) → stored.contains z = false → m' z = m₀ z) (hi : Inv c) : WEnd h₀ L Led ps stored m₀ Inv s₁ { s₁ with heap := h', toks := tk } :=
  ⟨c, h', tk, m', news', rfl, F, N, hs, hk, hr, hi⟩
noncomputable def WPost {σ : Type} (h₀ : Heap) (L : Addr) (Led : σ → List (Addr × Obj)) (ps : σ → List (Str × Value)) (stored : List Str) (m₀ : Str → Option Value) (Inv Fin : σ → Prop) (s₁ : Shared) (Q : Flow → Shared → Prop) (f : Flow) (s₂ : Shared) : Prop :=
  match f with
  | .ret v => Q (.ret v) s₂
  | .brk => WEnd h₀ L Led ps stored m₀ Fin s₁ s₂
  | _ => WEnd h₀ L Led ps stored m₀ Inv s₁ s₂
section
variable {prog : Program} {w : World} {A : Around} {E : Value → Shared → Prop} {Q : Flow → Shared → Prop} {s : Shared} {env : Env} {h₀ : Heap} {L : Addr}
theorem while_st {σ : Type} {test : Expr} {body : List Stmt} {pos : Pos} {m₀ : Str → Option Value} (Led : σ → List (Addr × Obj)) (ps : σ → List (Str × Value)) (stored : List Str) (Inv Fin : σ → Prop) (μ : σ → Nat) (c₀ : σ)
    (F : Fr h₀ L s.heap m₀) (N : News h₀ L s.heap (Led c₀)) (hk : ∀ p ∈ ps c₀, m₀ p.1 = some p.2) (hinv : Inv c₀)
    (turn : ∀ c (u : Str → Option Value) h tk, Inv c → Fr h₀ L h (kstB (fun z => if stored.contains z then u z else m₀ z) (ps c)) → News h₀ L h (Led c) →
      wpAny (model prog w) A (isTrue test env (eval test env)) (fun b s₂ =>
        if b = true then wpAny (model prog w) A (execs body env) (WPost h₀ L Led ps stored m₀ (fun c' => Inv c' ∧ μ c' < μ c) Fin { s with heap := h, toks := tk } Q) E s₂ else WEnd h₀ L Led ps stored m₀ Fin { s with heap := h, toks := tk } s₂) E { s with heap := h, toks := tk })
    (done : ∀ c (u : Str → Option Value) h tk, Fin c → Fr h₀ L h (kstB (fun z => if stored.contains z then u z else m₀ z) (ps c)) → News h₀ L h (Led c) → Q .next { s with heap := h, toks := tk })
    (hE : PassesOwn (model prog w) A env E := by passes_own) :
    wpAny (model prog w) A (exec (.While test body [] pos) env) Q E s := by
  refine While_inv2 (fun n m nx => ∃ c : σ, nx = Led c ∧ μ c = n ∧ (∀ p ∈ ps c, m p.1 = some p.2) ∧ (∀ z, (∀ p ∈ ps c, z ≠ p.1) → stored.contains z = false → m z = m₀ z) ∧ Inv c) F N ⟨c₀, rfl, rfl, hk, fun _ _ _ => rfl, hinv⟩ ?_ hE
  rintro n m₁ nx h tk F₁ N₁ ⟨c, rfl, rfl, h1, h2, hp'⟩
  have fin : ∀ s₂, WEnd h₀ L Led ps stored m₀ Fin { s with heap := h, toks := tk } s₂ → Q .next s₂ := by
    rintro s₂ ⟨c', h', tk', m', news', rfl, F', N', hs', hk', hr', hi'⟩
    exact done c' m' h' tk' hi' (ksw_fr hk' hr' F') (fun p hp => N' p (hs' p hp))
  refine wpAny_mono (turn c m₁ h tk hp' (ksw_fr h1 h2 F₁) N₁) (fun b s₂ p => ?_) fun _ _ x => x
  cases b with
  | false =>
    simp only [Bool.false_eq_true, if_false] at p ⊢
    exact fin _ p
  | true =>
    simp only [if_true] at p ⊢
    have up : ∀ s₃, WEnd h₀ L Led ps stored m₀ (fun c' => Inv c' ∧ μ c' < μ c) { s with heap := h, toks := tk } s₃ → ∃ h' tk' m₂ news₂ n', s₃ = { s with heap := h', toks := tk' } ∧ Fr h₀ L h' m₂ ∧ News h₀ L h' news₂ ∧ n' < μ c ∧ ∃ c : σ, news₂ = Led c ∧ μ c = n' ∧ (∀ p ∈ ps c, m₂ p.1 = some p.2) ∧ (∀ z, (∀ p ∈ ps c, z ≠ p.1) → stored.contains z = false → m₂ z = m₀ z) ∧ Inv c := by
      rintro s₃ ⟨c', h', tk', m', news', rfl, F', N', hs', hk', hr', hi', hm'⟩
      exact ⟨h', tk', m', Led c', μ c', rfl, F', fun p hp => N' p (hs' p hp), hm', c', rfl, rfl, hk', hr', hi'⟩
    refine wpAny_mono p (fun f s₃ h₃ => ?_) fun _ _ x => x
    cases f with
    | next => exact up _ h₃
    | cont => exact up _ h₃
    | brk => exact fin _ h₃
    | ret v => exact h₃
end
end Mine
end
section
open PySem PySem.W PySem.Calls PyProof.Rows
set_option maxRecDepth 100000
namespace Mine
theorem oi_args4 (x : Addr) (a b c : Value) : argsOk "object.__init__" ⟨[.ref x, a, b, c], []⟩ := by unfold argsOk; kernel_rfl
set_option maxHeartbeats 40000000 in
theorem match_c (w : World) (p : Program) (loose : List Str) (mean : ExcName → Option Value) (mg mb : Str → Option Value) 
   (fr : List Env) (base : Heap) (s : Shared) (i j k : Int) (ti tj tk : Tok)
    (Q E : Value → Shared → Prop) 
    (C : Cx (AA 3 fr) fr w (KK w.params) p loose mean mg mb base s.heap [])
    (ret : ∀ x dx h' tk', Kept s.heap h' → s.heap.get? x = none → h'.get? x = some { cls := .ref 135, dict := some dx, data := .seq #[.int i ti, .int j tj, .int k tk] } → h'.get? dx = some emptyDict → Q (.ref x) { s with heap := h', toks := tk' }) :
    wpAny (model PP w) (AA 3 fr) (call (.ref 135) [.int i ti, .int j tj, .int k tk]) Q E s := by
  obtain ⟨L1, L2⟩ := tn_looks (model PP w) w.params s.heap (C.X.keeps fun b o e => of_hideAll _ e)
  have C₀ := C
  unfold KK at C
  unfold PP at *
  revert C
  k_fill
  intro C
  have X : (Mine.kK w.params).In s.heap := C.X.keeps fun b o e => of_hideAll _ e
  have e4 : specialIn (Mine.kK w.params) (.ref 135) "__call__" = some (some (.builtin "type.__call__")) := by k_is
  have e5 : instIn (Mine.kK w.params) (.ref 135) (.type "type") = some true := by k_is
  have call := looks_specialIn (M := model PySem.Challenge.rw_oy0507_01.row.prog w) X e4
  have typ := looks_instIn (M := model PySem.Challenge.rw_oy0507_01.row.prog w) X e5
  have hinit := looks_findIn (M := model PySem.Challenge.rw_oy0507_01.row.prog w) X (t := .ref 135) (name := "__init__") (r := some (.builtin "object.__init__")) (by k_is)
  have hself := looks_subIn (M := model PySem.Challenge.rw_oy0507_01.row.prog w) X (t := .ref 135) (base := .ref 135) (r := true) (by k_is)
  have hobj := looks_subIn (M := model PySem.Challenge.rw_oy0507_01.row.prog w) X (t := .ref 135) (base := .type "object") (r := true) (by k_is)
  have hC := X 135 _ (by k_is)
  have hm : Looks (model PySem.Challenge.rw_oy0507_01.row.prog w) s.heap (mroOf (.ref 135)) [.ref 135, .type "tuple", .type "object"] := (looks_clsIn X (C := 135) (by k_is)).andThen .now
  refine wpAny_call ?_
  refine codeAny_of_tree ?_
  show wpAny _ _ (callAny (.ref 135) _) _ _ _
  refine nd_load hC ?_
  show wpAny _ _ (callAny.viaDunder (.ref 135) _) _ _ _
  unfold callAny.viaDunder
  refine wpAny_bind (call.at ?_)
  dsimp only
  rw [tc_bind]
  refine wpAny_bind (wpAny_pure (wpAny_bind (wpAny_pure ?_)))
  refine wpAny_pure (a := Fin.again (.call (.builtin "type.__call__") ⟨.ref 135 :: _, []⟩)) (And.intro rfl ?_)
  refine codeAny_call_builtin_at (Code.quiet_builtin _ (by decide +kernel)) entry_typeCall (check_slot tc_kind tc_split typ (tc_args _ _ _) ?_)
  unfold Builtin.«type.__call__»
  try dsimp only
  rw [if_neg (by decide)]
  try dsimp only
  refine wpAny_bind (hm.at ?_)
  rw [if_neg (by decide)]
  try dsimp only
  refine wpAny_bind (L1.at ?_)
  try dsimp only
  refine wpAny_bind ?_
  have e6 : findCls (Mine.kK w.params) (.ref 135) (.type "type") "__new__" = some (.get (.builtin "staticmethod.__get__") (.ref 136) .none (.ref 135)) := by k_is
  have e7 : readsIn (Mine.kK w.params) 135 (.type "type") = true := by k_is
  have e8 : recIn (Mine.kK w.params) 136 "staticmethod" = some [.ref 82] := by k_is
  refine cls_bind X e7 e6 (wpAny_call (sm_get (s := { s with toks := s.toks + 1 }) X e8 (handed_on rfl ?_)))
  try dsimp only
  refine wpAny_bind (wpAny_holding ?_)
  refine any_le (A := AA 4 fr) (new_c w p loose mean mg mb fr base { s with toks := s.toks + 1 } i j k ti tj tk _ _ ⟨⟨rfl, C₀.B.stays, C₀.B.frames⟩, C₀.X, C₀.T, C₀.N⟩ fun x dx h' tk' hk hx hxo hdo => ?_) ?a1 ?a2 ?a3 ?a4 ?a5
  case a1 => exact rfl
  case a2 => (try simp only [depth_under_make, depth_under_kw, depth_in1, depth_deeper, depth_caller]); decide
  case a3 => exact rfl
  case a4 => exact rfl
  case a5 => first | k_units | exact Nat.le_of_ble_eq_true rfl
  have t1 : Looks (model PySem.Challenge.rw_oy0507_01.row.prog w) h' (typeOf (.ref x)) (.ref 135) := (Looks.ld hxo).andThen .now
  have i1 : Looks (model PySem.Challenge.rw_oy0507_01.row.prog w) h' (isInstance (.ref x) (.ref 135)) true := t1.andThen (hself.keeps hk)
  have i2 : Looks (model PySem.Challenge.rw_oy0507_01.row.prog w) h' (isInstance (.ref x) (.type "object")) true := t1.andThen (hobj.keeps hk)
  have hin := hinit.keeps hk
  have hmd := L1.keeps hk
  refine wpAny_bind (i1.at ?_)
  rw [if_neg (by decide)]
  refine wpAny_bind (wpAny_holding ?_)
  unfold callSpecial? specialOf
  refine wpAny_bind (wpAny_bind (t1.at (hin.at ?_)))
  dsimp only
  refine wpAny_holding ?_
  rw [oi_bind]
  refine wpAny_bind (wpAny_pure ?_)
  dsimp only
  refine wpAny_bind (wpAny_call ?_)
  refine codeAny_call_builtin oi_plain entry_oi (check_slot oi_kind oi_split i2 (oi_args4 _ _ _ _) ?_)
  unfold Builtin.«object.__init__»
  dsimp only
  simp only [List.nil_append, List.cons_append, List.append_eq, List.isEmpty_cons, Bool.not_false, Bool.true_or, if_true]
  refine wpAny_bind (t1.at (wpAny_bind (hin.at (wpAny_bind (hmd.at ?_)))))
  rw [if_neg (by decide)]
  rw [if_neg (by decide)]
  refine wpAny_pure ?_
  show wpAny _ _ (pure (some Value.none)) _ _ _
  refine wpAny_pure ?_
  dsimp only
  rw [if_neg (by decide)]
  refine wpAny_pure ?_
  exact ret x dx h' tk' hk hx hxo hdo
end Mine
end
section
open PySem PySem.W PySem.Calls PyProof.Rows
set_option maxRecDepth 100000
namespace Mine
section
variable {prog : Program} {w : World} {A : Around} {E : Value → Shared → Prop} {s : Shared} {K : Type} [DecidableEq K] {knd : KeyKind prog w K}
theorem dsd_there {d : Addr} {kvs : List (K × Value)} {k : K} {key dflt v : Value} {Q : Value → Shared → Prop} (hkey : knd.is k key = true) (hm : s.heap.DictOf knd d kvs) (hv : valueAt kvs k = some v) (hz : s.heap.DictLe d sizeLine)
    (h : Q v { s with toks := s.toks + 1 }) : wpAny (model prog w) A (dictSetDefault d key dflt) Q E s :=
  wpAny_dictSetDefault_of (hz := hz) hkey hm.mapOf (fun v' hv' => by rw [hv] at hv'; cases hv'; exact h) fun hn => by rw [hv] at hn; cases hn
theorem dsd_new {d : Addr} {kvs : List (K × Value)} {k : K} {key dflt : Value} {Q : Value → Shared → Prop} (hkey : knd.is k key = true) (hm : s.heap.DictOf knd d kvs) (hv : valueAt kvs k = none) (hsz : kvs.length ≤ sizeLine)
    (h : ∀ h', h'.DictOf knd d (kvs ++ [(k, dflt)]) → Heap.SameBut d s.heap h' → Q dflt { s with heap := h', toks := s.toks + 1 }) : wpAny (model prog w) A (dictSetDefault d key dflt) Q E s := by
  obtain ⟨o, es, ep, ho, hc, hd, hk, hp, hn⟩ := hm
  have hes : es.size ≤ sizeLine := by
    have e1 := hp.length
    have e2 : es.toList.length = es.size := by simp
    omega
  have hfind : es.findIdx? (fun e => knd.is k e.key) = none := by
    cases hi : es.findIdx? fun e => knd.is k e.key with
    | none => rfl
    | some i =>
      exfalso
      have h1 := hp.find k
      rw [hv] at h1
      have h2 : (es.toList.find? fun e => knd.is k e.key) = none := by
        cases hq : es.toList.find? fun e => knd.is k e.key with
        | none => rfl
        | some e => rw [hq] at h1; cases h1
      have h3 := (Array.findIdx?_eq_some_iff_getElem.mp hi)
      obtain ⟨hlt, hx, _⟩ := h3
      have := List.find?_eq_none.mp h2 es[i] (by simp)
      exact this hx
  unfold dictSetDefault
  try with_reducible refine wpAny_holding ?_
  refine wpAny_bind (knd.pyHash hkey ?_)
  refine wpAny_bind (wpAny_dictFind_of (s := { s with toks := s.toks + 1 }) hkey ho hd hk ?_)
  rw [hfind]
  have hnot : k ∉ kvs.map (·.1) := by
    intro hm'
    obtain ⟨p, hp', rfl⟩ := List.mem_map.mp hm'
    obtain ⟨i, hi⟩ := List.getElem?_of_mem hp'
    have := valueAt_of_get hn (i := i) (k := p.1) (v := p.2) (by rw [hi])
    rw [hv] at this; cases this
  refine wpAny_bind (wpAny_rule (wpAny_bind (wpAny_updateDictKeys (hz := hes) (s := { s with toks := s.toks + 1 }) ho hd (wpAny_pure (h _ ⟨_, _, ep + 1, Heap.get?_update_self _ ho (Obj.isFreed_of_dict (Obj.data_mapDictKeys hd _)),
      hc.mapDictKeys _, Obj.data_mapDictKeys hd _, hk.push hkey _, ?_, ?_⟩ (Heap.SameBut.update ..))))))
  · have := hp.append hkey (knd.hash k) dflt
    obtain ⟨l⟩ := es
    simpa using this
  · rw [List.map_append, List.nodup_append]
    refine ⟨hn, by simp, ?_⟩
    intro a ha b hb
    simp only [List.map_cons, List.map_nil, List.mem_singleton] at hb
    subst hb
    exact fun e => hnot (e ▸ ha)
variable {h₀ : Heap} {L : Addr} {m : Str → Option Value} {rest : List (Addr × Obj)} {o : Obj}
theorem r_setd_new {d : Addr} {kvs : List (K × Value)} {k : K} {key dflt : Value} {Q : Value → Shared → Prop} (F : Fr h₀ L s.heap m) (N : News h₀ L s.heap ((d, o) :: rest)) (hne : ∀ p ∈ rest, p.1 ≠ d) (hD : o.IsDictOf knd kvs) (lo : (d == sysModules) = false) (hkey : knd.is k key = true) (hv : valueAt kvs k = none) (hsz : kvs.length ≤ 1000)
    (h : ∀ h' o', Fr h₀ L h' m → News h₀ L h' ((d, o') :: rest) → o'.IsDictOf knd (kvs ++ [(k, dflt)]) → Q dflt { s with heap := h', toks := s.toks + 1 }) :
    wpAny (model prog w) A (call (.builtin "dict.setdefault") [.ref d, key, dflt]) Q E s := by
  have hmd := N (d, o) (.head _)
  have hD' : s.heap.DictOf knd d kvs := Heap.dictOf_iff.mpr ⟨o, hmd.1, hD⟩
  have hmeets : MeetsIn prog w (Builtin.«dict.setdefault» ⟨[.ref d, key, dflt], []⟩) (fun _ R s => s.heap.DictOf knd d kvs ∧ ∀ h', h'.DictOf knd d (kvs ++ [(k, dflt)]) → Heap.SameBut d s.heap h' → R (.ok (.ret dflt)) { s with heap := h', toks := s.toks + 1 }) :=
    .of_wp fun A R s ⟨hm, h1⟩ => by
      unfold Builtin.«dict.setdefault»
      refine wpAny_bind ?_
      unfold Builtin.Dict.keyAndDefault
      refine wpAny_bind (wpAny_notOrdered_dict hm.typeIs ?_)
      show wpAny _ _ (pure (d, key, some dflt)) _ _ s
      refine wpAny_pure ?_
      show wpAny _ _ (if (d == sysModules) = true then _ else (dictSetDefault d key dflt >>= _)) _ _ s
      rw [if_neg (by rw [lo]; exact Bool.false_ne_true)]
      exact wpAny_bind (dsd_new hkey hm hv (Nat.le_trans hsz (by rw [sizeLine_eq]; decide)) fun h' hm' hs' => wpAny_pure ⟨dflt, rfl, h1 h' hm' hs'⟩)
  refine call_meetsIn PySem.F.slot_dict_setdefault hD'.typeIs PySem.F.entry_dict_setdefault (PySem.F.args_dict_setdefault_3 _ _ _) hmeets ⟨hD', fun h' hm' hs' => ?_⟩
  obtain ⟨o', ho', hd'⟩ := Heap.dictOf_iff.mp hm'
  exact h h' o' (F.change hs' hmd.2.1 hmd.2.2) (List.forall_mem_cons.mpr ⟨⟨ho', hmd.2⟩, fun p hp => ⟨(hs'.2 p.1 (hne p hp)).trans (N p (.tail _ hp)).1, (N p (.tail _ hp)).2⟩⟩) hd'
theorem r_setd_there {d : Addr} {kvs : List (K × Value)} {k : K} {key dflt v : Value} {Q : Value → Shared → Prop} {news : List (Addr × Obj)} (N : News h₀ L s.heap news) (hm : (d, o) ∈ news) (hD : o.IsDictOf knd kvs) (lo : (d == sysModules) = false) (hkey : knd.is k key = true) (hv : valueAt kvs k = some v) (hsz : kvs.length ≤ 1000)
    (h : Q v { s with toks := s.toks + 1 }) : wpAny (model prog w) A (call (.builtin "dict.setdefault") [.ref d, key, dflt]) Q E s := by
  have hD' := kda_dict N hm hD
  have hz : s.heap.DictLe d sizeLine := by
    obtain ⟨es, ep, hex, hdat, hp, hk, hn⟩ := id hD
    intro o' es' ep' ho' hd'
    rw [(N _ hm).1] at ho'
    cases ho'
    rw [hdat] at hd'
    cases hd'
    have e1 := hk.length
    have e2 : es.toList.length = es.size := by simp
    rw [sizeLine_eq]; omega
  have hmeets : MeetsIn prog w (Builtin.«dict.setdefault» ⟨[.ref d, key, dflt], []⟩) (fun _ R s => s.heap.DictOf knd d kvs ∧ s.heap.DictLe d sizeLine ∧ R (.ok (.ret v)) { s with toks := s.toks + 1 }) :=
    .of_wp fun A R s ⟨hm, hz, h1⟩ => by
      unfold Builtin.«dict.setdefault»
      refine wpAny_bind ?_
      unfold Builtin.Dict.keyAndDefault
      refine wpAny_bind (wpAny_notOrdered_dict hm.typeIs ?_)
      show wpAny _ _ (pure (d, key, some dflt)) _ _ s
      refine wpAny_pure ?_
      show wpAny _ _ (if (d == sysModules) = true then _ else (dictSetDefault d key dflt >>= _)) _ _ s
      rw [if_neg (by rw [lo]; exact Bool.false_ne_true)]
      exact wpAny_bind (dsd_there hkey hm hv hz (wpAny_pure ⟨v, rfl, h1⟩))
  exact call_meetsIn PySem.F.slot_dict_setdefault hD'.typeIs PySem.F.entry_dict_setdefault (PySem.F.args_dict_setdefault_3 _ _ _) hmeets ⟨hD', hz, h⟩
end
end Mine
end
section
open PySem PySem.W PySem.Calls PyProof.Rows
set_option maxRecDepth 100000
namespace Mine
section
variable {prog : Program} {w : World} {A : Around} {E : Value → Shared → Prop} {s : Shared}
theorem nextOf_tuple_item {it t : Addr} {i : Nat} {items} {x : Value} {Q : Value → Shared → Prop} (hit : s.heap.IsTupleIter it t i) (ht : s.heap.IsTuple t items) (hx : items[i]? = some x)
    (hQ : ∀ h', h'.IsTupleIter it t (i + 1) → Heap.SameBut it s.heap h' → Q x { s with heap := h' }) : wpAny (model prog w) A (Builtin.SmallTypes.nextOf (.ref it)) Q E s := by
  obtain ⟨o, ho, hc, hd⟩ := id hit
  obtain ⟨ol, hol, _, nl, hdl⟩ := ht
  unfold Builtin.SmallTypes.nextOf
  refine wpAny_bind (wpAny_callSpecial?_slot (name := Str.ofString "__next__") hit.typeIs F.slot_tuple_iterator_next
    (wpAny_call_entry F.slot_tuple_iterator_next hit.typeIs F.entry_tuple_iterator_next ?_ (F.args_tuple_iterator_next_1 _)))
  show wpAny _ _ (field (.ref it) 0 >>= _) _ _ s
  refine wpAny_bind (wpAny_field ho hd (x := .ref t) rfl ?_)
  show wpAny _ _ (if (Value.ref t == Value.none) = true then _ else _) _ _ s
  rw [if_neg (show ¬ ((Value.ref t == Value.none) = true) from Bool.false_ne_true)]
  show wpAny _ _ (field (.ref it) 1 >>= _) _ _ s
  refine wpAny_bind (wpAny_field ho hd (x := .int i 0) rfl ?_)
  show wpAny _ _ (seqItems? (.ref t) >>= _) _ _ s
  refine wpAny_bind (wpAny_seqItems hol hdl ?_)
  simp only [Int.toNat_natCast, hx]
  refine wpAny_bind (wpAny_setField ho hd (by simp) (wpAny_pure ⟨x, rfl, wpAny_pure (hQ _ ?_ (Heap.SameBut.update ..))⟩))
  exact ⟨_, Heap.get?_update_self _ ho (Obj.isFreed_of_fields (Obj.data_mapFields hd _)), (Obj.cls_mapFields ..).trans hc, by
    rw [Obj.data_mapFields hd]; simp [rawInt]⟩
theorem nextOf_tuple_end {it t : Addr} {i : Nat} {items} {Q : Value → Shared → Prop} (hh : A.handled = none) (hit : s.heap.IsTupleIter it t i) (ht : s.heap.IsTuple t items) (hx : items[i]? = none)
    (hE : ∀ h' e, Heap.ExtBut it s.heap h' → (∃ o, h'.get? e = some o ∧ o.cls = .type "StopIteration") → E (.ref e) { s with heap := h' }) : wpAny (model prog w) A (Builtin.SmallTypes.nextOf (.ref it)) Q E s := by
  obtain ⟨o, ho, hc, hd⟩ := id hit
  obtain ⟨ol, hol, _, nl, hdl⟩ := ht
  unfold Builtin.SmallTypes.nextOf
  refine wpAny_bind (wpAny_callSpecial?_slot (name := Str.ofString "__next__") hit.typeIs F.slot_tuple_iterator_next
    (wpAny_call_entry F.slot_tuple_iterator_next hit.typeIs F.entry_tuple_iterator_next ?_ (F.args_tuple_iterator_next_1 _)))
  show wpAny _ _ (field (.ref it) 0 >>= _) _ _ s
  refine wpAny_bind (wpAny_field ho hd (x := .ref t) rfl ?_)
  show wpAny _ _ (if (Value.ref t == Value.none) = true then _ else _) _ _ s
  rw [if_neg (show ¬ ((Value.ref t == Value.none) = true) from Bool.false_ne_true)]
  show wpAny _ _ (field (.ref it) 1 >>= _) _ _ s
  refine wpAny_bind (wpAny_field ho hd (x := .int i 0) rfl ?_)
  show wpAny _ _ (seqItems? (.ref t) >>= _) _ _ s
  refine wpAny_bind (wpAny_seqItems hol hdl ?_)
  simp only [Int.toNat_natCast, hx]
  refine wpAny_bind (wpAny_rule (wpAny_bind (wpAny_setField ho hd (by simp) ?_)))
  show wpAny _ _ (newExc (.type "StopIteration") [] >>= _) _ _ _
  refine wpAny_bind ?_
  simp only [newExc, newTuple]
  refine wpAny_bind (wpAny_newObj_type ?_ (by size_fits))
  refine wpAny_bind (m := firstArgMember _ _) (wpAny_of_eq (a := Value.none) (by first | rfl | (simp only [firstArgMember]; rfl)) ?_)
  refine wpAny_newObj_type ?_ (by size_fits)
  simp only [raiseNew]
  refine wpAny_bind (wpAny_handled ?_)
  first | rw [show A.in1.handled = none from hh] | rw [hh]
  refine wpAny_bind (wpAny_pure (wpAny_throw ?_))
  exact hE _ _ (((Heap.SameBut.update ..).extBut.push _).push _) ⟨_, Heap.get?_push_size _ rfl, rfl⟩
end
theorem tupleIter_at {h h' : Heap} {it t i : Nat} (x : h.IsTupleIter it t i) (e : ∀ o, h.get? it = some o → h'.get? it = some o) : h'.IsTupleIter it t i := let ⟨o, ho, r⟩ := x; ⟨o, e _ ho, r⟩
theorem draws_tuple {prog : Program} {w : World} {A : Around} (hh : A.handled = none) (it l : Addr) (hne : l ≠ it) (items : Array Value) :
    Draws prog w A it [it, l] items.size (fun i v => items[i]? = some v) (fun i h => h.IsTupleIter it l i ∧ h.IsTuple l items) where
  live := fun _ _ st => let ⟨o, ho, _⟩ := st.1; ⟨o, ho⟩
  frame := fun _ _ _ st hk => ⟨tupleIter_at st.1 fun o e => hk it (by simp) o e, st.2.at fun o e => hk l (by simp) o e⟩
  item := fun i s Q E hi st hQ => by
    refine nextOf_tuple_item st.1 st.2 (x := items[i]) (by simp [hi]) fun h' hit' hs' => ?_
    exact hQ _ h' s.toks (by simp [hi]) ⟨hit', st.2.at fun o e => hs'.extBut l o hne e⟩ hs'
  done := fun s Q E st hE => nextOf_tuple_end hh st.1 st.2 (by simp) hE
theorem meets_enum_tuple (l : Addr) (items : Array Value) (n : Nat) (dct : Option Addr) (sl : Array (Option Value)) :
    Meets (Builtin.«enumerate.__new__» ⟨[.type "enumerate", .ref l], []⟩) (fun _ R s => s.heap.get? l = some { cls := .type "tuple", dict := dct, data := .seq items n, slots := sl } ∧
      R (.ok (.ret (.ref (s.heap.push { cls := .type "tuple_iterator", data := .fields #[.ref l, .int 0 0] }).objs.size)))
        { s with heap := (s.heap.push { cls := .type "tuple_iterator", data := .fields #[.ref l, .int 0 0] }).push { cls := .type "enumerate", data := .fields #[.none, .bool false, .ref s.heap.objs.size, rawInt 0, .none, .none] } }) :=
  .of_wp fun prog w A R s h => by
    obtain ⟨hp, g, d, tk, os⟩ := s
    obtain ⟨hl, h⟩ := h
    have hsub := sub_enumerate
    have hL : Heap.IsTuple hp l items := ⟨_, hl, rfl, n, rfl⟩
    wp_walk using wpAny_loadPart' hl
    refine wpAny_stack_any fun st => wpAny_pure ?_
    split
    · rename_i c _ _ _ _ _
      cases (c == Value.type "enumerate")
      · wp_walk using wpAny_loadPart' hl, wpAny_pyIter_tuple hL
        exact ⟨_, rfl, h⟩
      · wp_walk using wpAny_loadPart' hl, wpAny_pyIter_tuple hL
        exact ⟨_, rfl, h⟩
    · wp_walk using wpAny_loadPart' hl, wpAny_pyIter_tuple hL
      exact ⟨_, rfl, h⟩
theorem call_enum_tuple {prog : Program} {w : World} {A : Around} {E : Value → Shared → Prop} {s : Shared} {l : Addr} {items : Array Value} {Q : Value → Shared → Prop} (hL : s.heap.IsTuple l items)
    (h : ∀ h', IsEnum h' (s.heap.objs.size + 1) s.heap.objs.size 0 .none → h'.IsTupleIter s.heap.objs.size l 0 → h'.objs.size = s.heap.objs.size + 2 →
      (∀ b o, s.heap.get? b = some o → h'.get? b = some o) → Q (.ref (s.heap.objs.size + 1)) { s with heap := h' }) :
    wpAny (model prog w) A (call (.type "enumerate") [.ref l]) Q E s := by
  obtain ⟨⟨c, dct, dt, sl⟩, hl, hc, n, hd⟩ := hL
  replace hc : c = .type "tuple" := hc
  replace hd : dt = .seq items n := hd
  subst hc hd
  refine callType_new F.called_enumerate (by decide) (F.typeCall_enumerate_1 _) (F.newCall_enumerate_1 _) (fun obj => F.args_object_init_2 obj _) F.entry_enumerate_new
    (meets_enum_tuple l items n dct sl) ⟨hl, ?_⟩
  have hz : (s.heap.push { cls := .type "tuple_iterator", data := .fields #[.ref l, .int 0 0] }).objs.size = s.heap.objs.size + 1 := Heap.size_push ..
  show _ ∧ _
  rw [hz]
  have he : IsEnum ((s.heap.push { cls := .type "tuple_iterator", data := .fields #[.ref l, .int 0 0] }).push
      { cls := .type "enumerate", data := .fields #[.none, .bool false, .ref s.heap.objs.size, rawInt 0, .none, .none] }) (s.heap.objs.size + 1) s.heap.objs.size 0 .none := by
    have := Heap.get?_push_size (s.heap.push { cls := .type "tuple_iterator", data := .fields #[.ref l, .int 0 0] })
      (o := { cls := .type "enumerate", data := .fields #[.none, .bool false, .ref s.heap.objs.size, rawInt 0, .none, .none] }) rfl
    rw [hz] at this; exact this
  exact ⟨⟨_, he, rfl⟩, h _ he ⟨_, Heap.get?_push_of_some _ (Heap.get?_push_size _ rfl), rfl, rfl⟩ (by rw [Heap.size_push, hz]) fun b o x => Heap.get?_push_of_some _ (Heap.get?_push_of_some _ x)⟩
end Mine
end
section
open PySem PySem.W PySem.Calls PyProof.Rows
set_option maxRecDepth 100000
namespace Mine
/-- a dict of texts to lists of ints: its pairs, its list objects, what they say -/
inductive IdxPairs : List (Str × Value) → List (Addr × Obj) → List (Str × List Int) → Prop
  | nil : IdxPairs [] [] []
  | cons {k : Str} {a : Addr} {vs : Array Value} {n : Nat} {js : List Int} {kvs : List (Str × Value)} {objs : List (Addr × Obj)} {W : List (Str × List Int)} :
      IntsAre vs.toList js → IdxPairs kvs objs W → IdxPairs ((k, .ref a) :: kvs) ((a, listOf vs n) :: objs) ((k, js) :: W)
theorem IdxPairs.snoc {kvs : List (Str × Value)} {objs : List (Addr × Obj)} {W : List (Str × List Int)} (h : IdxPairs kvs objs W) (k : Str) (a : Addr) {vs : Array Value} {n : Nat} {js : List Int} (hi : IntsAre vs.toList js) :
    IdxPairs (kvs ++ [(k, .ref a)]) (objs ++ [(a, listOf vs n)]) (W ++ [(k, js)]) := by
  induction h with
  | nil => exact .cons hi .nil
  | cons h1 _ ih => exact .cons h1 ih
/-- the ints under a key -/
noncomputable def wLook (W : List (Str × List Int)) (k : Str) : Option (List Int) := (W.find? fun p => p.1 = k).map (·.2)
theorem IdxPairs.look {kvs : List (Str × Value)} {objs : List (Addr × Obj)} {W : List (Str × List Int)} (h : IdxPairs kvs objs W) (k : Str) :
    (valueAt kvs k = none ∧ wLook W k = none) ∨ ∃ a vs n js, valueAt kvs k = some (.ref a) ∧ (a, listOf vs n) ∈ objs ∧ IntsAre vs.toList js ∧ wLook W k = some js := by
  induction h with
  | nil => exact .inl ⟨rfl, rfl⟩
  | @cons k' a vs n js kvs objs W h1 _ ih =>
    by_cases e : k' = k
    · refine .inr ⟨a, vs, n, js, ?_, .head _, h1, ?_⟩
      · simp [valueAt, e]
      · simp [wLook, e]
    · have e1 : valueAt ((k', Value.ref a) :: kvs) k = valueAt kvs k := by simp [valueAt, e]
      have e2 : wLook ((k', js) :: W) k = wLook W k := by simp [wLook, e]
      rw [e1, e2]
      rcases ih with h | ⟨a', vs', n', js', h2, h3, h4, h5⟩
      · exact .inl h
      · exact .inr ⟨a', vs', n', js', h2, .tail _ h3, h4, h5⟩
theorem IdxPairs.len {kvs : List (Str × Value)} {objs : List (Addr × Obj)} {W : List (Str × List Int)} (h : IdxPairs kvs objs W) : kvs.length = W.length := by
  induction h with
  | nil => rfl
  | cons _ _ ih => rw [List.length_cons, List.length_cons, ih]
end Mine
end
section
open PySem PySem.W PySem.Calls PyProof.Rows
set_option maxRecDepth 100000
namespace Mine
open AutoSeq1 (wpAny_loadPart') in
set_option maxHeartbeats 40000000 in
theorem ne3 (l b : Addr) (i j k : Int) (ti tj tk ti' tj' tk' : Tok) (n n2 : Nat) (dd dd2 : Option Addr) (sl sl2 : Array (Option Value)) :
    Meets (Builtin.«tuple.__ne__» ⟨[.ref l, .ref b], []⟩)
      (fun A R s => s.heap.get? l = some { cls := .ref 135, dict := dd, data := .seq #[.int i ti, .int j tj, .int k tk] n, slots := sl } ∧ s.heap.get? b = some { cls := .type "tuple", dict := dd2, data := .seq #[.int i ti', .int j tj', .int k tk'] n2, slots := sl2 } ∧
        R (.ok (.ret (.bool false))) s) :=
  .of_wp fun prog w A R s h => by
    obtain ⟨hp, g, d, tk, os⟩ := s; obtain ⟨hl, hb, h⟩ := h
    have f2 := AutoSeq1.sub_tuple_tuple
    wp_walk using wpAny_loadPart' hl, wpAny_loadPart' hb
    refine SeqAt.EqAt.int_int i ti i ti' prog w _ _ ?_
    rw [beq_self_eq_true]
    wp_walk
    refine SeqAt.EqAt.int_int j tj j tj' prog w _ _ ?_
    rw [beq_self_eq_true]
    wp_walk
    refine SeqAt.EqAt.int_int k _ k tk' prog w _ _ ?_
    rw [beq_self_eq_true]
    wp_walk
    exact ⟨_, rfl, h⟩
theorem ne_plain : plainId "tuple.__ne__" = true := F.slot_tuple_ne.plain
theorem ne_kind : builtinKind "tuple.__ne__" = some .slot := by decide +kernel
theorem ne_split : splitId "tuple.__ne__" = some ("tuple", "__ne__") := by decide +kernel
set_option maxHeartbeats 40000000 in
theorem match_ne {w : World} {A : Around} {E : Value → Shared → Prop} {s : Shared} {z D dx : Addr} {i j k : Int} {ti tj tk ti' tj' tk' : Tok} {Q : Value → Shared → Prop} (X : (KK w.params).In s.heap)
    (hz : s.heap.get? z = some { cls := .ref 135, dict := some dx, data := .seq #[.int i ti, .int j tj, .int k tk] }) (hD : s.heap.get? D = some { cls := .type "tuple", data := .seq #[.int i ti', .int j tj', .int k tk'] })
    (hu : A.units + 1 < cLine) (h : Q (.bool false) s) : wpAny (model PP w) A (compareOp .NotEq (.ref z) (.ref D)) Q E s := by
  unfold KK at X
  unfold PP
  revert X
  k_fill
  intro X
  have hne := looks_findIn (M := model PySem.Challenge.rw_oy0507_01.row.prog w) X (t := .ref 135) (name := "__ne__") (r := some (.builtin "tuple.__ne__")) (by k_is)
  have hsub := looks_subIn (M := model PySem.Challenge.rw_oy0507_01.row.prog w) X (t := .type "tuple") (base := .ref 135) (r := false) (by k_is)
  have hself := looks_subIn (M := model PySem.Challenge.rw_oy0507_01.row.prog w) X (t := .ref 135) (base := .type "tuple") (r := true) (by k_is)
  have i1 : Looks (model PySem.Challenge.rw_oy0507_01.row.prog w) s.heap (isInstance (.ref z) (.type "tuple")) true := ((Looks.ld hz).andThen .now : Looks (model PySem.Challenge.rw_oy0507_01.row.prog w) s.heap (typeOf (.ref z)) (.ref 135)).andThen hself
  show wpAny _ _ (richCompare .NotEq (.ref z) (.ref D)) _ _ _
  unfold richCompare
  simp only [oneThing_ref]
  refine wpAny_holding ?_
  refine wpAny_bind (wpAny_cRoomFor (Nat.lt_of_succ_lt hu) ?_)
  rw [cmpInfo_NotEq]
  dsimp only
  refine wpAny_bind (wpAny_typeOf_ref hz ?_)
  refine wpAny_bind (wpAny_typeOf_ref hD ?_)
  rw [if_pos (show (Value.ref 135 != Value.type "tuple") = true by decide)]
  refine wpAny_bind (hsub.at ?_)
  rw [if_neg (show ¬ (false = true) by decide)]
  refine wpAny_bind ?_
  simp only [tryCompare]
  refine wpAny_bind ?_
  simp only [callSpecialIfBound?, bindSpecialIfBound?]
  refine wpAny_holding (wpAny_bind (wpAny_bind ?_))
  show wpAny _ _ (typeOf (.ref z) >>= fun t => typeLookup t "__ne__") _ _ _
  refine wpAny_bind (wpAny_typeOf_ref hz (hne.at ?_))
  simp only [F.slot_tuple_ne.bind]
  have hcall : wpAny (model PySem.Challenge.rw_oy0507_01.row.prog w) A (call (.builtin "tuple.__ne__") [.ref z, .ref D]) (fun v s' => v = .bool false ∧ s' = s) E s := by
    refine wpAny_call ?_
    refine codeAny_call_builtin ne_plain F.entry_tuple_ne (check_slot ne_kind ne_split i1 (F.args_tuple_ne_2 _ _) ?_)
    exact ne3 z D i j k ti tj tk ti' tj' tk' 0 0 (some dx) none #[] #[] PySem.Challenge.rw_oy0507_01.row.prog w A (wants (fun v s' => v = .bool false ∧ s' = s) E) s ⟨hz, hD, rfl, rfl⟩
  have fin : wpAny (model PySem.Challenge.rw_oy0507_01.row.prog w) A (call (.builtin "tuple.__ne__") ([.ref z] ++ [.ref D]) >>= fun v => pure (some v)) (fun v s' => v = some (.bool false) ∧ s' = s) E s := wpAny_bind (wpAny_mono hcall (fun v s' h' => wpAny_pure ⟨by rw [h'.1], h'.2⟩) fun _ _ x => x)
  refine wpAny_bind (wpAny_askSetting (wpAny_ite ?_))
  split
  · refine wpAny_bind (wpAny_pure (wpAny_pure ?_))
    exact wpAny_mono fin (fun a s' h' => by obtain ⟨rfl, rfl⟩ := h'; exact wpAny_pure (wpAny_pure h)) fun _ _ x => x
  · refine wpAny_tryCatch (wpAny_bind (wpAny_pure (wpAny_pure ?_)))
    exact wpAny_mono fin (fun a s' h' => by obtain ⟨rfl, rfl⟩ := h'; exact wpAny_pure (wpAny_pure h)) fun _ _ x => x
end Mine
end
section
open PySem PySem.W PySem.Calls PyProof.Rows
set_option maxRecDepth 100000
namespace Mine
section
variable {prog : Program} {w : World} {A : Around} {E : Value → Shared → Prop} {s : Shared} {env : Env} {h₀ : Heap} {xi xc : Str} {body : List Stmt} {Q : Flow → Shared → Prop}
theorem enum_tuple_loop {σ : Type} {pk pv pt : Pos} {x1 : Nat} {l : Addr} {items : Array Value} {m₀ : Str → Option Value} (Led : σ → List (Addr × Obj)) (ps : σ → List (Str × Value)) (stored : List Str) (Inv : Nat → σ → Prop) (c₀ : σ)
    (hh : A.handled = none) (hxi : env.kindOf xi = some .local) (hxc : env.kindOf xc = some .local)
    (hp : (env.scope.kind == .class || (env.scope.kind == .module && env.locals != env.globals)) = false)
    (hT : h₀.IsTuple l items)
    (F : Fr h₀ env.locals s.heap m₀) (N : News h₀ env.locals s.heap (Led c₀)) (hk : ∀ p ∈ ps c₀, m₀ p.1 = some p.2) (hinv : Inv 0 c₀)
    (turn : ∀ I J (i : Nat) v ti c (u : Str → Option Value) h tk own, J = I + 1 → items[i]? = some v → Inv i c → (∀ p ∈ Led c, p.1 ∉ [J, I]) → (∀ p ∈ own, p.1 ∈ [J, I, l]) → (∀ b ∈ [J, I], ∃ o, (b, o) ∈ own) →
      Fr h₀ env.locals h (fun y => if y = xc then some v else if y = xi then some (.int i ti) else kstB (fun z => if stored.contains z then u z else m₀ z) (ps c) y) → News h₀ env.locals h (Led c ++ own) →
      wpAny (model prog w) A (execs body env) (fun f s₂ => match f with
        | .next => PTurn h₀ env.locals [J, I] xi xc Led ps stored m₀ (Inv (i + 1)) own { s with heap := h, toks := tk } s₂
        | _ => False) E { s with heap := h, toks := tk })
    (done : ∀ c (u : Str → Option Value) h tk, Inv items.size c → Fr h₀ env.locals h (fun y => if y = xc then u y else if y = xi then u y else kstB (fun z => if stored.contains z then u z else m₀ z) (ps c) y) → News h₀ env.locals h (Led c) → Q .next { s with heap := h, toks := tk })
    (hE : PassesOwn (model prog w) A env E := by passes_own) :
    wpAny (model prog w) A (call (.type "enumerate") [.ref l]) (fun xv s₁ => wpAny (model prog w) A (pyIter xv) (fun it s₂ => codeAny (model prog w) A (.forLoop (.Tuple [.Name xi pk, .Name xc pv] x1 pt) it body [] env) (fun r s' => match r with | .ok f => Q f s' | .error e => cameBackBy (model prog w) A env E e s') s₂) E s₁) E s := by
  have hLs : env.locals < s.heap.objs.size := F.ns.lt
  have hab : h₀.objs.size ≤ env.locals := F.above
  have hl0 : l < h₀.objs.size := by obtain ⟨o, ho, _⟩ := id hT; exact Heap.lt_size ho
  have hTs : s.heap.IsTuple l items := hT.at fun o e => F.keep l o e
  refine call_enum_tuple hTs fun h' he hit hsz hk' => ?_
  have F' : Fr h₀ env.locals h' m₀ := ⟨F.ns.keeps hk', fun b o e => hk' b o (F.keep b o e), F.above⟩
  have N' : News h₀ env.locals h' (Led c₀) := fun p hp => ⟨hk' _ _ (N p hp).1, (N p hp).2⟩
  refine wpAny_pyIter_enum he ?_
  have hls : l < s.heap.objs.size := Nat.lt_of_lt_of_le hl0 (Nat.le_trans hab (Nat.le_of_lt hLs))
  have side1 : s.heap.objs.size + 1 ∉ [s.heap.objs.size, l] := fun hm => by
    rcases List.mem_cons.mp hm with e | hm
    · exact Nat.succ_ne_self _ e
    · exact Nat.ne_of_gt (Nat.lt_succ_of_lt hls) (List.mem_singleton.mp hm)
  have off : ∀ q, q < s.heap.objs.size → q ∉ [s.heap.objs.size + 1, s.heap.objs.size] := fun q hq hm => by
    rcases List.mem_cons.mp hm with e | hm
    · exact Nat.ne_of_lt (Nat.lt_succ_of_lt hq) e
    · exact Nat.ne_of_lt hq (List.mem_singleton.mp hm)
  have hwr : ∀ b ∈ [s.heap.objs.size + 1, s.heap.objs.size], h₀.get? b = none := fun b hb => by
    rcases List.mem_cons.mp hb with rfl | hb
    · exact Heap.get?_none_of_le (Nat.le_trans hab (Nat.le_of_lt (Nat.lt_succ_of_lt hLs)))
    · rw [List.mem_singleton.mp hb]; exact Heap.get?_none_of_le (Nat.le_trans hab (Nat.le_of_lt hLs))
  have hnw : ∀ p ∈ Led c₀, p.1 ∉ [s.heap.objs.size + 1, s.heap.objs.size] := fun p hp => off _ (Heap.lt_size (N p hp).1)
  have hT' : h'.IsTuple l items := hTs.at fun o e => hk' l o e
  refine pair_walk (P2 := fun i v0 v1 => ∃ t, v0 = .int i t ∧ items[i]? = some v1) Led ps stored Inv c₀ hh (WalksT.enumerateD (draws_tuple (A := A.in1) hh s.heap.objs.size l (Nat.ne_of_lt hls) items) (s.heap.objs.size + 1) (Nat.succ_ne_self _) side1 (by simp)) ?_ hxi hxc hp ?_ ?_ hwr hnw ⟨⟨_, by simpa using he⟩, hit, hT'⟩ F' N' hk hinv ?_ done hE
  · rintro i vals ⟨t, v, hPx, rfl⟩
    exact ⟨_, _, rfl, t, rfl, hPx⟩
  · intro hm
    rcases List.mem_cons.mp hm with e | hm
    · exact Nat.ne_of_lt (Nat.lt_succ_of_lt hLs) e
    · rcases List.mem_cons.mp hm with e | hm
      · exact Nat.ne_of_lt hLs e
      · exact Nat.ne_of_gt (Nat.lt_of_lt_of_le hl0 hab) (List.mem_singleton.mp hm)
  · rintro i h ⟨⟨_, he⟩, hit, _⟩ b hb
    rcases List.mem_cons.mp hb with rfl | hb
    · exact ⟨_, he⟩
    · rw [List.mem_singleton.mp hb]
      obtain ⟨o, ho, _⟩ := id hit
      exact ⟨o, ho⟩
  · rintro i v0 v1 c u h tk own hi ⟨t, rfl, hc⟩ hv h1 h2 h3 F₁ N₁
    exact turn _ _ i v1 t c u h tk own rfl hc hv h1 h2 h3 F₁ N₁
end
end Mine
end
section
open PySem PySem.W PySem.Calls PyProof.Rows
namespace Mine
noncomputable def Halt (p : Prop) : Prop := p
theorem Halt.mk {p : Prop} (h : Halt p) : p := h
end Mine
end
section
open PySem PySem.W PySem.Calls PyProof.Rows
set_option maxRecDepth 100000
namespace Mine
local macro_rules | `(tactic| walk_at "getAttr ref") => `(tactic| (k_here; (with_reducible show wpAny _ _ (getAttr (Value.ref _) (Str.ofString "__contains__") _) _ _ _); refine' r_ga_scon ?F ?N ?M ?O ?_; (case F => k_asm); (case N => k_asm); (case M => k_mem); (case O => with_reducible assumption); k_whole; intro q' h' F' N' l1; (try k_lt l1); (try k_sweep)))
local macro_rules | `(tactic| walk_at "getAttr ref") => `(tactic| (k_here; (with_reducible show wpAny _ _ (getAttr (Value.ref _) (Str.ofString "get") _) _ _ _); refine' r_ga_dget ?F ?N ?M ?O ?_; (case F => k_asm); (case N => k_asm); (case M => k_mem); (case O => with_reducible assumption); k_whole; intro q' h' F' N' l1; (try k_lt l1); (try k_sweep)))
local macro_rules | `(tactic| walk_at "pyIter ref") => `(tactic| (k_here; (with_reducible refine Halt.mk ?_)))
local macro_rules | `(tactic| walk_at "call builtin:dict.get") => `(tactic| (k_here; (with_reducible show wpAny _ _ (call (Value.builtin _) [_, Value.str _ _, Value.ref _]) _ _ _); (with_reducible refine Halt.mk ?_)))
local macro_rules | `(tactic| walk_at "callWith ref") => `(tactic| (k_here; (with_reducible show wpAny _ _ (callWith _ (Value.ref _) [] (backTo _ (starEach (_ :: _) _)) []) _ _ _); refine' r_callWith_bm ?N ?M ?_; (case N => k_asm); (case M => k_mem); k_whole))
local macro_rules | `(tactic| walk_at "And") => `(tactic| (refine r_bm_and (by k_asm) (by k_mem) ?_; (try dsimp only [List.nil_append, List.cons_append])))
local macro_rules | `(tactic| walk_at "call ref") => `(tactic| (k_here; (with_reducible show wpAny _ _ (call (Value.ref _) [Value.int _ _, Value.int _ _]) _ _ _); refine' r_call_dgetI ?N ?q ?d ?D ?f ?lo ?_; (case N => k_asm); (case q => k_mem); (case d => k_mem); (case D => with_reducible assumption); (case f => with_reducible assumption); (case lo => with_reducible assumption); k_whole; intro _))
local macro_rules | `(tactic| walk_at "call ref") => `(tactic| (k_here; (with_reducible show wpAny _ _ (call (Value.ref _) [Value.str _ _]) _ _ _); refine' r_call_sconS ?N ?q ?d ?D ?_; (case N => k_asm); (case q => k_mem); (case d => k_mem); (case D => with_reducible assumption); k_whole))
local macro_rules | `(tactic| walk_at "And") => `(tactic| (refine' r_bm_and ?N ?M ?_; (case N => k_asm); (case M => k_mem); (try dsimp only [List.nil_append, List.cons_append])))
local macro_rules | `(tactic| kst_same) => `(tactic| (intro z h1 h2 h3; (simp only [List.forall_mem_cons, List.not_mem_nil, false_implies, implies_true, and_true, ne_eq] at h2); (simp only [List.contains_cons, List.contains_nil, Bool.or_false, Bool.or_eq_false_iff, beq_eq_false_iff_ne, ne_eq] at h3); (simp [kstB, h1, h2, h3]; done)))
local macro_rules | `(tactic| walk_at "exec While BoolOp cons nil") => `(tactic| (refine Halt.mk ?_))
local macro_rules | `(tactic| walk_at "exec While") => `(tactic| (refine Halt.mk ?_))
local macro_rules | `(tactic| walk_at "exec") => `(tactic| ((with_reducible show wpAny _ _ (exec (Stmt.While _ _ _ _) _) _ _ _); refine Halt.mk ?_))
set_option maxRecDepth 100000 in
set_option maxHeartbeats 40000000 in
theorem flm_c (w : World) (p : Program) (loose : List Str) (mean : ExcName → Option Value) (mg mb : Str → Option Value) 
   (fr : List Env) (base : Heap) (s : Shared) (x y : Str) (t1 t2 : Tok) (self dd bd bj : Addr) (ob os : Obj) (jv : Value) (n : Nat) (k1 k2 k3 k4 k5 k6 k7 k8 k9 k10 : Tok) (pv bp : Value)
   (alo blo : Int) (a1 a2 a3 a4 : Tok) (kvs : List (Str × Value))
    (Q E : Value → Shared → Prop) 
    (C : Cx (AA 2 fr) fr w (KK w.params) p loose mean mg mb base s.heap [(self, instObj 242 dd), (dd, dictOf [en w.params "isjunk" k1 jv, en w.params "a" k2 (.str x t1), en w.params "b" k3 (.str y t2), en w.params "autojunk" k4 (.bool true), en w.params "matching_blocks" k5 .none, en w.params "opcodes" k6 .none, en w.params "fullbcount" k7 .none, en w.params "b2j" k8 (.ref bd), en w.params "bjunk" k9 (.ref bj), en w.params "bpopular" k10 bp] n), (bd, ob), (bj, os)])
    (hob : ob.IsDictOf (PySem.strKind PP w) kvs)
    (row : Nat → List Int) (S : Str → Bool) (hos : IsSetObj os) (hS : ObjSet (PySem.strKind PySem.Challenge.rw_oy0507_01.row.prog w) os S) (hbd : (bd == sysModules) = false) (hrow : ∀ i : Nat, i < 6 → (row i).length ≤ 10 ∧ ((valueAt kvs (PySem.Txt.item x (alo + i * 1)) = none ∧ row i = []) ∨ ∃ z vs nn, valueAt kvs (PySem.Txt.item x (alo + i * 1)) = some (.ref z) ∧ s.heap.get? z = some (listOf vs nn) ∧ z ≠ self ∧ z ≠ dd ∧ z ≠ bd ∧ z ≠ bj ∧ IntsAre vs.toList (row i))) (hob' : IsDictObj ob) (hy : y.length = 10) (hx : x.length = 10) (ha : 0 ≤ alo ∧ alo ≤ 4)  (hb : 0 ≤ blo ∧ blo ≤ 4)
    (hB : Box4 alo blo (outGo row alo blo 6).2)
    (ret : ∀ z dx h' tk' i j k ti tj tk2, Kept s.heap h' → s.heap.get? z = none → h'.get? z = some { cls := .ref 135, dict := some dx, data := .seq #[.int i ti, .int j tj, .int k tk2] } → h'.get? dx = some emptyDict → (i, j, k) = flmOut S x y row alo blo → Q (.ref z) { s with heap := h', toks := tk' }) :
    wpAny (model PP w) (AA 2 fr) (call (.ref 196) [.ref self, .int alo a1, .int (alo + 6) a2, .int blo a3, .int (blo + 6) a4]) Q E s := by
  unfold KK at C
  unfold PP at hob ⊢
  revert C
  k_fill
  intro C
  obtain ⟨B, X, T, N⟩ := C
  refine wpAny_call ?_
  refine' enterP ?k1 ?k2 ?k3 ?kN ?k6 ?k7 ?k8 ?k9 ?kB ?_ ?c2 ?c3 ?c4 ?c5; (case k1 => exact B); (case k2 => exact X); (case k3 => exact T); (case kN => exact N); (case k6 => k_is); (case k7 => k_is); (case k8 => exact Nat.le_of_ble_eq_true rfl); (case k9 => first | exact BindsTo.of_eq rfl | exact binds_K (K := Mine.kK w.params) (X.keeps fun b o e => of_hideAll _ e) rfl (by k_is) rfl rfl rfl); (case c5 => decide); (case kB => exact locs rfl); (case c2 => exact rfl); (case c3 => exact rfl); (case c4 => exact rfl); intro g' L' h' hg' F' N' B' X' T' lt'; (try dsimp only); (try k_fold)
  unfold en at N'
  simp only [List.forall_mem_cons, List.not_mem_nil, false_implies, implies_true, and_true] at lt'
  obtain ⟨l1, l2, l3, l4⟩ := lt'
  k_steps
  rename_i q' h16 l14 D1 h15 l13 h14 h13 h12 h11 h10 tk2 D' h9 l12 h8 h7 h6 h5 tk1 d' h4 o' lo' hs' fs' hi' fi' l11 h3 ln' h2 l10 h1 F' N' hh tk0 t1' u1' v1' hR F2 N2 hext
  clear hext hs' fs' F' N'
  unfold Halt
  obtain ⟨oD, hoD⟩ : ∃ o, o = dictOf [en w.params "isjunk" k1 jv, en w.params "a" k2 (.str x t1), en w.params "b" k3 (.str y t2), en w.params "autojunk" k4 (.bool true), en w.params "matching_blocks" k5 .none, en w.params "opcodes" k6 .none, en w.params "fullbcount" k7 .none, en w.params "b2j" k8 (.ref bd), en w.params "bjunk" k9 (.ref bj), en w.params "bpopular" k10 bp] n := ⟨_, rfl⟩
  refine for_range (n := 6) (σ := Addr × Obj × St4 × Tok × Tok × Tok) (fun c => [(ln', listOf #[] 0), (c.1, c.2.1), (q', bmeth "set.__contains__" bj), (self, instObj 242 dd), (dd, oD), (bd, ob), (bj, os)])
    (fun c => [("j2len", .ref c.1), ("besti", .int c.2.2.1.2.1 c.2.2.2.1), ("bestj", .int c.2.2.1.2.2.1 c.2.2.2.2.1), ("bestsize", .int c.2.2.1.2.2.2 c.2.2.2.2.2)]) ["j2lenget", "newj2len", "j", "k"]
    (fun i c => c.2.2.1 = outGo row alo blo i ∧ (c.1 == sysModules) = false ∧ (ln' ≠ c.1 ∧ q' < c.1 ∧ self < c.1 ∧ dd < c.1 ∧ bd < c.1 ∧ bj < c.1) ∧ ∃ kvs, c.2.1.IsDictOf (PySem.intKind PySem.Challenge.rw_oy0507_01.row.prog w) kvs ∧ PyProof.V.FlatPairs PyData.int kvs (kdfD c.2.2.1.1) ∧ c.2.2.1.1.length ≤ 10)
    (fun c => c.2.2.1 = outGo row alo blo 6) (d', o', ([], alo, blo, 0), a1, a3, tk2) ?hh hR ?sm ?rs F2 ?N0 ?hk ?inv0 ?turn ?fin ?done
  case hh => exact rfl
  case sm => exact PySem.small_one (by omega) (by omega) (by omega) (by omega)
  case rs => unfold Builtin.Range.rangeSize; simp; omega
  case N0 =>
    subst hoD
    intro p hp
    apply N2
    simp only [List.mem_cons, List.not_mem_nil, or_false] at hp ⊢
    rcases hp with h | h | h | h | h | h | h <;> subst h <;> simp [en]
  case hk =>
    intro p hp
    simp only [List.mem_cons, List.not_mem_nil, or_false] at hp
    rcases hp with h | h | h | h <;> subst h <;> rfl
  case inv0 => exact ⟨rfl, lo', ⟨Nat.ne_of_gt l10.1, l11.2.2.1, l11.2.2.2.1, l11.2.2.2.2.1, l11.2.2.2.2.2.1, l11.2.2.2.2.2.2⟩, [], hi', fi', Nat.zero_le _⟩
  case fin => exact fun c h => h.1
  case turn => 
    intro I i t
    refine pr9 fun jd od cc bi bj1 bs tb1 tb2 tb3 u h tk oI hi hIv hoff F3 N3 => ?_
    refine opq fun Qt hQt => ?_
    obtain ⟨hrun, hlo, ⟨g1, g2, g3, g4, g5, g6⟩, kvs', hd', hf', hc'⟩ := hIv
    dsimp only at hrun hlo g1 g2 g3 g4 g5 g6 hd' hf' hc' F3
    dsimp only [List.cons_append, List.nil_append] at N3
    have g0 : IsDictObj od := IsDictOf.obj hd'
    clear F2 N2 hR
    k_steps
    rename_i q2 h19 Fx Nx l20 h21 d2 h22 o2 lo2 hs2 fs2 hi2 fi2 l21 h23 F4 N4 hit
    unfold Halt
    refine kdg_get2 (knd := PySem.strKind _ _) N4 (by k_mem) hob hbd (strKind_is _ _ _ _) _ rfl ?_
    obtain ⟨hrl, hrw⟩ := hrow i hi
    have hnn := N4 (ln', listOf #[] 0) (by simp only [List.mem_cons, true_or, or_true])
    have hz : ∃ z vs, (valueAt kvs (PySem.Txt.item x (alo + i * 1))).getD (.ref ln') = .ref z ∧ h23.IsList z vs ∧ z ≠ L' ∧ ((∃ o, g'.get? z = some o) ∨ z = ln') ∧ IntsAre vs.toList (row i) := by
      rcases hrw with ⟨hv, hr⟩ | ⟨z, vs, nn, hv, hz, z1, z2, z3, z4, hi⟩
      · refine ⟨ln', #[], by rw [hv]; rfl, ⟨_, hnn.1, rfl, _, rfl⟩, hnn.2.1, .inr rfl, ?_⟩
        rw [hr]; exact IntsAre.nil
      · have hg : g'.get? z = some (listOf vs nn) := by rw [hg']; exact hideAll_get _ hz (by simp [z1, z2, z3, z4])
        have hzz := F4.keep _ _ hg
        refine ⟨z, vs, by rw [hv]; rfl, ⟨_, hzz, rfl, _, rfl⟩, ?_, .inl ⟨_, hg⟩, hi⟩
        intro e
        have := F4.above
        exact absurd (Nat.lt_of_lt_of_le (Heap.lt_size hg) this) (by rw [e]; exact Nat.lt_irrefl _)
    obtain ⟨z, vs, hzv, hzl, hzL, hzs, hzi⟩ := hz
    rw [hzv]
    rename_i tkz1
    refine for_src (n := (row i).length) (σ := Obj × St4 × Tok × Tok × Tok) (fun c => [(d2, c.1), (q2, bmeth "dict.get" jd), (ln', listOf #[] 0), (jd, od), (q', bmeth "set.__contains__" bj), (self, instObj 242 dd), (dd, oD), (bd, ob), (bj, os), (I, oI)])
      (fun c => [("besti", .int c.2.1.2.1 c.2.2.1), ("bestj", .int c.2.1.2.2.1 c.2.2.2.1), ("bestsize", .int c.2.1.2.2.2 c.2.2.2.2)]) ["k"]
      (fun r c => inGo cc (alo + i * 1) blo (blo + 6) ((row i).drop r) c.2.1 = inGo cc (alo + i * 1) blo (blo + 6) (row i) ([], bi, bj1, bs) ∧ ∃ kvs, c.1.IsDictOf (PySem.intKind PySem.Challenge.rw_oy0507_01.row.prog w) kvs ∧ PyProof.V.FlatPairs PyData.int kvs (kdfD c.2.1.1) ∧ c.2.1.1.length ≤ r)
      (fun c => c.2.1 = inGo cc (alo + i * 1) blo (blo + 6) (row i) ([], bi, bj1, bs) ∧ ∃ kvs, c.1.IsDictOf (PySem.intKind PySem.Challenge.rw_oy0507_01.row.prog w) kvs ∧ PyProof.V.FlatPairs PyData.int kvs (kdfD c.2.1.1) ∧ c.2.1.1.length ≤ 10)
      (o2, ([], bi, bj1, bs), tb1, tb2, tb3) ?hh_flmIn hzl hzL ?src_flmIn ?sz_flmIn F4 ?N0_flmIn ?hk_flmIn ?inv0_flmIn ?turn_flmIn ?fin_flmIn ?done_flmIn
    case hh_flmIn => exact rfl
    case src_flmIn =>
      rcases hzs with h | h
      · exact .inl h
      · exact .inr ⟨listOf #[] 0, fun c => by rw [h]; simp only [List.mem_cons, true_or, or_true]⟩
    case sz_flmIn => rw [← hzi.length]; simp
    case N0_flmIn => exact N4
    case hk_flmIn =>
      intro p hp
      simp only [List.mem_cons, List.not_mem_nil, or_false] at hp
      rcases hp with h | h | h <;> subst h <;> rfl
    case inv0_flmIn => exact ⟨rfl, [], hi2, fi2, Nat.zero_le _⟩
    case fin_flmIn =>
      rintro c ⟨h1, kv, h2, h3, h4⟩
      rw [List.drop_length] at h1
      exact ⟨h1, kv, h2, h3, Nat.le_trans h4 hrl⟩
    case turn_flmIn =>
      intro I2 r v
      refine pr8 fun on cn ni nj ns tc1 tc2 tc3 u2 hx2 tk2' oI2 hr hv hIv hoff2 F5 N5 => ?_
      refine opq fun Qu hQu => ?_
      obtain ⟨hgo, kvn, hdn, hfn, hln⟩ := hIv
      obtain ⟨tj, hvj⟩ := hzi.get r (row i)[r] (by simp [hr])
      have hv' : v = .int (row i)[r] tj := by
        have : vs.toList[r]? = some v := by simpa using hv
        rw [hvj] at this; exact (Option.some.inj this).symm
      subst hv'
      dsimp only at hgo hdn hfn hln F5 N5
      dsimp only [List.cons_append, List.nil_append] at N5
      generalize hjv : (row i)[r] = jv' at *
      have hc10 : cn.length ≤ 10 := by omega
      have nI2 : @Ne Nat d2 I2 := hoff2 (d2, on) (by simp only [List.mem_cons, true_or, or_true])
      clear F4 N4
      k_steps
      · rw [List.drop_eq_getElem_cons hr, hjv, inGo, if_pos (by assumption)] at hgo
        refine hQu _ _ ?_
        exact TEnd.intro (on, (cn, ni, nj, ns), _, _, _) (by assumption) (by assumption) (by kst_in) (off_of hoff2 rfl) (by kst_all) (by kst_same) ⟨hgo, _, hdn, hfn, by dsimp only; omega⟩
      · rw [List.drop_eq_getElem_cons hr, hjv, inGo, if_neg (by assumption), if_pos (by assumption)] at hgo
        refine hQu _ _ ?_
        exact TEnd.intro (on, (cn, ni, nj, ns), _, _, _) (by assumption) (by assumption) (by kst_in) (off_of hoff2 rfl) (by kst_all) (by kst_same) ⟨hgo, _, hdn, hfn, by dsimp only; omega⟩
      · rename News _ _ _ _ => nE
        exact (nE (q2, bmeth "dict.get" jd) (by simp only [List.mem_cons, true_or, or_true])).1
      · rename_i tq h6 h5 o3 kvs3 hd3 hf3 tk3 hlt D3 h4 l3 h31 h32 h33 h34 F3 N3
        rw [List.drop_eq_getElem_cons hr, hjv, inGo, if_neg (by assumption), if_neg (by assumption), inStep, if_pos hlt] at hgo
        refine hQu _ _ ?_
        exact TEnd.intro (o3, (kdfPut cn jv' (kdfLook cc (jv' - 1) 0 + 1), (alo + i * 1) - (kdfLook cc (jv' - 1) 0 + 1) + 1, jv' - (kdfLook cc (jv' - 1) 0 + 1) + 1, kdfLook cc (jv' - 1) 0 + 1), _, _, _) F3 N3 (by kst_in) (off_of hoff2 rfl) (by kst_all) (by kst_same) ⟨hgo, _, hd3, hf3, Nat.le_trans (kdfPut_len _ _ _) (by omega)⟩
      · rename_i o3 kvs3 F9 N9 hd3 hf3 hnlt
        rw [List.drop_eq_getElem_cons hr, hjv, inGo, if_neg (by assumption), if_neg (by assumption), inStep, if_neg hnlt] at hgo
        refine hQu _ _ ?_
        exact TEnd.intro (o3, (kdfPut cn jv' (kdfLook cc (jv' - 1) 0 + 1), ni, nj, ns), _, _, _) F9 N9 (by kst_in) (off_of hoff2 rfl) (by kst_all) (by kst_same) ⟨hgo, _, hd3, hf3, Nat.le_trans (kdfPut_len _ _ _) (by omega)⟩
    case done_flmIn =>
      refine pr8 fun o6 c6n n6i n6j n6s tt1 tt2 tt3 u6 h6 tk6 hfin F6 N6 => ?_
      rename_i h6z2
      obtain ⟨he, kv6, hd6, hf6, hl6⟩ := hfin
      dsimp only at he hd6 hf6 hl6 F6 N6
      clear F4 N4
      show wpAny _ _ _ _ _ _
      k_steps
      rename_i F7 N7
      rw [Int.mul_one] at he
      refine hQt _ _ ?_
      exact TEnd.intro (d2, o6, (c6n, n6i, n6j, n6s), _, _, _) F7 N7 (by kst_in) (List.forall_mem_cons.mpr ⟨hoff (ln', _) (.head _), List.forall_mem_cons.mpr ⟨Nat.ne_of_gt l21.2.2.2.2.2.2.2.2, fun p hp => hoff p (List.mem_cons_of_mem _ (List.mem_cons_of_mem _ hp))⟩⟩) (by kst_all) (by kst_same)
        ⟨by rw [outGo, ← hrun]; exact he, lo2, ⟨Nat.ne_of_lt l21.2.1, l21.2.2.2.1, l21.2.2.2.2.1, l21.2.2.2.2.2.1, l21.2.2.2.2.2.2.1, l21.2.2.2.2.2.2.2.1⟩, kv6, hd6, hf6, hl6⟩
  case done =>
    refine pr9 fun jd od cc bi bj1 bs tb1 tb2 tb3 u8 h8 tk8 hfin8 F8 N8 => ?_
    rename_i h8z3
    dsimp only at hfin8
    rw [← hfin8] at hB
    obtain ⟨b1, b2, b3, b4, b5⟩ := hB
    dsimp only at b1 b2 b3 b4 b5 F8 N8
    clear F2 N2 hR
    show wpAny _ _ _ _ _ _
    k_steps
    unfold Halt
    refine while_st (σ := (Int × Int × Int) × Tok × Tok × Tok) (fun _ => [(ln', listOf #[] 0), (jd, od), (q', bmeth "set.__contains__" bj), (self, instObj 242 dd), (dd, oD), (bd, ob), (bj, os)])
      (fun c => [("besti", .int c.1.1 c.2.1), ("bestj", .int c.1.2.1 c.2.2.1), ("bestsize", .int c.1.2.2 c.2.2.2)]) []
      (fun c => Box4 alo blo c.1 ∧ wDown (fun i j => !S (PySem.Txt.item y j) && (PySem.Txt.item x i == PySem.Txt.item y j)) alo blo (c.1.1 - alo).toNat c.1 = wDown (fun i j => !S (PySem.Txt.item y j) && (PySem.Txt.item x i == PySem.Txt.item y j)) alo blo (bi - alo).toNat (bi, bj1, bs))
      (fun c => Box4 alo blo c.1 ∧ c.1 = wDown (fun i j => !S (PySem.Txt.item y j) && (PySem.Txt.item x i == PySem.Txt.item y j)) alo blo (bi - alo).toNat (bi, bj1, bs))
      (fun c => (c.1.1 - alo).toNat) ((bi, bj1, bs), tb1, tb2, tb3) F8 N8 ?hk_flmDone ⟨⟨b1, b2, b3, b4, b5⟩, rfl⟩ ?turn_flmDone ?done_flmDone
    case hk_flmDone => kst_all
    case turn_flmDone =>
      refine pr6 fun wi wj ws tw1 tw2 tw3 uw hw tkw hIw Fw Nw => ?_
      refine opqW fun Qw Qx hQw hQx => ?_
      obtain ⟨⟨d1, d2, d3, d4, d5⟩, hgo⟩ := hIw
      dsimp only at d1 d2 d3 d4 d5 hgo Fw Nw
      clear F8 N8
      k_steps
      all_goals first | (refine hQw _ _ ?_) | (refine hQx _ ?_) | skip
      all_goals first
        | (rename News _ _ _ _ => nE; exact (nE (q', bmeth "set.__contains__" bj) (by simp only [List.mem_cons, true_or, or_true])).1)
        | exact WEnd.intro ((wi, wj, ws), _, _, _) (by assumption) (by assumption) (by kst_in) (by kst_all) (by intro z h2 h3; (simp only [List.forall_mem_cons, List.not_mem_nil, false_implies, implies_true, and_true, ne_eq] at h2); (simp [kstB, h2]; done)) ⟨⟨d1, d2, d3, d4, d5⟩, (wDown_stop (by rintro ⟨e1, e2, e3⟩; first | omega | exact and_no1 (by assumption) e3 | exact and_no2 (by assumption) e3 | exact and_no3 (by assumption) e3) _).symm.trans hgo⟩
        | exact WEnd.intro ((wi - 1, wj - 1, ws + 1), _, _, _) (by assumption) (by assumption) (by kst_in) (by kst_all) (by intro z h2 h3; (simp only [List.forall_mem_cons, List.not_mem_nil, false_implies, implies_true, and_true, ne_eq] at h2); (simp [kstB, h2]; done)) ⟨⟨(by refine ⟨?_, ?_, ?_, ?_, ?_⟩ <;> dsimp only <;> omega), ((wDown_go (by assumption) (by assumption) (by first | exact and_yes1 (by assumption) (by assumption) | exact and_yes2 (by assumption) (by assumption))).symm).trans hgo⟩, by dsimp only; omega⟩
    case done_flmDone =>
      refine pr6 fun iz1 jz1 sz1 taz1 tbz1 tcz1 uz1 hz1 tkz1 hBz1 Fz1 Nz1 => ?_
      have Bz1 := hBz1.1
      have Ez1 := hBz1.2
      clear hBz1
      dsimp only at Bz1 Ez1 Fz1 Nz1
      clear F8 N8
      show wpAny _ _ _ _ _ _
      k_steps
      unfold Halt
      refine while_st (σ := (Int × Int × Int) × Tok × Tok × Tok) (fun _ => [(ln', listOf #[] 0), (jd, od), (q', bmeth "set.__contains__" bj), (self, instObj 242 dd), (dd, oD), (bd, ob), (bj, os)])
        (fun c => [("besti", .int c.1.1 c.2.1), ("bestj", .int c.1.2.1 c.2.2.1), ("bestsize", .int c.1.2.2 c.2.2.2)]) []
        (fun c => Box4 alo blo c.1 ∧ wUp (fun i j => !S (PySem.Txt.item y j) && (PySem.Txt.item x i == PySem.Txt.item y j)) (alo + 6) (blo + 6) (alo + 6 - (c.1.1 + c.1.2.2)).toNat c.1 = wUp (fun i j => !S (PySem.Txt.item y j) && (PySem.Txt.item x i == PySem.Txt.item y j)) (alo + 6) (blo + 6) (alo + 6 - (iz1 + sz1)).toNat (iz1, jz1, sz1))
        (fun c => Box4 alo blo c.1 ∧ c.1 = wUp (fun i j => !S (PySem.Txt.item y j) && (PySem.Txt.item x i == PySem.Txt.item y j)) (alo + 6) (blo + 6) (alo + 6 - (iz1 + sz1)).toNat (iz1, jz1, sz1))
        (fun c => (alo + 6 - (c.1.1 + c.1.2.2)).toNat) ((iz1, jz1, sz1), taz1, tbz1, tcz1) Fz1 Nz1 ?hk_flmWz1 ⟨Bz1, rfl⟩ ?turn_flmWz1 ?done_flmWz1
      case hk_flmWz1 => kst_all
      case turn_flmWz1 =>
        refine pr6 fun wi wj ws tw1 tw2 tw3 uw hw tkw hIw Fw Nw => ?_
        refine opqW fun Qw Qx hQw hQx => ?_
        obtain ⟨⟨d1, d2, d3, d4, d5⟩, hgo⟩ := hIw
        dsimp only at d1 d2 d3 d4 d5 hgo Fw Nw
        clear Fz1 Nz1
        k_steps
        all_goals first | (refine hQw _ _ ?_) | (refine hQx _ ?_) | skip
        all_goals first
          | (rename News _ _ _ _ => nE; exact (nE (q', bmeth "set.__contains__" bj) (by simp only [List.mem_cons, true_or, or_true])).1)
          | exact WEnd.intro ((wi, wj, ws), _, _, _) (by assumption) (by assumption) (by kst_in) (by kst_all) (by intro z h2 h3; (simp only [List.forall_mem_cons, List.not_mem_nil, false_implies, implies_true, and_true, ne_eq] at h2); (simp [kstB, h2]; done)) ⟨⟨d1, d2, d3, d4, d5⟩, (wUp_stop (by rintro ⟨e1, e2, e3⟩; first | omega | exact and_no1 (by assumption) e3 | exact and_no2 (by assumption) e3 | exact and_no3 (by assumption) e3) _).symm.trans hgo⟩
          | exact WEnd.intro ((wi, wj, ws + 1), _, _, _) (by assumption) (by assumption) (by kst_in) (by kst_all) (by intro z h2 h3; (simp only [List.forall_mem_cons, List.not_mem_nil, false_implies, implies_true, and_true, ne_eq] at h2); (simp [kstB, h2]; done)) ⟨⟨(by refine ⟨?_, ?_, ?_, ?_, ?_⟩ <;> dsimp only <;> omega), ((wUp_go (by assumption) (by assumption) (by first | exact and_yes1 (by assumption) (by assumption) | exact and_yes2 (by assumption) (by assumption))).symm).trans hgo⟩, by dsimp only; omega⟩
      case done_flmWz1 =>
        refine pr6 fun iz2 jz2 sz2 taz2 tbz2 tcz2 uz2 hz2 tkz2 hBz2 Fz2 Nz2 => ?_
        have Bz2 := hBz2.1
        have Ez2 := hBz2.2
        clear hBz2
        dsimp only at Bz2 Ez2 Fz2 Nz2
        clear Fz1 Nz1
        show wpAny _ _ _ _ _ _
        k_steps
        unfold Halt
        refine while_st (σ := (Int × Int × Int) × Tok × Tok × Tok) (fun _ => [(ln', listOf #[] 0), (jd, od), (q', bmeth "set.__contains__" bj), (self, instObj 242 dd), (dd, oD), (bd, ob), (bj, os)])
          (fun c => [("besti", .int c.1.1 c.2.1), ("bestj", .int c.1.2.1 c.2.2.1), ("bestsize", .int c.1.2.2 c.2.2.2)]) []
          (fun c => Box4 alo blo c.1 ∧ wDown (fun i j => S (PySem.Txt.item y j) && (PySem.Txt.item x i == PySem.Txt.item y j)) alo blo (c.1.1 - alo).toNat c.1 = wDown (fun i j => S (PySem.Txt.item y j) && (PySem.Txt.item x i == PySem.Txt.item y j)) alo blo (iz2 - alo).toNat (iz2, jz2, sz2))
          (fun c => Box4 alo blo c.1 ∧ c.1 = wDown (fun i j => S (PySem.Txt.item y j) && (PySem.Txt.item x i == PySem.Txt.item y j)) alo blo (iz2 - alo).toNat (iz2, jz2, sz2))
          (fun c => (c.1.1 - alo).toNat) ((iz2, jz2, sz2), taz2, tbz2, tcz2) Fz2 Nz2 ?hk_flmWz2 ⟨Bz2, rfl⟩ ?turn_flmWz2 ?done_flmWz2
        case hk_flmWz2 => kst_all
        case turn_flmWz2 =>
          refine pr6 fun wi wj ws tw1 tw2 tw3 uw hw tkw hIw Fw Nw => ?_
          refine opqW fun Qw Qx hQw hQx => ?_
          obtain ⟨⟨d1, d2, d3, d4, d5⟩, hgo⟩ := hIw
          dsimp only at d1 d2 d3 d4 d5 hgo Fw Nw
          clear Fz2 Nz2
          k_steps
          all_goals first | (refine hQw _ _ ?_) | (refine hQx _ ?_) | skip
          all_goals first
            | (rename News _ _ _ _ => nE; exact (nE (q', bmeth "set.__contains__" bj) (by simp only [List.mem_cons, true_or, or_true])).1)
            | exact WEnd.intro ((wi, wj, ws), _, _, _) (by assumption) (by assumption) (by kst_in) (by kst_all) (by intro z h2 h3; (simp only [List.forall_mem_cons, List.not_mem_nil, false_implies, implies_true, and_true, ne_eq] at h2); (simp [kstB, h2]; done)) ⟨⟨d1, d2, d3, d4, d5⟩, (wDown_stop (by rintro ⟨e1, e2, e3⟩; first | omega | exact and_no1 (by assumption) e3 | exact and_no2 (by assumption) e3 | exact and_no3 (by assumption) e3) _).symm.trans hgo⟩
            | exact WEnd.intro ((wi - 1, wj - 1, ws + 1), _, _, _) (by assumption) (by assumption) (by kst_in) (by kst_all) (by intro z h2 h3; (simp only [List.forall_mem_cons, List.not_mem_nil, false_implies, implies_true, and_true, ne_eq] at h2); (simp [kstB, h2]; done)) ⟨⟨(by refine ⟨?_, ?_, ?_, ?_, ?_⟩ <;> dsimp only <;> omega), ((wDown_go (by assumption) (by assumption) (by first | exact and_yes1 (by assumption) (by assumption) | exact and_yes2 (by assumption) (by assumption))).symm).trans hgo⟩, by dsimp only; omega⟩
        case done_flmWz2 =>
          refine pr6 fun iz3 jz3 sz3 taz3 tbz3 tcz3 uz3 hz3 tkz3 hBz3 Fz3 Nz3 => ?_
          have Bz3 := hBz3.1
          have Ez3 := hBz3.2
          clear hBz3
          dsimp only at Bz3 Ez3 Fz3 Nz3
          clear Fz2 Nz2
          show wpAny _ _ _ _ _ _
          k_steps
          unfold Halt
          refine while_st (σ := (Int × Int × Int) × Tok × Tok × Tok) (fun _ => [(ln', listOf #[] 0), (jd, od), (q', bmeth "set.__contains__" bj), (self, instObj 242 dd), (dd, oD), (bd, ob), (bj, os)])
            (fun c => [("besti", .int c.1.1 c.2.1), ("bestj", .int c.1.2.1 c.2.2.1), ("bestsize", .int c.1.2.2 c.2.2.2)]) []
            (fun c => Box4 alo blo c.1 ∧ wUp (fun i j => S (PySem.Txt.item y j) && (PySem.Txt.item x i == PySem.Txt.item y j)) (alo + 6) (blo + 6) (alo + 6 - (c.1.1 + c.1.2.2)).toNat c.1 = wUp (fun i j => S (PySem.Txt.item y j) && (PySem.Txt.item x i == PySem.Txt.item y j)) (alo + 6) (blo + 6) (alo + 6 - (iz3 + sz3)).toNat (iz3, jz3, sz3))
            (fun c => Box4 alo blo c.1 ∧ c.1 = wUp (fun i j => S (PySem.Txt.item y j) && (PySem.Txt.item x i == PySem.Txt.item y j)) (alo + 6) (blo + 6) (alo + 6 - (iz3 + sz3)).toNat (iz3, jz3, sz3))
            (fun c => (alo + 6 - (c.1.1 + c.1.2.2)).toNat) ((iz3, jz3, sz3), taz3, tbz3, tcz3) Fz3 Nz3 ?hk_flmWz3 ⟨Bz3, rfl⟩ ?turn_flmWz3 ?done_flmWz3
          case hk_flmWz3 => kst_all
          case turn_flmWz3 =>
            refine pr6 fun wi wj ws tw1 tw2 tw3 uw hw tkw hIw Fw Nw => ?_
            refine opqW fun Qw Qx hQw hQx => ?_
            obtain ⟨⟨d1, d2, d3, d4, d5⟩, hgo⟩ := hIw
            dsimp only at d1 d2 d3 d4 d5 hgo Fw Nw
            clear Fz3 Nz3
            k_steps
            all_goals first | (refine hQw _ _ ?_) | (refine hQx _ ?_) | skip
            all_goals first
              | (rename News _ _ _ _ => nE; exact (nE (q', bmeth "set.__contains__" bj) (by simp only [List.mem_cons, true_or, or_true])).1)
              | exact WEnd.intro ((wi, wj, ws), _, _, _) (by assumption) (by assumption) (by kst_in) (by kst_all) (by intro z h2 h3; (simp only [List.forall_mem_cons, List.not_mem_nil, false_implies, implies_true, and_true, ne_eq] at h2); (simp [kstB, h2]; done)) ⟨⟨d1, d2, d3, d4, d5⟩, (wUp_stop (by rintro ⟨e1, e2, e3⟩; first | omega | exact and_no1 (by assumption) e3 | exact and_no2 (by assumption) e3 | exact and_no3 (by assumption) e3) _).symm.trans hgo⟩
              | exact WEnd.intro ((wi, wj, ws + 1), _, _, _) (by assumption) (by assumption) (by kst_in) (by kst_all) (by intro z h2 h3; (simp only [List.forall_mem_cons, List.not_mem_nil, false_implies, implies_true, and_true, ne_eq] at h2); (simp [kstB, h2]; done)) ⟨⟨(by refine ⟨?_, ?_, ?_, ?_, ?_⟩ <;> dsimp only <;> omega), ((wUp_go (by assumption) (by assumption) (by first | exact and_yes1 (by assumption) (by assumption) | exact and_yes2 (by assumption) (by assumption))).symm).trans hgo⟩, by dsimp only; omega⟩
          case done_flmWz3 =>
            refine pr6 fun iz4 jz4 sz4 taz4 tbz4 tcz4 uz4 hz4 tkz4 hBz4 Fz4 Nz4 => ?_
            have Bz4 := hBz4.1
            have Ez4 := hBz4.2
            clear hBz4
            dsimp only at Bz4 Ez4 Fz4 Nz4
            clear Fz3 Nz3
            show wpAny _ _ _ _ _ _
            k_steps
            refine any_le (A := AA 3 (_ :: fr)) (match_c w p loose mean mg mb _ base _ iz4 jz4 sz4 taz4 tbz4 tcz4 _ _ (Cx.of B' Fz4 Nz4 X' T' (fun _ h => nomatch h) rfl rfl) ?ret_flmWz4) rfl ?depth_flmWz4 rfl rfl ?units_flmWz4
            case depth_flmWz4 => (try simp only [depth_under_make, depth_under_kw, depth_in1, depth_deeper, depth_caller]); decide
            case units_flmWz4 => first | k_units | exact Nat.le_of_ble_eq_true rfl
            case ret_flmWz4 =>
              intro z dx hm tkm hk hx hxo hdo
              subst hoD
              have hk0 : Kept s.heap hz4 := by
                intro b o e
                by_cases hb : b ∈ List.map (·.1) [(self, instObj 242 dd), (dd, dictOf [en w.params "isjunk" k1 jv, en w.params "a" k2 (.str x t1), en w.params "b" k3 (.str y t2), en w.params "autojunk" k4 (.bool true), en w.params "matching_blocks" k5 .none, en w.params "opcodes" k6 .none, en w.params "fullbcount" k7 .none, en w.params "b2j" k8 (.ref bd), en w.params "bjunk" k9 (.ref bj), en w.params "bpopular" k10 bp] n), (bd, ob), (bj, os)]
                · obtain ⟨q, hq, rfl⟩ := List.mem_map.mp hb
                  have h1 := N q hq
                  rw [e] at h1
                  have h2 := (Nz4 q (List.mem_cons_of_mem _ (List.mem_cons_of_mem _ (List.mem_cons_of_mem _ hq)))).1
                  rw [h2]; exact h1.symm
                · exact Fz4.keep b o (by rw [hg']; exact hideAll_get _ e hb)
              refine ret z dx hm tkm iz4 jz4 sz4 taz4 tbz4 tcz4 (fun b o e => hk b o (hk0 b o e)) ?_ hxo hdo (flmOut_of hfin8 Ez1 Ez2 Ez3 Ez4)
              cases e : s.heap.get? z with
              | none => rfl
              | some o => exact absurd ((hk0 _ _ e).symm.trans hx) (by simp)
end Mine
end
section
open PySem PySem.W PySem.Calls PyProof.Rows
set_option maxRecDepth 100000
namespace Mine
section
variable {prog : Program} {w : World} {A : Around} {E : Value → Shared → Prop} {s : Shared} {env : Env} {h₀ : Heap} {xi xc : Str} {body orelse : List Stmt} {Q : Flow → Shared → Prop}
theorem letgo_ti {I t i : Nat} {T : Addr} {elts : List Expr} {k : Nat} {pos : Pos} {R : Unit → Shared → Prop} (hI : s.heap.IsTupleIter I t i) (h : R () s) : wpAny (model prog w) A (letOwnedTupleGo (.Tuple elts k pos) (.ref I) (.ref T)) R E s := by
  obtain ⟨⟨c, d, dt, sl⟩, ho, hc, hd⟩ := hI
  simp only at hc hd
  subst hc hd
  unfold letOwnedTupleGo
  dsimp only
  refine wpAny_bind (wpAny_load ho ?_)
  dsimp only
  rw [if_neg (by
    rw [show ["enumerate", "zip", "dict_itemiterator", "dict_reverseitemiterator", "odict_iterator", "itertools.zip_longest", "itertools.pairwise"].contains "tuple_iterator" = false from by decide]
    simp)]
  exact wpAny_pure h
/-- a turn that goes on -/
noncomputable def ENext (h₀ : Heap) (L : Addr) (xi xc : Str) (m₀ : Str → Option Value) (led : List (Addr × Obj)) (P : Prop) (s₁ s₂ : Shared) : Prop :=
  (∃ h' tk' m', s₂ = { s₁ with heap := h', toks := tk' } ∧ Fr h₀ L h' m' ∧ News h₀ L h' led ∧ ∀ z, z ≠ xi → z ≠ xc → m' z = m₀ z) ∧ P
theorem ENext.intro {L : Addr} {m₀ m' : Str → Option Value} {led : List (Addr × Obj)} {P : Prop} {s₁ : Shared} {h' : Heap} {tk' : Nat} (F : Fr h₀ L h' m') (N : News h₀ L h' led) (hr : ∀ z, z ≠ xi → z ≠ xc → m' z = m₀ z) (hP : P) :
    ENext h₀ L xi xc m₀ led P s₁ { s₁ with heap := h', toks := tk' } := ⟨⟨h', tk', m', rfl, F, N, hr⟩, hP⟩
/-- a for over a tuple of pairs, with break and else -/
theorem tuple_else {pk pv pt : Pos} {x1 : Nat} {l : Addr} {items : Array Value} {m₀ : Str → Option Value} {news : List (Addr × Obj)} {P2 : Nat → Value → Value → Prop} (C : Nat → Prop)
    (hh : A.handled = none) (hxi : env.kindOf xi = some .local) (hxc : env.kindOf xc = some .local)
    (hp : (env.scope.kind == .class || (env.scope.kind == .module && env.locals != env.globals)) = false)
    (hT : h₀.IsTuple l items) (hpairs : ∀ i v, items[i]? = some v → ∃ T v0 v1, v = .ref T ∧ h₀.IsTuple T #[v0, v1] ∧ P2 i v0 v1)
    (F : Fr h₀ env.locals s.heap m₀) (N : News h₀ env.locals s.heap news) (hC : C 0)
    (turn : ∀ I i v0 v1 h tk oI, i < items.size → P2 i v0 v1 → C i → (∀ p ∈ news, p.1 ≠ I) →
      Fr h₀ env.locals h (fun y => if y = xc then some v1 else if y = xi then some v0 else m₀ y) → News h₀ env.locals h (news ++ [(I, oI)]) →
      wpAny (model prog w) A (execs body env) (fun f s₂ => match f with
        | .next => ENext h₀ env.locals xi xc m₀ (news ++ [(I, oI)]) (C (i + 1)) { s with heap := h, toks := tk } s₂
        | .brk => Q .next s₂
        | _ => False) E { s with heap := h, toks := tk })
    (els : ∀ (u : Str → Option Value) h tk, C items.size → Fr h₀ env.locals h (fun y => if y = xc then u y else if y = xi then u y else m₀ y) → News h₀ env.locals h news → wpAny (model prog w) A (execs orelse env) Q E { s with heap := h, toks := tk })
    (hE : PassesOwn (model prog w) A env E := by passes_own) :
    wpAny (model prog w) A (pyIter (.ref l)) (fun it s₂ => codeAny (model prog w) A (.forLoop (.Tuple [.Name xi pk, .Name xc pv] x1 pt) it body orelse env) (fun r s' => match r with | .ok f => Q f s' | .error e => cameBackBy (model prog w) A env E e s') s₂) E s := by
  have hLs : env.locals < s.heap.objs.size := F.ns.lt
  have hab : h₀.objs.size ≤ env.locals := F.above
  have hl0 : l < h₀.objs.size := by obtain ⟨o, ho, _⟩ := id hT; exact Heap.lt_size ho
  have hTs : s.heap.IsTuple l items := hT.at fun o e => F.keep l o e
  have hls : l < s.heap.objs.size := Nat.lt_of_lt_of_le hl0 (Nat.le_trans hab (Nat.le_of_lt hLs))
  refine wpAny_pyIter_tuple hTs ?_
  have W := Walks.tuple (prog := prog) (w := w) (A := A) hh s.heap.objs.size l (Nat.ne_of_lt hls) items
  generalize hIe : s.heap.objs.size = I at *
  have hIn : h₀.get? I = none := Heap.get?_none_of_le (Nat.le_trans hab (Nat.le_of_lt hLs))
  have hnI : ∀ p ∈ news, p.1 ≠ I := fun p hp e => absurd (Heap.lt_size (N p hp).1) (by rw [hIe]; exact e ▸ Nat.lt_irrefl _)
  have hLI : env.locals ≠ I := Nat.ne_of_lt hLs
  have kp : ∀ {h h' : Heap} {m : Str → Option Value}, (∀ b o, b ∉ [I] → h.get? b = some o → h'.get? b = some o) → Fr h₀ env.locals h m → Fr h₀ env.locals h' m := fun k F' =>
    ⟨F'.ns.at' fun o e => k _ o (by simpa using hLI) e, fun b o e => k b o (fun hb => by rw [List.mem_singleton.mp hb, hIn] at e; cases e) (F'.keep b o e), F'.above⟩
  have kn : ∀ {h h' : Heap}, (∀ b o, b ∉ [I] → h.get? b = some o → h'.get? b = some o) → News h₀ env.locals h news → News h₀ env.locals h' news := fun k N' p hp => ⟨k _ _ (by simpa using hnI p hp) (N' p hp).1, (N' p hp).2⟩
  refine codeAny_forLoop_any
    (fun k s' => ∃ h' tk m' i, s' = { s with heap := h', toks := tk } ∧ (h'.IsTupleIter I l i ∧ h'.IsTuple l items) ∧ Fr h₀ env.locals h' m' ∧ News h₀ env.locals h' news ∧ (∀ z, z ≠ xi → z ≠ xc → m' z = m₀ z) ∧ C i ∧ i ≤ items.size ∧ k = items.size + 1 - i) ?_ (items.size + 1)
    ⟨_, s.toks, m₀, 0, rfl, ⟨⟨_, by rw [← hIe]; exact Heap.get?_push_size _ rfl, rfl, rfl⟩, hTs.at fun o e => Heap.get?_push_of_some _ e⟩, F.push _, (fun p hp => ⟨Heap.get?_push_of_some _ (N p hp).1, (N p hp).2⟩), fun _ _ _ => rfl, hC, Nat.zero_le _, rfl⟩
  rintro k s' ⟨H, tk, m', i, rfl, hst', F', N', hr', hv, hi, rfl⟩
  by_cases hlt : i < items.size
  · refine W.item i _ _ _ hlt hst' fun v h₁ tk₁ hPt hst₁ hk₁ => ?_
    obtain ⟨T, v0, v1, rfl, hTT, hP2⟩ := hpairs i v hPt
    refine letgo_ti hst₁.1 ?_
    have F₁ := kp hk₁ F'
    have N₁ := kn hk₁ N'
    have ht₂ : h₁.IsTuple T #[v0, v1] := hTT.at fun o e => F₁.keep T o e
    refine wpAny_assign_Tuple hh ht₂ rfl rfl fun h₃ hx₃ => ?_
    replace hx₃ : Heap.ExtBut h₁.objs.size h₁ h₃ := hx₃
    have up₃ : ∀ b o, h₁.get? b = some o → h₃.get? b = some o := fun b o x => hx₃ b o (Nat.ne_of_lt (Heap.lt_size x)) x
    have F₃ := kp (fun b o _ e => up₃ b o e) F₁
    have N₃ := kn (fun b o _ e => up₃ b o e) N₁
    show wpAny _ A (do holding [v1] (assign (.Name xi pk) env v0); do holding [] (assign (.Name xc pv) env v1); pure ()) _ _ _
    refine wpAny_bind (wpAny_holding (wpAny_assign_Name (wpAny_storeName_local hxi F₃.ns (fun h₄ hn₄ hs₄ => ?_) hp)))
    replace hs₄ : Heap.SameBut env.locals h₃ h₄ := hs₄
    have F₄ := F₃.set hn₄ hs₄
    refine wpAny_bind (wpAny_holding (wpAny_assign_Name (wpAny_storeName_local hxc F₄.ns (fun h₅ hn₅ hs₅ => wpAny_pure ?_) hp)))
    replace hs₅ : Heap.SameBut env.locals h₄ h₅ := hs₅
    have F₅ := F₄.set hn₅ hs₅
    have N₅ : News h₀ env.locals h₅ news := (N₃.set hs₄).set hs₅
    have up₅ : ∀ b o, b ≠ env.locals → h₁.get? b = some o → h₅.get? b = some o := fun b o hb e => hs₅.extBut b o hb (hs₄.extBut b o hb (up₃ b o e))
    have it₅ : h₅.IsTupleIter I l (i + 1) := tupleIter_at hst₁.1 fun o e => up₅ I o (Ne.symm hLI) e
    obtain ⟨oI, hoI, hoc⟩ := id it₅
    have N₆ : News h₀ env.locals h₅ (news ++ [(I, oI)]) := by
      intro p hp
      rcases List.mem_append.mp hp with h | h
      · exact N₅ p h
      · rw [List.mem_singleton.mp h]; exact ⟨hoI, Ne.symm hLI, hIn⟩
    have eF : (fun y => if y = xc then some v1 else if y = xi then some v0 else m' y) = fun y => if y = xc then some v1 else if y = xi then some v0 else m₀ y := by
      funext y
      by_cases hc : y = xc
      · rw [if_pos hc, if_pos hc]
      · rw [if_neg hc, if_neg hc]
        by_cases hx : y = xi
        · rw [if_pos hx, if_pos hx]
        · rw [if_neg hx, if_neg hx]; exact hr' y hx hc
    have F₆ : Fr h₀ env.locals h₅ (fun y => if y = xc then some v1 else if y = xi then some v0 else m₀ y) := by rw [← eF]; exact F₅
    refine wpAny_mono (wpAny_passesOwn hE (turn I i v0 v1 h₅ _ oI hlt hP2 hv hnI F₆ N₆)) (fun f s₃ h₆ => ?_) fun _ _ e => e
    cases f with
    | ret v => exact h₆.elim
    | cont => exact h₆.elim
    | brk => exact h₆
    | next =>
      obtain ⟨⟨h₆', tk₆, m₂, rfl, F₇, N₇, hr₇⟩, hv₇⟩ := h₆
      exact ⟨items.size + 1 - (i + 1), by omega, h₆', tk₆, m₂, i + 1, rfl, ⟨tupleIter_at it₅ fun o e => by
        have e2 := (N₇ (I, oI) (List.mem_append_right _ (.head _))).1
        rw [hoI] at e
        rw [← Option.some.inj e]; exact e2, hT.at fun o e => F₇.keep l o e⟩, F₇, (fun p hp => N₇ p (List.mem_append_left _ hp)), hr₇, hv₇, hlt, rfl⟩
  · have hin : i = items.size := by omega
    subst hin
    refine W.done _ _ _ hst' fun h₁ tk₁ hk₁ => ?_
    have F₁ := kp hk₁ F'
    have N₁ := kn hk₁ N'
    refine wpAny_mono (wpAny_passesOwn hE (els m' h₁ tk₁ hv ?_ N₁)) (fun f s₃ h₆ => h₆) fun _ _ e => e
    have eF : (fun y => if y = xc then m' y else if y = xi then m' y else m₀ y) = m' := by
      funext y
      by_cases hc : y = xc
      · rw [if_pos hc]
      · rw [if_neg hc]
        by_cases hx : y = xi
        · rw [if_pos hx]
        · rw [if_neg hx]; exact (hr' y hx hc).symm
    rw [eF]; exact F₁
end
end Mine
end
section
open PySem PySem.W PySem.Calls PyProof.Rows
set_option maxRecDepth 100000
namespace Mine
theorem news_swap {h₀ h : Heap} {L : Addr} {p q : Addr × Obj} {r : List (Addr × Obj)} (N : News h₀ L h (p :: q :: r)) : News h₀ L h (q :: p :: r) := fun x hx => by
  rcases List.mem_cons.mp hx with e | e
  · exact N x (e ▸ .tail _ (.head _))
  · rcases List.mem_cons.mp e with e | e
    · exact N x (e ▸ .head _)
    · exact N x (.tail _ (.tail _ e))
theorem allLt_mem {d : Nat} {l : List (Addr × Obj)} (h : AllLt d l) : ∀ p ∈ l, @LT.lt Nat _ p.1 d := by
  induction l with
  | nil => intro p hp; cases hp
  | cons q l ih =>
    intro p hp
    rcases List.mem_cons.mp hp with e | e
    · rw [e]; exact h.1
    · exact ih h.2 p e
theorem led_new {a b c d : Addr × Obj} {l own : List (Addr × Obj)} : ∀ p ∈ (a :: b :: c :: (l ++ [d])) ++ own, p ∈ a :: d :: b :: c :: (l ++ own) := by
  intro p hp
  simp only [List.cons_append, List.mem_cons, List.mem_append, List.append_assoc, List.not_mem_nil, false_or] at hp ⊢
  rcases hp with h | h | h | h | h | h
  · exact .inl h
  · exact .inr (.inr (.inl h))
  · exact .inr (.inr (.inr (.inl h)))
  · exact .inr (.inr (.inr (.inr (.inl h))))
  · exact .inr (.inl h)
  · exact .inr (.inr (.inr (.inr (.inr h))))
theorem led_perm {a b c d p : Addr × Obj} {l : List (Addr × Obj)} (hp : p ∈ a :: b :: c :: (l ++ [d])) : p ∈ ([a, b, c] ++ l) ++ [d] := by
  simpa only [List.cons_append, List.nil_append] using hp
/-- an object of the ledger turned -/
noncomputable def chg (a : Addr) (o : Obj) (p : Addr × Obj) : Addr × Obj := if p.1 = a then (a, o) else p
theorem chg_fst (a : Addr) (o : Obj) (p : Addr × Obj) : (chg a o p).1 = p.1 := by
  unfold chg
  split
  · rename_i h; exact h.symm
  · rfl
theorem chg_off {a : Addr} {o : Obj} {l : List (Addr × Obj)} (h : ∀ p ∈ l, p.1 ≠ a) : l.map (chg a o) = l := by
  induction l with
  | nil => rfl
  | cons p l ih =>
    rw [List.map_cons, ih (fun q hq => h q (.tail _ hq))]
    unfold chg
    rw [if_neg (h p (.head _))]
theorem chg_map_fst (a : Addr) (o : Obj) (l : List (Addr × Obj)) : (l.map (chg a o)).map (·.1) = l.map (·.1) := by
  rw [List.map_map]
  exact List.map_congr_left fun p _ => chg_fst a o p
theorem chg_ne {a : Addr} {o : Obj} {p : Addr × Obj} (h : p.1 ≠ a) : chg a o p = p := if_neg h
theorem led_chg {a : Addr} {o : Obj} {q b c d : Addr × Obj} {l own : List (Addr × Obj)} (hb : b.1 ≠ a) (hc : c.1 ≠ a) (hd : d.1 ≠ a) (ho : ∀ p ∈ own, p.1 ≠ a) : ∀ p ∈ (b :: c :: d :: l.map (chg a o)) ++ own, p ∈ (q :: b :: c :: d :: (l ++ own)).map (chg a o) := by
  intro p hp
  rw [List.map_cons, List.map_cons, List.map_cons, List.map_cons, List.map_append, chg_ne hb, chg_ne hc, chg_ne hd, chg_off ho]
  exact .tail _ hp
section
variable {prog : Program} {w : World} {A : Around} {E : Value → Shared → Prop} {s : Shared} {h₀ : Heap} {L : Addr} {m : Str → Option Value} {news : List (Addr × Obj)}
theorem r_append_in {D : Addr} {its : Array Value} {n : Nat} {x : Value} {Q : Value → Shared → Prop} (F : Fr h₀ L s.heap m) (N : News h₀ L s.heap news) (hm : (D, listOf its n) ∈ news) (hsz : its.size ≤ sizeLine)
    (h : ∀ h', Fr h₀ L h' m → News h₀ L h' (news.map (chg D (listOf (its.push x) (n + 1)))) → Q .none { s with heap := h' }) : wpAny (model prog w) A (call (.builtin "list.append") [.ref D, x]) Q E s := by
  have z := N _ hm
  refine append_at (hsz := hsz) z.1 fun h' hs ho' => h h' (F.change hs z.2.1 z.2.2) fun p hp => ?_
  obtain ⟨q, hq, rfl⟩ := List.mem_map.mp hp
  unfold chg
  split
  · exact ⟨ho', z.2⟩
  · rename_i hne
    exact ⟨(hs.2 q.1 hne).trans (N q hq).1, (N q hq).2⟩
end
/-- an index under a sign, one more -/
noncomputable def wAdd (W : List (Str × List Int)) (k : Str) (i : Int) : List (Str × List Int) := match wLook W k with
  | some _ => W.map fun p => if p.1 = k then (p.1, p.2 ++ [i]) else p
  | none => W ++ [(k, [i])]
noncomputable def sgn (x : Str) (i : Nat) : Str := ⟨#[x.cps.getD i 0]⟩
/-- the signs' indices -/
noncomputable def wOf (y : Str) : Nat → List (Str × List Int)
  | 0 => []
  | n + 1 => wAdd (wOf y n) (sgn y n) n
theorem map_off {k : Str} {i : Int} : ∀ {W : List (Str × List Int)}, (∀ p ∈ W, p.1 ≠ k) → (W.map fun p => if p.1 = k then (p.1, p.2 ++ [i]) else p) = W
  | [], _ => rfl
  | p :: l, hn => by rw [List.map_cons, map_off (fun q hq => hn q (.tail _ hq)), if_neg (hn p (.head _))]
/-- the indices in all -/
noncomputable def wTot (W : List (Str × List Int)) : Nat := (W.map fun p => p.2.length).sum
theorem wLook_len {W : List (Str × List Int)} {k : Str} {js : List Int} (h : wLook W k = some js) : js.length ≤ wTot W := by
  unfold wTot
  induction W with
  | nil => cases h
  | cons p W ih =>
    rw [List.map_cons, List.sum_cons]
    by_cases e : p.1 = k
    · have : wLook (p :: W) k = some p.2 := by simp [wLook, e]
      rw [this] at h
      rw [← Option.some.inj h]; exact Nat.le_add_right _ _
    · have : wLook (p :: W) k = wLook W k := by simp [wLook, e]
      rw [this] at h
      exact Nat.le_trans (ih h) (Nat.le_add_left _ _)
theorem wMap_tot {W : List (Str × List Int)} {k : Str} {i : Int} (h : (W.map (·.1)).Nodup) : wTot (W.map fun p => if p.1 = k then (p.1, p.2 ++ [i]) else p) ≤ wTot W + 1 := by
  unfold wTot
  induction W with
  | nil => exact Nat.zero_le _
  | cons p W ih =>
    rw [List.map_cons, List.nodup_cons] at h
    simp only [List.map_cons, List.sum_cons]
    by_cases e : p.1 = k
    · have hW : (W.map fun p => if p.1 = k then (p.1, p.2 ++ [i]) else p) = W := by
        have hn : ∀ q ∈ W, q.1 ≠ k := fun q hq e' => h.1 (List.mem_map.mpr ⟨q, hq, e'.trans e.symm⟩)
        exact map_off hn
      rw [hW, if_pos e, List.length_append, List.length_singleton]
      omega
    · rw [if_neg e]
      have := ih h.2
      omega
theorem wAdd_keys (W : List (Str × List Int)) (k : Str) (i : Int) (h : (W.map (·.1)).Nodup) : ((wAdd W k i).map (·.1)).Nodup := by
  unfold wAdd
  split
  · rw [List.map_map]
    have : ((fun p : Str × List Int => p.1) ∘ fun p => if p.1 = k then (p.1, p.2 ++ [i]) else p) = (·.1) := by
      funext p
      show (if p.1 = k then (p.1, p.2 ++ [i]) else p).1 = p.1
      split <;> rfl
    rw [this]; exact h
  · rename_i hn
    rw [List.map_append, List.nodup_append]
    refine ⟨h, by simp, ?_⟩
    intro a ha b hb
    rw [List.map_singleton, List.mem_singleton] at hb
    subst hb
    rintro rfl
    obtain ⟨q, hq, e⟩ := List.mem_map.mp ha
    unfold wLook at hn
    rw [Option.map_eq_none_iff, List.find?_eq_none] at hn
    exact hn q hq (by simpa using e)
theorem wOf_keys (y : Str) : ∀ n, ((wOf y n).map (·.1)).Nodup
  | 0 => List.nodup_nil
  | n + 1 => wAdd_keys _ _ _ (wOf_keys y n)
theorem wOf_tot (y : Str) : ∀ n, wTot (wOf y n) ≤ n
  | 0 => Nat.le_refl _
  | n + 1 => by
    have ih := wOf_tot y n
    rw [wOf, wAdd]
    split
    · exact Nat.le_trans (wMap_tot (wOf_keys y n)) (Nat.succ_le_succ ih)
    · unfold wTot at ih ⊢
      rw [List.map_append, List.sum_append]
      simp only [List.map_cons, List.map_nil, List.sum_cons, List.sum_nil, List.length_singleton]
      omega
theorem wAdd_len (W : List (Str × List Int)) (k : Str) (i : Int) : (wAdd W k i).length ≤ W.length + 1 := by
  unfold wAdd
  split
  · rw [List.length_map]; exact Nat.le_succ _
  · rw [List.length_append]; exact Nat.le_refl _
theorem wOf_len (y : Str) : ∀ n, (wOf y n).length ≤ n
  | 0 => Nat.le_refl _
  | n + 1 => Nat.le_trans (wAdd_len _ _ _) (Nat.succ_le_succ (wOf_len y n))
theorem IdxPairs.keys {kvs : List (Str × Value)} {objs : List (Addr × Obj)} {W : List (Str × List Int)} (h : IdxPairs kvs objs W) : kvs.map (·.1) = W.map (·.1) := by
  induction h with
  | nil => rfl
  | cons _ _ ih => rw [List.map_cons, List.map_cons, ih]
theorem IdxPairs.put {kvs : List (Str × Value)} {objs : List (Addr × Obj)} {W : List (Str × List Int)} (h : IdxPairs kvs objs W) (hk : (kvs.map (·.1)).Nodup) (ha : (objs.map (·.1)).Nodup) {k : Str} {a : Addr} {vs : Array Value} {n : Nat} {i : Int} {t : Tok}
    (hv : valueAt kvs k = some (.ref a)) (hm : (a, listOf vs n) ∈ objs) :
    IdxPairs kvs (objs.map (chg a (listOf (vs.push (.int i t)) (n + 1)))) (W.map fun p => if p.1 = k then (p.1, p.2 ++ [i]) else p) := by
  induction h with
  | nil => exact .nil
  | @cons k' a' vs' n' js kvs objs W h1 h2 ih =>
    rw [List.map_cons, List.nodup_cons] at hk ha
    by_cases e : k' = k
    · subst e
      have e1 : valueAt ((k', Value.ref a') :: kvs) k' = some (.ref a') := by simp [valueAt]
      rw [e1] at hv
      obtain rfl : a' = a := by injection (Option.some.inj hv)
      have hobj : listOf vs n = listOf vs' n' := by
        rcases List.mem_cons.mp hm with h | h
        · exact (Prod.mk.inj h).2
        · exact absurd (List.mem_map_of_mem (f := (·.1)) h) ha.1
      have hvs : vs = vs' ∧ n = n' := by
        have := congrArg Obj.data hobj
        simp only [PySem.W.listOf, Data.seq.injEq] at this
        exact this
      obtain ⟨rfl, rfl⟩ := hvs
      have ho : objs.map (chg a' (listOf (vs.push (.int i t)) (n + 1))) = objs := chg_off fun p hp e => ha.1 (List.mem_map.mpr ⟨p, hp, e⟩)
      have hW : (W.map fun p => if p.1 = k' then (p.1, p.2 ++ [i]) else p) = W := by
        have hn : ∀ p ∈ W, p.1 ≠ k' := fun p hp e => hk.1 (by rw [h2.keys]; exact List.mem_map.mpr ⟨p, hp, e⟩)
        exact map_off hn
      rw [List.map_cons, List.map_cons, ho, hW, if_pos rfl]
      have hc : chg a' (listOf (vs.push (.int i t)) (n + 1)) (a', listOf vs n) = (a', listOf (vs.push (.int i t)) (n + 1)) := if_pos rfl
      rw [hc]
      refine .cons ?_ h2
      rw [Array.toList_push]
      exact h1.append (IntsAre.cons _ _ IntsAre.nil)
    · have e1 : valueAt ((k', Value.ref a') :: kvs) k = valueAt kvs k := by simp [valueAt, e]
      rw [e1] at hv
      have hne : a' ≠ a := by
        rintro rfl
        obtain ⟨a2, vs2, n2, js2, q1, q2, _⟩ : ∃ a2 vs2 n2 js2, valueAt kvs k = some (.ref a2) ∧ (a2, listOf vs2 n2) ∈ objs ∧ IntsAre vs2.toList js2 ∧ wLook W k = some js2 := by
          rcases h2.look k with h | h
          · rw [h.1] at hv; cases hv
          · exact h
        rw [q1] at hv
        obtain rfl : a2 = a' := by injection (Option.some.inj hv)
        exact ha.1 (List.mem_map_of_mem (f := (·.1)) q2)
      have hm' : (a, listOf vs n) ∈ objs := by
        rcases List.mem_cons.mp hm with h | h
        · exact absurd (congrArg Prod.fst h).symm hne
        · exact h
      rw [List.map_cons, List.map_cons, if_neg e]
      have hc : chg a (listOf (vs.push (.int i t)) (n + 1)) (a', listOf vs' n') = (a', listOf vs' n') := if_neg hne
      rw [hc]
      exact .cons h1 (ih hk.2 ha.2 hv hm')
end Mine
end
section
open PySem PySem.W PySem.Calls PyProof.Rows
set_option maxRecDepth 100000
namespace Mine
noncomputable def dashS : Str := Str.ofString "-"
/-- the junk filter as it is called: a function that tells the dash; jl: the objects that it leans on -/
noncomputable def JunkFn (w : World) (p : Program) (loose : List Str) (mean : ExcName → Option Value) (mg mb : Str → Option Value) (ja : Addr) (jl : List (Addr × Obj)) : Prop :=
  ∀ (fr' : List Env) (base : Heap) (s : Shared) (k : Str) (t : Tok) (Q E : Value → Shared → Prop) (nl : List (Addr × Obj)), Cx (AA 4 fr') fr' w (KK w.params) p loose mean mg mb base s.heap nl → (∀ q ∈ jl, s.heap.get? q.1 = some q.2) →
    (∀ h' tk', Kept s.heap h' → Q (.bool (decide (k = dashS))) { s with heap := h', toks := tk' }) → wpAny (model PP w) (AA 4 fr') (call (.ref ja) [.str k t]) Q E s
/-- what the index keeps under a sign: nothing under junk -/
noncomputable def rowOf (J : Bool) (y k : Str) : List Int := if J = true ∧ k = dashS then [] else (wLook (wOf y 10) k).getD []
noncomputable def junkOf (J : Bool) (y k : Str) : Bool := J && (decide (k = dashS) && (wLook (wOf y 10) k).isSome)
noncomputable def IsFnObj (o : Obj) : Prop := o.cls = .type "function" ∧ ∃ fd, o.data = .func fd
theorem rows_of {J : Bool} {y : Str} {kvs kvs' : List (Str × Value)} {objs : List (Addr × Obj)} {h' : Heap} {self dd bd bj : Addr} (hix : IdxPairs kvs objs (wOf y 10)) (hv : ∀ k, valueAt kvs' k = if J = true ∧ k = dashS then none else valueAt kvs k)
    (ho : ∀ p ∈ objs, h'.get? p.1 = some p.2 ∧ p.1 ≠ self ∧ p.1 ≠ dd ∧ p.1 ≠ bd ∧ p.1 ≠ bj) (k : Str) :
    (valueAt kvs' k = none ∧ rowOf J y k = []) ∨ ∃ z vs nn, valueAt kvs' k = some (.ref z) ∧ h'.get? z = some (PySem.W.listOf vs nn) ∧ z ≠ self ∧ z ≠ dd ∧ z ≠ bd ∧ z ≠ bj ∧ IntsAre vs.toList (rowOf J y k) := by
  rw [hv k]
  unfold rowOf
  by_cases e : J = true ∧ k = dashS
  · rw [if_pos e, if_pos e]; exact .inl ⟨rfl, rfl⟩
  · rw [if_neg e, if_neg e]
    rcases hix.look k with ⟨e1, e2⟩ | ⟨a, vs, n, js, e1, e2, e3, e4⟩
    · rw [e1, e2]; exact .inl ⟨rfl, rfl⟩
    · rw [e1, e4]
      exact .inr ⟨a, vs, n, rfl, (ho _ e2).1, (ho _ e2).2.1, (ho _ e2).2.2.1, (ho _ e2).2.2.2.1, (ho _ e2).2.2.2.2, e3⟩
theorem kept_but {hh h' g' : Heap} {L : Addr} {m : Str → Option Value} {self dd : Addr} {os : Obj} (hg : g' = hideAll hh [self, dd]) (F : Fr g' L h' m) (hs : hh.get? self = some os) (hs' : h'.get? self = some os) :
    ∀ b o, b ≠ dd → hh.get? b = some o → h'.get? b = some o := by
  intro b o hb e
  by_cases h : b = self
  · subst h; rw [hs] at e; rw [hs', ← e]
  · exact F.keep b o (by rw [hg]; exact hideAll_get _ e (by simp [h, hb]))
theorem fresh_of {hh g' : Heap} {self dd b : Addr} (hg : g' = hideAll hh [self, dd]) (hn : g'.get? b = none) (h1 : b ≠ self) (h2 : b ≠ dd) : hh.get? b = none := by
  cases e : hh.get? b with
  | none => rfl
  | some o =>
    have := hideAll_get [self, dd] e (by simp [h1, h2])
    rw [← hg, hn] at this
    cases this
end Mine
end
section
open PySem PySem.W PySem.Calls PyProof.Rows
set_option maxRecDepth 100000
namespace Mine
/-- is a set's order read from the world's text -/
noncomputable def byText (w : World) : Bool := w.params.followText "set-order"
noncomputable def setObj0 (w : World) : Obj := { cls := .type "set", dict := none, data := .set #[] 0 (.fresh 0 0 (!byText w)) }
section
variable {prog : Program} {w : World} {A : Around} {E : Value → Shared → Prop} {s : Shared}
theorem set_new_code {Q₁ : Value → Shared → Prop} (h : Q₁ (.ref s.heap.objs.size) { s with heap := s.heap.push (setObj0 w) }) :
    codeAny (model prog w) A (.call (.builtin "set.__new__") ⟨[.type "set"], []⟩) (wants Q₁ E) s := by
  refine codeAny_of_tree ?_
  show wpAny _ A.in1 (do checkBuiltinCall "set.__new__" ⟨[.type "set"], []⟩; again (.builtin "set.__new__" ⟨[.type "set"], []⟩)) _ _ s
  refine wpAny_bind (wpAny_of_eq F.newCall_set_0 (wpAny_pure ⟨plainId_quiet F.plain_set_new _, codeAny_builtin F.entry_set_new ?_⟩))
  rw [Around.under_plainId F.plain_set_new _]
  unfold Builtin.«set.__new__» Builtin.Frozenset.newClass
  have hsub := sub_set_self
  obtain ⟨hp, g, d, tk, os⟩ := s
  dsimp only
  wp_walk
  refine wpAny_askSetting (wpAny_pure ?_)
  dsimp only
  simp only [newObj]
  exact wpAny_bind (wpAny_alloc (wpAny_pure (wpAny_pure h)))
set_option maxHeartbeats 40000000 in
theorem set_call {Q : Value → Shared → Prop} (h : Q (.ref s.heap.objs.size) { s with heap := s.heap.push (setObj0 w) }) : wpAny (model prog w) A (call (.type "set") []) Q E s := by
  obtain ⟨c, tl, hmro⟩ := F.called_set.mro
  have hmade := F.called_set.made
  have hsub := F.called_set.sub
  refine wpAny_call (codeAny_of_tree ?_)
  show wpAny _ _ (callAny (.type "set") _) _ _ _
  refine wpAny_pure ⟨Code.quiet_builtin _ (by decide +kernel), codeAny_builtin F.entry_type_call ?_⟩
  rw [Around.under_plain (weight_type_call_type "set" [] []) rfl]
  have h1 := F.called_set.notType
  have h2 := F.called_set.canCreate
  have hct := F.typeCall_set_0
  repeat (any_goals (first | assumption | wp_step))
  refine codeAny_mono (set_new_code (E := E) (Q₁ := fun obj s₁ => obj = .ref s.heap.objs.size ∧ s₁ = { s with heap := s.heap.push (setObj0 w) }) ⟨rfl, rfl⟩) fun r s₁ hr => ?_
  cases r with
  | error e => exact hr
  | ok fl =>
    cases fl with
    | ret obj =>
      obtain ⟨rfl, rfl⟩ := hr
      have hS : (s.heap.push (setObj0 w)).get? s.heap.objs.size = some (setObj0 w) := Heap.get?_push_size _ rfl
      have hT : Shared.TypeIs { s with heap := s.heap.push (setObj0 w) } (.ref s.heap.objs.size) "set" := ⟨_, hS, rfl⟩
      have hli := F.called_set.init.lookup
      have hbi := F.called_set.init.bind (.ref s.heap.objs.size)
      repeat (any_goals (first | assumption | wp_step))
      refine codeAny_mono (codeAny_call_builtin (R := wants (fun r s₂ => r = .none ∧ Q (.ref s.heap.objs.size) s₂) E) F.called_set.init.plain F.entry_set_init (check_set_init hT ?_)) fun r₂ s₂ hr₂ => ?_
      · unfold Builtin.«set.__init__» noKeywords
        wp_walk
        exact ⟨rfl, h⟩
      · cases r₂ with
        | error e => exact hr₂
        | ok fl₂ =>
          cases fl₂ with
          | ret r =>
            obtain ⟨rfl, hq⟩ := hr₂
            repeat (any_goals (first | assumption | wp_step))
          | _ => exact hr₂.elim
    | _ => exact hr.elim
variable {h₀ : Heap} {L : Addr} {m : Str → Option Value} {news : List (Addr × Obj)}
theorem r_newset {Q : Value → Shared → Prop} (F : Fr h₀ L s.heap m) (N : News h₀ L s.heap news)
    (h : ∀ d h', Fr h₀ L h' m → News h₀ L h' ((d, setObj0 w) :: news) → (∀ p ∈ news, p.1 < d) → Q (.ref d) { s with heap := h' }) : wpAny (model prog w) A (call (.type "set") []) Q E s :=
  set_call (h _ _ (F.push _) (N.push F _) fun p hp => Heap.lt_size (N p hp).1)
end
/-- a set of one text -/
noncomputable def OneSet (prog : Program) (w : World) (o : Obj) (k : Str) : Prop :=
  ∃ t ep tb, o = { cls := .type "set", dict := none, data := .set #[((strKind prog w).hash k, .str k t)] ep tb } ∧ tb.led = (!byText w) ∧ tb.fits 1 = true
theorem lay_first (led : Bool) (h : Int) (x : Value) : ∃ j, layNew (.fresh 0 0 led) #[] h x = (#[(h, x)], { mask := 7, place := #[j], dummies := #[], finger := 0, led := led, moves := 0, plain := true }, false, false) := by
  refine ⟨SetTable.bits h % 8, ?_⟩
  rfl
end Mine
end
section
open PySem PySem.W
namespace Mine
theorem wLook_cons (p : Str × List Int) (W : List (Str × List Int)) (k : Str) : wLook (p :: W) k = if p.1 = k then some p.2 else wLook W k := by
  unfold wLook
  by_cases h : p.1 = k
  · rw [if_pos h, List.find?_cons_of_pos (by simpa using h)]; rfl
  · rw [if_neg h, List.find?_cons_of_neg (by simpa using h)]
theorem wLook_map (k : Str) (i : Int) (k' : Str) : ∀ W : List (Str × List Int), wLook (W.map fun p => if p.1 = k then (p.1, p.2 ++ [i]) else p) k' = if k' = k then (wLook W k).map (· ++ [i]) else wLook W k'
  | [] => by
    show none = _
    split <;> rfl
  | p :: W => by
    rw [List.map_cons, wLook_cons, wLook_cons, wLook_cons, wLook_map k i k' W]
    by_cases h : p.1 = k
    · rw [if_pos h]
      by_cases h2 : k' = k
      · rw [if_pos (h.trans h2.symm), if_pos h2, if_pos h]; rfl
      · rw [if_neg (fun q => h2 (q.symm.trans h)), if_neg h2, if_neg h2, if_neg (fun q => h2 (q.symm.trans h))]
    · rw [if_neg h, if_neg h]
      by_cases h2 : k' = k
      · rw [if_neg (fun q => h (q.trans h2)), if_pos h2, if_pos h2]
      · rw [if_neg h2, if_neg h2]
theorem wLook_snoc (k : Str) (js : List Int) (k' : Str) : ∀ W : List (Str × List Int), wLook (W ++ [(k, js)]) k' = match wLook W k' with
    | some x => some x
    | none => if k = k' then some js else none
  | [] => by rw [List.nil_append, wLook_cons]; rfl
  | p :: W => by
    rw [List.cons_append, wLook_cons, wLook_cons, wLook_snoc k js k' W]
    split <;> rfl
theorem wLook_add (W : List (Str × List Int)) (k : Str) (i : Int) (k' : Str) : wLook (wAdd W k i) k' = if k' = k then some ((wLook W k).getD [] ++ [i]) else wLook W k' := by
  unfold wAdd
  cases e : wLook W k with
  | none =>
    dsimp only
    rw [wLook_snoc]
    by_cases h : k' = k
    · rw [if_pos h, h, e]
      simp
    · rw [if_neg h]
      have h' : ¬ k = k' := fun q => h q.symm
      cases wLook W k' with
      | none => simp [h']
      | some x => rfl
  | some js =>
    dsimp only
    rw [wLook_map, e]
    rfl
/-- the indices of a sign, ascending -/
theorem wOf_look (y k : Str) : ∀ n : Nat, ((wLook (wOf y n) k).getD []).Pairwise (· < ·) ∧ ∀ j : Int, j ∈ (wLook (wOf y n) k).getD [] ↔ ∃ m : Nat, m < n ∧ j = m ∧ sgn y m = k
  | 0 => ⟨List.Pairwise.nil, fun j => ⟨fun h => (by cases h), fun ⟨m, h, _⟩ => absurd h (Nat.not_lt_zero m)⟩⟩
  | n + 1 => by
    obtain ⟨h1, h2⟩ := wOf_look y k n
    show ((wLook (wAdd (wOf y n) (sgn y n) n) k).getD []).Pairwise (· < ·) ∧ ∀ j : Int, j ∈ (wLook (wAdd (wOf y n) (sgn y n) n) k).getD [] ↔ _
    rw [wLook_add]
    by_cases e : k = sgn y n
    · rw [if_pos e, ← e]
      dsimp only [Option.getD_some]
      constructor
      · rw [List.pairwise_append]
        refine ⟨h1, List.pairwise_singleton _ _, fun a ha b hb => ?_⟩
        obtain ⟨m, hm, rfl, _⟩ := (h2 a).mp ha
        rw [List.mem_singleton.mp hb]
        omega
      · intro j
        rw [List.mem_append, h2 j, List.mem_singleton]
        constructor
        · rintro (⟨m, hm, rfl, hk⟩ | rfl)
          · exact ⟨m, by omega, rfl, hk⟩
          · exact ⟨n, by omega, rfl, e.symm⟩
        · rintro ⟨m, hm, rfl, hk⟩
          rcases Nat.lt_or_ge m n with h | h
          · exact .inl ⟨m, h, rfl, hk⟩
          · exact .inr (by omega)
    · rw [if_neg e]
      refine ⟨h1, fun j => (h2 j).trans ⟨fun ⟨m, hm, hj, hk⟩ => ⟨m, by omega, hj, hk⟩, fun ⟨m, hm, hj, hk⟩ => ⟨m, ?_, hj, hk⟩⟩⟩
      rcases Nat.lt_or_ge m n with h | h
      · exact h
      · obtain rfl : m = n := by omega
        exact absurd hk.symm e
theorem rowOf_sorted (J : Bool) (y k : Str) : (rowOf J y k).Pairwise (· < ·) := by
  unfold rowOf
  split
  · exact .nil
  · exact (wOf_look y k 10).1
theorem rowOf_mem (J : Bool) (y k : Str) (j : Nat) (hj : j < 10) : (j : Int) ∈ rowOf J y k ↔ sgn y j = k ∧ ¬ (J = true ∧ k = dashS) := by
  unfold rowOf
  by_cases h : J = true ∧ k = dashS
  · rw [if_pos h]
    exact ⟨fun q => (by cases q), fun q => absurd h q.2⟩
  · rw [if_neg h, (wOf_look y k 10).2]
    constructor
    · rintro ⟨m, hm, e, hk⟩
      obtain rfl : j = m := by omega
      exact ⟨hk, h⟩
    · rintro ⟨hk, _⟩
      exact ⟨j, hj, rfl, hk⟩
theorem junkOf_at (J : Bool) (y : Str) (j : Nat) (hj : j < 10) : junkOf J y (sgn y j) = (J && decide (sgn y j = dashS)) := by
  unfold junkOf
  by_cases e : sgn y j = dashS
  · have h := ((wOf_look y (sgn y j) 10).2 (j : Int)).mpr ⟨j, hj, rfl, rfl⟩
    cases e2 : wLook (wOf y 10) (sgn y j) with
    | none => rw [e2] at h; cases h
    | some js => simp
  · simp [e]
theorem item_sgn {y : Str} (hy : y.length = 10) {j : Nat} (hj : j < 10) : PySem.Txt.item y (j : Int) = sgn y j := by
  rw [PySem.W.item_meets ⟨by omega, by omega⟩]
  unfold sgn
  rw [Int.toNat_natCast]
end Mine
end
section
open PySem PySem.W PySem.Calls PyProof.Rows
set_option maxRecDepth 100000
namespace Mine
section
variable {prog : Program} {w : World} {A : Around} {E : Value → Shared → Prop} {s : Shared}
theorem set_add_first {a : Addr} {k : Str} {t : Tok} {Q : Value → Shared → Prop} (ho : s.heap.get? a = some (setObj0 w))
    (h : ∀ h' o', Heap.SameBut a s.heap h' → h'.get? a = some o' → OneSet prog w o' k → Q .none { s with heap := h', toks := s.toks + 1 }) :
    wpAny (model prog w) A (call (.builtin "set.add") [.ref a, .str k t]) Q E s := by
  have hT : s.TypeIs (.ref a) "set" := ⟨_, ho, rfl⟩
  refine wpAny_call_entry F.slot_set_add hT F.entry_set_add ?_ (F.args_set_add_2 _ _)
  unfold Builtin.«set.add» Builtin.Frozenset.oneOther
  simp only [List.isEmpty_nil, bind_assoc]
  unfold Builtin.Frozenset.addrOf setAdd
  refine wpAny_bind (wpAny_pure ?_)
  try dsimp only
  refine wpAny_bind (wpAny_pure ?_)
  try dsimp only
  refine wpAny_bind ?_
  refine wpAny_holding ?_
  refine wpAny_bind ((strKind prog w).pyHash (strKind_is prog w k t) ?_)
  unfold setAddHashed setAddHashedIn
  refine wpAny_holding (wpAny_bind (wpAny_setState_of (s := { s with toks := s.toks + 1 }) ho rfl (by rfl) ?_))
  dsimp only
  rw [show byScan (.str k t) #[] = true from by simp [byScan, Value.scannable, scanBound]]
  simp only [↓reduceIte]
  unfold setAddByScan
  refine wpAny_bind ?_
  refine wpAny_bind (wpAny_rule ?_)
  refine wpAny_bind (wpAny_setScan_of (s := { s with toks := s.toks + 1 }) (strKind_is prog w k t) ho rfl (by rfl) (fun _ h => nomatch h) ?_)
  rw [show ((#[] : Array (Int × Value)).toList.findIdx? (fun e => (strKind prog w).is k e.2)) = none from rfl]
  dsimp only
  obtain ⟨j, hj⟩ := lay_first (!byText w) ((strKind prog w).hash k) (.str k t)
  rw [hj]
  dsimp only
  refine wpAny_bind ?_
  refine wpAny_pure ?_
  simp only [↓reduceIte]
  refine wpAny_bind ?_
  rw [hashByValue_scannable 8 (x := .str k t) rfl]
  refine wpAny_pure ?_
  simp only [plainKind, Bool.false_eq_true, ↓reduceIte]
  refine wpAny_bind (wpAny_storeSet_of (s := { s with toks := s.toks + 1 }) ho rfl ?_ (by show 1 ≤ sizeLine; rw [sizeLine_eq]; decide))
  have hg := Heap.get?_update_self (Obj.putSet #[((strKind prog w).hash k, .str k t)] { mask := 7, place := #[j], dummies := #[], finger := 0, led := (!byText w), moves := 0, plain := false }) ho (by rfl)
  rw [if_neg (by simp [SetTable.tooFull, SetTable.fill])]
  refine wpAny_pure ?_
  dsimp only
  refine wpAny_pure ?_
  exact wpAny_pure ⟨_, rfl, h _ _ (Heap.SameBut.update ..) hg ⟨t, 1, _, rfl, rfl, rfl⟩⟩
variable {h₀ : Heap} {L : Addr} {m : Str → Option Value} {news : List (Addr × Obj)}
theorem r_add_first {a : Addr} {k : Str} {t : Tok} {Q : Value → Shared → Prop} (F : Fr h₀ L s.heap m) (N : News h₀ L s.heap news) (hm : (a, setObj0 w) ∈ news)
    (h : ∀ h' o', Fr h₀ L h' m → News h₀ L h' (news.map (chg a o')) → OneSet prog w o' k → Q .none { s with heap := h', toks := s.toks + 1 }) :
    wpAny (model prog w) A (call (.builtin "set.add") [.ref a, .str k t]) Q E s := by
  have z := N _ hm
  refine set_add_first z.1 fun h' o' hs ho' h1 => h h' o' (F.change hs z.2.1 z.2.2) (fun p hp => ?_) h1
  obtain ⟨q, hq, rfl⟩ := List.mem_map.mp hp
  unfold chg
  split
  · exact ⟨ho', z.2⟩
  · rename_i hne
    exact ⟨(hs.2 q.1 hne).trans (N q hq).1, (N q hq).2⟩
theorem truthy_fn {a : Addr} {Q : Bool → Shared → Prop} (hT : s.TypeIs (.ref a) "function") (h : Q true s) : wpAny (model prog w) A (truthy (.ref a)) Q E s := by
  have f1 : typeLookup (.type "function") "__bool__" = pure none := by rw [typeLookup_type, builtinLookup_eq_fast]; kernel_rfl
  have f2 : typeLookup (.type "function") "__len__" = pure none := by rw [typeLookup_type, builtinLookup_eq_fast]; kernel_rfl
  unfold truthy
  repeat (any_goals (first | assumption | wp_step))
end
end Mine
end
section
open PySem PySem.W PySem.Calls PyProof.Rows
set_option maxRecDepth 100000
namespace Mine
theorem slot_si_next : Slot "set_iterator" "__next__" "set_iterator.__next__" :=
  .of (owner := "set_iterator") (n := "__next__") (by rw [typeLookup_type, builtinLookup_eq_fast]; kernel_rfl) (by decide +kernel) (by decide +kernel) (by decide +kernel)
    (by first | exact .inl (by decide +kernel) | exact .inr (by decide +kernel)) (by rw [isSubtype_type]; kernel_rfl)
theorem slot_si_iter : Slot "set_iterator" "__iter__" "set_iterator.__iter__" :=
  .of (owner := "set_iterator") (n := "__iter__") (by rw [typeLookup_type, builtinLookup_eq_fast]; kernel_rfl) (by decide +kernel) (by decide +kernel) (by decide +kernel)
    (by first | exact .inl (by decide +kernel) | exact .inr (by decide +kernel)) (by rw [isSubtype_type]; kernel_rfl)
theorem entry_si_next : entryFor table "set_iterator.__next__" = some Builtin.«set_iterator.__next__» := entryFor_of_tree (by kernel_rfl)
theorem args_si_next (a : Value) : argsOk "set_iterator.__next__" ⟨[a], []⟩ := by unfold argsOk; kernel_rfl
theorem args_si_iter (a : Value) : argsOk "set_iterator.__iter__" ⟨[a], []⟩ := by unfold argsOk; kernel_rfl
theorem entry_si_iter : entryFor table "set_iterator.__iter__" = some Builtin.«dict_keyiterator.__iter__» :=
  entryFor_alias (id' := "dict_keyiterator.__iter__") (by kernel_rfl) rfl (by decide +kernel) (by kernel_rfl)
theorem entry_s_iter : entryFor table "set.__iter__" = some Builtin.«frozenset.__iter__» :=
  entryFor_alias (id' := "frozenset.__iter__") (by kernel_rfl) rfl (by decide +kernel) (by kernel_rfl)
noncomputable abbrev siObj (q i sa n ep : Nat) : Obj := { cls := .type "set_iterator", dict := none, data := .fields #[rawInt q, rawInt i, .ref sa, rawInt n, rawInt ep], slots := #[] }
section
variable {prog : Program} {w : World} {A : Around} {E : Value → Shared → Prop} {s : Shared} {sa I : Addr}
theorem iter_set {o : Obj} {es : Array (Int × Value)} {ep : Nat} {tb : SetTable} {Q : Value → Shared → Prop} (ho : s.heap.get? sa = some o) (hc : o.cls = .type "set") (hd : o.data = .set es ep tb) (hf : tb.fits es.size = true) (h1 : es.size ≤ 1)
    (h : Q (.ref s.heap.objs.size) { s with heap := s.heap.push (siObj 0 0 sa es.size ep) }) : wpAny (model prog w) A (pyIter (.ref sa)) Q E s := by
  have hT : s.TypeIs (.ref sa) "set" := ⟨_, ho, hc⟩
  refine wpAny_pyIter_slot hT F.slot_set_iter (wpAny_call_entry F.slot_set_iter hT entry_s_iter ?_ (F.args_set_iter_1 _))
  unfold Builtin.«frozenset.__iter__»
  refine wpAny_bind ?_
  unfold Builtin.Frozenset.slot0 slotArgs Builtin.Frozenset.addrOf
  simp only [List.isEmpty_nil, Bool.not_true, Bool.false_eq_true, ↓reduceIte, bind_assoc, List.length_nil, bne_self_eq_false]
  refine wpAny_bind (wpAny_pure ?_)
  try dsimp only
  refine wpAny_bind (wpAny_pure ?_)
  try dsimp only
  refine wpAny_bind (wpAny_pure ?_)
  try dsimp only
  refine wpAny_pure ?_
  try dsimp only
  unfold Builtin.Frozenset.sizeOf
  refine wpAny_bind (wpAny_bind (wpAny_setEntries_of ho hd hf (wpAny_pure ?_)))
  unfold setDrawn
  refine wpAny_bind (wpAny_bind (wpAny_setState_of ho hd hf ?_))
  dsimp only
  unfold setsByText
  refine wpAny_bind (wpAny_bind (wpAny_askSetting (wpAny_pure ?_)))
  refine wpAny_pure ?_
  have hno : decide (es.size > 1) = false := decide_eq_false (by omega)
  rw [if_neg (by
    show ¬ ((!(byText w) && (!tb.plain && decide (es.size > 1))) = true)
    rw [hno]; simp)]
  refine wpAny_bind (wpAny_pure ?_)
  refine wpAny_bind (wpAny_setEpoch_of ho hd hf ?_)
  refine wpAny_bind ?_
  unfold newFields
  refine wpAny_newObj_type (wpAny_pure ⟨_, rfl, "set_iterator", _, ⟨_, Heap.get?_push_size _ rfl, rfl⟩, slot_si_next.lookup, h⟩)
theorem pick_nil (f : Nat → Nat) : pickOrder f (#[] : Array (Int × Value)) = #[] := rfl
theorem pick_one (f : Nat → Nat) (e : Int × Value) : pickOrder f #[e] = #[e] := by
  simp [pickOrder, pickOrder.go, Nat.mod_one]
theorem below_zero (j : Nat) : SetTable.below #[j] 0 = 0 := by simp [SetTable.below, SetTable.below.go]
theorem below_next (j : Nat) : SetTable.below #[j] (j + 1) = 1 := by simp [SetTable.below, SetTable.below.go]
/-- what the set's iterator gives next: for a set of one or none -/
theorem set_next {q i ep : Nat} {R : Option (Value × Nat) → Shared → Prop} {o : Obj} {es : Array (Int × Value)} {tb : SetTable} (ho : s.heap.get? sa = some o) (hd : o.data = .set es ep tb) (hf : tb.fits es.size = true) (h1 : es.size ≤ 1)
    (hi : i ≤ es.size) (hled : tb.led = (!byText w)) (hq : i = 0 → q = 0) (hq1 : i = 1 → byText w = false → ∃ j, tb.place = #[j] ∧ q = j + 1)
    (item : ∀ hs x q', i = 0 → es = #[(hs, x)] → (byText w = false → ∃ j, tb.place = #[j] ∧ q' = j + 1) → R (some (x, q')) s) (done : i = es.size → R none s) :
    wpAny (model prog w) A (setNext sa q i ep) R E s := by
  have hno : decide (es.size > 1) = false := decide_eq_false (by omega)
  have hfs : tb.place.size = es.size := by
    simp only [SetTable.fits, Bool.and_eq_true, beq_iff_eq] at hf
    exact hf.1
  have hes : es = #[] ∨ ∃ e, es = #[e] := by
    obtain ⟨l⟩ := es
    match l, h1 with
    | [], _ => exact .inl rfl
    | [e], _ => exact .inr ⟨e, rfl⟩
    | _ :: _ :: _, h => simp at h
  unfold setNext
  refine wpAny_bind (wpAny_setState_of ho hd hf ?_)
  dsimp only
  unfold setsByText
  refine wpAny_bind (wpAny_bind (wpAny_askSetting (wpAny_pure ?_)))
  show wpAny _ _ (if byText w = true then _ else _) _ _ _
  cases hb : byText w with
  | true =>
    rw [if_pos rfl, if_neg (by simp)]
    refine wpAny_bind ?_
    unfold setWalk
    refine wpAny_bind (wpAny_setState_of ho hd hf ?_)
    dsimp only
    unfold setsByText
    refine wpAny_bind (wpAny_bind (wpAny_askSetting (wpAny_pure ?_)))
    show wpAny _ _ (if byText w = true then _ else _) _ _ _
    rw [hb, if_pos rfl]
    refine wpAny_bind (wpAny_askSetting ?_)
    refine wpAny_pure ?_
    rcases hes with rfl | ⟨e, rfl⟩
    · rw [pick_nil]
      exact wpAny_pure (done (Nat.le_zero.mp hi))
    · rw [pick_one]
      rcases (by have : (#[e] : Array (Int × Value)).size = 1 := rfl; omega : i = 0 ∨ i = 1) with rfl | rfl
      · exact wpAny_pure (item e.1 e.2 q rfl rfl (fun h => by rw [hb] at h; cases h))
      · exact wpAny_pure (done rfl)
  | false =>
    rw [if_neg (by decide)]
    rw [if_neg (by show ¬ ((!tb.plain && decide (es.size > 1)) = true); rw [hno]; simp)]
    refine wpAny_bind (m := (if (!tb.led && !es.isEmpty) = true then unsupported "set:maker-not-led" else pure ())) ?_
    rw [hled, hb]
    rw [if_neg (by simp)]
    refine wpAny_pure ?_
    rcases hes with rfl | ⟨e, rfl⟩
    · exact wpAny_pure (done (Nat.le_zero.mp hi))
    · obtain ⟨j, hj⟩ : ∃ j, tb.place = #[j] := by
        have : tb.place.size = 1 := hfs
        generalize tb.place = p at this
        obtain ⟨l⟩ := p
        match l, this with
        | [j], _ => exact ⟨j, rfl⟩
      rw [hj]
      rcases (by have : (#[e] : Array (Int × Value)).size = 1 := rfl; omega : i = 0 ∨ i = 1) with rfl | rfl
      · rw [hq rfl, below_zero]
        exact wpAny_pure (item e.1 e.2 (j + 1) rfl rfl (fun _ => ⟨j, hj, rfl⟩))
      · obtain ⟨j', hj', hq'⟩ := hq1 rfl hb
        rw [hj] at hj'
        have : j' = j := by simpa using hj'.symm
        rw [hq', this, below_next]
        exact wpAny_pure (done rfl)
theorem pyNext_set {q i ep : Nat} {R : Option Value → Shared → Prop} {o : Obj} {es : Array (Int × Value)} {tb : SetTable} (hh : A.handled = none) (hI : s.heap.get? I = some (siObj q i sa es.size ep)) (ho : s.heap.get? sa = some o) (hd : o.data = .set es ep tb) (hf : tb.fits es.size = true) (h1 : es.size ≤ 1)
    (hi : i ≤ es.size) (hled : tb.led = (!byText w)) (hq : i = 0 → q = 0) (hq1 : i = 1 → byText w = false → ∃ j, tb.place = #[j] ∧ q = j + 1)
    (item : ∀ hs x h' q', i = 0 → es = #[(hs, x)] → (byText w = false → ∃ j, tb.place = #[j] ∧ q' = j + 1) → h'.get? I = some (siObj q' 1 sa es.size ep) → Heap.SameBut I s.heap h' → R (some x) { s with heap := h' })
    (done : i = es.size → ∀ h', Heap.ExtBut I s.heap h' → R none { s with heap := h' }) : wpAny (model prog w) A (pyNext (.ref I)) R E s := by
  have hT : s.TypeIs (.ref I) "set_iterator" := ⟨_, hI, rfl⟩
  unfold pyNext
  refine wpAny_bind (wpAny_attempt (wpAny_callSpecial?_slot (name := Str.ofString "__next__") hT slot_si_next
    (wpAny_call_entry slot_si_next hT entry_si_next ?_ (args_si_next _))))
  unfold Builtin.«set_iterator.__next__»
  refine wpAny_bind ?_
  unfold slotArgs
  simp only [List.isEmpty_nil, Bool.not_true, Bool.false_eq_true, ↓reduceIte, List.length_nil, bne_self_eq_false]
  refine wpAny_pure ?_
  try dsimp only
  refine wpAny_bind (wpAny_fieldsOf hI rfl ?_)
  dsimp only [rawInt]
  refine wpAny_bind (wpAny_setEntries_of ho hd hf ?_)
  rw [if_neg (by simp)]
  simp only [Int.toNat_natCast]
  refine wpAny_bind (set_next ho hd hf h1 hi hled hq hq1 (fun hs x q' e0 e1 e2 => ?_) fun e => ?_)
  · subst e0
    dsimp only
    refine wpAny_bind (wpAny_setField_rec hI (by simp) fun h' hI' hs' => ?_)
    refine wpAny_bind (wpAny_setField_rec (s := { s with heap := h' }) hI' (by simp) fun h2 hI2 hs2 => ?_)
    exact wpAny_pure ⟨_, rfl, wpAny_pure (item hs x h2 q' rfl e1 e2 hI2 (hs'.trans hs2))⟩
  · dsimp only
    refine wpAny_bind (wpAny_setField_rec hI (by simp) fun h' hI' hs' => ?_)
    show wpAny _ _ (newExc (.type "StopIteration") [] >>= _) _ _ _
    refine wpAny_bind ?_
    simp only [newExc, newTuple]
    refine wpAny_bind (wpAny_newObj_type ?_ (by size_fits))
    refine wpAny_bind (m := firstArgMember _ _) (wpAny_of_eq (a := Value.none) (by first | rfl | (simp only [firstArgMember]; rfl)) ?_)
    refine wpAny_newObj_type ?_ (by size_fits)
    simp only [raiseNew]
    refine wpAny_bind (wpAny_handled ?_)
    rw [show A.in1.handled = none from hh]
    refine wpAny_bind (wpAny_pure (wpAny_throw ?_))
    refine wpAny_bind (wpAny_isInstance (T := "StopIteration") (b := true) ⟨_, Heap.get?_push_size _ rfl, rfl⟩ isSubtype_stop ?_)
    exact wpAny_pure (done e _ ((hs'.extBut.push _).push _))
end
/-- a for over a set of one text or none -/
theorem walks_set {prog : Program} {w : World} {A : Around} (hh : A.handled = none) (I sa : Addr) (hne : sa ≠ I) {o : Obj} {es : Array (Int × Value)} {ep : Nat} {tb : SetTable} (hd : o.data = .set es ep tb) (hf : tb.fits es.size = true) (h1 : es.size ≤ 1) (hled : tb.led = (!byText w)) :
    Walks prog w A I [I, sa] [I] es.size (fun i v => i = 0 ∧ ∃ hs, es = #[(hs, v)]) (fun i h => i ≤ es.size ∧ h.get? sa = some o ∧ ∃ q, (i = 0 → q = 0) ∧ (i = 1 → byText w = false → ∃ j, tb.place = #[j] ∧ q = j + 1) ∧ h.get? I = some (siObj q i sa es.size ep)) where
  sub := fun b hb => by simp at hb; simp [hb]
  frame := fun _ _ _ st hk => by
    obtain ⟨a, b, q, c, d, e⟩ := st
    exact ⟨a, hk sa (by simp) _ b, q, c, d, hk I (by simp) _ e⟩
  item := fun i s Q E hi st hQ => by
    obtain ⟨a, b, q, c, d, e⟩ := st
    refine pyNext_set (A := A) hh e b hd hf h1 a hled c d (fun hs x h' q' e0 e1 e2 e3 hsb => ?_) fun e0 => absurd e0 (Nat.ne_of_lt hi)
    subst e0
    exact hQ x h' s.toks ⟨rfl, hs, e1⟩ ⟨by omega, (hsb.2 sa hne).trans b, q', (fun h => by cases h), (fun _ => e2), e3⟩ fun b' o' hb' e' => hsb.extBut b' o' (fun h => hb' (by simp [h])) e'
  done := fun s Q E st hQ => by
    obtain ⟨a, b, q, c, d, e⟩ := st
    refine pyNext_set (A := A) hh e b hd hf h1 a hled c d (fun hs x h' q' e0 e1 e2 e3 hsb => ?_) fun _ h' hx => hQ h' s.toks fun b' o' hb' e' => hx b' o' (fun h => hb' (by simp [h])) e'
    rw [e1] at e0; cases e0
  self := fun i s Q E st hQ => by
    obtain ⟨a, b, q, c, d, e⟩ := st
    have hT : s.TypeIs (.ref I) "set_iterator" := ⟨_, e, rfl⟩
    refine wpAny_pyIter_slot hT slot_si_iter (wpAny_call_entry slot_si_iter hT entry_si_iter ?_ (args_si_iter _))
    show wpAny _ _ (ret (.ref I)) _ _ s
    exact wpAny_pure ⟨_, rfl, "set_iterator", _, hT, slot_si_next.lookup, hQ⟩
end Mine
end
section
open PySem PySem.W PySem.Calls PyProof.Rows
set_option maxRecDepth 100000
namespace Mine
theorem strKind_inv {prog : Program} {w : World} {k : Str} {v : Value} (h : (strKind prog w).is k v = true) : ∃ t, v = .str k t := by
  cases v <;> simp [PySem.strKind, Value.isStrOf] at h
  rename_i a t
  exact ⟨t, by rw [h]⟩
theorem no_before {β : Type} : ∀ {kvs : List (Str × β)} {i : Nat} {k : Str} {y : β}, (kvs.map (·.1)).Nodup → kvs[i]? = some (k, y) → (kvs.take i).any (fun p => decide (p.1 = k)) = false
  | [], i, _, _, _, h => by simp at h
  | p :: kvs, 0, k, y, hn, h => rfl
  | p :: kvs, i + 1, k, y, hn, h => by
    rw [List.map_cons, List.nodup_cons] at hn
    rw [List.getElem?_cons_succ] at h
    rw [List.take_succ_cons, List.any_cons, no_before hn.2 h, Bool.or_false]
    exact decide_eq_false fun e => hn.1 (List.mem_map.mpr ⟨(k, y), List.mem_of_getElem? h, e.symm⟩)
theorem any_next {β : Type} {kvs : List (Str × β)} {i : Nat} {k : Str} {y : β} (f : Str × β → Bool) (h : kvs[i]? = some (k, y)) : (kvs.take (i + 1)).any f = ((kvs.take i).any f || f (k, y)) := by
  rw [List.take_add_one, h, List.any_append]
  simp
theorem valueAt_without {kvs : List (Str × Value)} {k0 : Str} (k : Str) : valueAt (without kvs k0) k = if k = k0 then none else valueAt kvs k := by
  unfold valueAt without
  induction kvs with
  | nil => simp
  | cons p l ih =>
    by_cases h0 : p.1 = k0
    · rw [List.filter_cons_of_neg (by simpa using h0), ih]
      by_cases e : k = k0
      · rw [if_pos e, if_pos e]
      · rw [if_neg e, if_neg e, List.find?_cons_of_neg (by simpa using fun q => e (q.symm.trans h0))]
    · rw [List.filter_cons_of_pos (by simpa using h0)]
      by_cases h : p.1 = k
      · rw [List.find?_cons_of_pos (by simpa using h), List.find?_cons_of_pos (by simpa using h), if_neg (fun e => h0 (h.trans e))]
      · rw [List.find?_cons_of_neg (by simpa using h), ih, List.find?_cons_of_neg (by simpa using h)]
theorem look_any (W : List (Str × List Int)) (k : Str) : (wLook W k).isSome = (W.map (·.1)).any (fun x => decide (x = k)) := by
  unfold wLook
  rw [Option.isSome_map]
  induction W with
  | nil => rfl
  | cons p l ih =>
    rw [List.map_cons, List.any_cons]
    by_cases e : p.1 = k
    · rw [List.find?_cons_of_pos (by simpa using e), decide_eq_true e]; rfl
    · rw [List.find?_cons_of_neg (by simpa using e), decide_eq_false e, Bool.false_or]; exact ih
theorem any_look {kvs : List (Str × Value)} {W : List (Str × List Int)} (h : kvs.map (·.1) = W.map (·.1)) (k : Str) : kvs.any (fun p => decide (p.1 = k)) = (wLook W k).isSome := by
  rw [look_any, ← h, List.any_map]; rfl
theorem valueAt_any {kvs : List (Str × Value)} {k : Str} (h : kvs.any (fun p => decide (p.1 = k)) = true) : (valueAt kvs k).isSome = true := by
  unfold valueAt
  rw [Option.isSome_map, List.find?_isSome]
  obtain ⟨p, hp, e⟩ := List.any_eq_true.mp h
  exact ⟨p, hp, by simpa using e⟩
theorem valueAt_none {kvs : List (Str × Value)} {k : Str} (h : kvs.any (fun p => decide (p.1 = k)) = false) : valueAt kvs k = none := by
  unfold valueAt
  rw [Option.map_eq_none_iff, List.find?_eq_none]
  intro p hp e
  have := List.any_eq_false.mp h p hp
  exact this (by simpa using e)
theorem one_obj {prog : Program} {w : World} {k0 : Str} {t : Tok} {ep : Nat} {tb : SetTable} (hf : tb.fits 1 = true) : ObjSet (PySem.strKind prog w) { cls := .type "set", dict := none, data := .set #[((PySem.strKind prog w).hash k0, .str k0 t)] ep tb } (fun k => decide (k = k0)) :=
  ⟨1, fun h a ha => ⟨_, _, ep, tb, ha, ⟨rfl, rfl, rfl⟩, rfl, (fun e he => by
      have he' : e = ((PySem.strKind prog w).hash k0, .str k0 t) := by simpa using he
      subst he'
      exact ⟨⟨k0, strKind_is prog w k0 t, rfl⟩, rfl⟩), (fun k => by
      simp only [decide_eq_true_eq]
      constructor
      · rintro rfl
        exact ⟨((PySem.strKind prog w).hash k, .str k t), List.mem_singleton.mpr rfl, strKind_is prog w k t⟩
      · rintro ⟨e, he, hk⟩
        have he' : e = ((PySem.strKind prog w).hash k0, .str k0 t) := by simpa using he
        subst he'
        exact (PySem.strKind prog w).inj _ k k0 hk (strKind_is prog w k0 t)), by show 1 < scanBound; decide, hf, rfl⟩⟩
theorem none_obj {prog : Program} {w : World} {ep : Nat} {tb : SetTable} (hf : tb.fits 0 = true) : ObjSet (PySem.strKind prog w) { cls := .type "set", dict := none, data := .set #[] ep tb } (fun _ => false) :=
  ⟨0, fun h a ha => ⟨_, _, ep, tb, ha, ⟨rfl, rfl, rfl⟩, rfl, (fun e he => nomatch he), (fun k => by simp), by show 0 < scanBound; decide, hf, rfl⟩⟩
theorem chg_third {a b : Addr × Obj} {d : Addr} {o o' : Obj} {r : List (Addr × Obj)} (ha : a.1 ≠ d) (hb : b.1 ≠ d) (hr : ∀ p ∈ r, p.1 ≠ d) : (a :: b :: (d, o) :: r).map (chg d o') = a :: b :: (d, o') :: r := by
  rw [List.map_cons, List.map_cons, List.map_cons, chg_ne ha, chg_ne hb, chg_off hr]
  show _ :: _ :: (if d = d then (d, o') else (d, o)) :: r = _
  rw [if_pos rfl]
theorem chg_second {a : Addr × Obj} {d : Addr} {o o' : Obj} {r : List (Addr × Obj)} (ha : a.1 ≠ d) (hr : ∀ p ∈ r, p.1 ≠ d) : (a :: (d, o) :: r).map (chg d o') = a :: (d, o') :: r := by
  rw [List.map_cons, List.map_cons, chg_ne ha, chg_off hr]
  show _ :: (if d = d then (d, o') else (d, o)) :: r = _
  rw [if_pos rfl]
theorem fr_kept {h₀ h h' : Heap} {L : Addr} {m : Str → Option Value} (F : Fr h₀ L h m) (k : Kept h h') : Fr h₀ L h' m := ⟨F.ns.keeps k, fun b o e => k b o (F.keep b o e), F.above⟩
theorem news_kept {h₀ h h' : Heap} {L : Addr} {news : List (Addr × Obj)} (N : News h₀ L h news) (k : Kept h h') : News h₀ L h' news := fun p hp => ⟨k _ _ (N p hp).1, (N p hp).2⟩
section
variable {prog : Program} {w : World} {A : Around} {E : Value → Shared → Prop} {s : Shared} {env : Env} {h₀ : Heap} {x : Str} {body : List Stmt} {Q : Flow → Shared → Prop}
theorem for_keys {σ : Type} {K : Type} [DecidableEq K] {knd : KeyKind prog w K} {v d : Addr} {o : Obj} {kvs : List (K × Value)} {m₀ : Str → Option Value} (Led : σ → List (Addr × Obj)) (ps : σ → List (Str × Value)) (stored : List Str) (Inv : Nat → σ → Prop) (Fin : σ → Prop) (c₀ : σ)
    (hh : A.handled = none) (hv : s.heap.get? v = some { cls := .type "dict_keys", data := .fields #[.ref d] }) (hD : o.IsDictOf knd kvs) (hdL : d ≠ env.locals) (src : ∀ c, (d, o) ∈ Led c) (F : Fr h₀ env.locals s.heap m₀) (N : News h₀ env.locals s.heap (Led c₀)) (hk : ∀ p ∈ ps c₀, m₀ p.1 = some p.2) (hinv : Inv 0 c₀)
    (turn : ∀ I i k y v c (u : Str → Option Value) h tk oI, kvs[i]? = some (k, y) → knd.is k v = true → Inv i c → (∀ p ∈ Led c, p.1 ≠ I) → Fr h₀ env.locals h (fun y => if y = x then some v else kstB (fun z => if stored.contains z then u z else m₀ z) (ps c) y) → News h₀ env.locals h (Led c ++ [(I, oI)]) →
      wpAny (model prog w) A (execs body env) (TPost h₀ env.locals I x Led ps stored m₀ (Inv (i + 1)) Fin [(I, oI)] { s with heap := h, toks := tk } Q) E { s with heap := h, toks := tk })
    (fin : ∀ c, Inv kvs.length c → Fin c)
    (done : ∀ c (u : Str → Option Value) h tk, Fin c → Fr h₀ env.locals h (fun y => if y = x then u y else kstB (fun z => if stored.contains z then u z else m₀ z) (ps c) y) → News h₀ env.locals h (Led c) → Q .next { s with heap := h, toks := tk }) :
    wpAny (model prog w) A (pyIter (.ref v)) (fun it s₂ => LoopAtV prog w A h₀ env x body Q E it s₂) E s := by
  have hod := (N (d, o) (src c₀)).1
  obtain ⟨es, ep, hex, hdat, hp, hkk, hn⟩ := id hD
  have hAt : s.heap.DictAt knd d kvs ep := ⟨o, es, hod, hex, hdat, hp, hkk, hn⟩
  refine kdl_pyIter_keys (knd := knd) ⟨_, hv, rfl, rfl⟩ hAt ?_
  have W := Walks.dictKeys (prog := prog) (w := w) (knd := knd) hh s.heap.objs.size d (Nat.ne_of_lt (Heap.lt_size hod)) kvs ep
  refine for_walk Led ps stored Inv Fin c₀ W ?_ (next_is_new F) ?_ ?_ ?_ ⟨⟨_, Heap.get?_push_size _ rfl, rfl, rfl⟩, hAt.at' fun o e => Heap.get?_push_of_some _ e⟩ (F.push _) (fun p hp => ⟨Heap.get?_push_of_some _ (N p hp).1, (N p hp).2⟩) hk hinv ?_ fin done
  · intro hm
    rcases List.mem_cons.mp hm with e | hm
    · exact absurd F.ns.lt (e ▸ Nat.lt_irrefl _)
    · exact hdL (List.mem_singleton.mp hm).symm
  · rintro i h ⟨⟨o, ho, _⟩, _⟩
    exact ⟨o, ho⟩
  · intro b hb hne
    rcases List.mem_cons.mp hb with e | hm
    · exact absurd e hne
    · rw [List.mem_singleton.mp hm]; exact .inr ⟨o, src⟩
  · intro p hp e
    exact absurd (Heap.lt_size (N p hp).1) (e ▸ Nat.lt_irrefl _)
  · rintro i v c u h tk oI hi ⟨k, y, hxy, hkv⟩ hv hoff F₁ N₁
    exact turn _ i k y v c u h tk oI hxy hkv hv hoff F₁ N₁
theorem for_set {σ : Type} {sa : Addr} {o : Obj} {es : Array (Int × Value)} {ep : Nat} {tb : SetTable} {m₀ : Str → Option Value} (Led : σ → List (Addr × Obj)) (ps : σ → List (Str × Value)) (stored : List Str) (Inv : Nat → σ → Prop) (Fin : σ → Prop) (c₀ : σ)
    (hh : A.handled = none) (hc : o.cls = .type "set") (hd : o.data = .set es ep tb) (hf : tb.fits es.size = true) (h1 : es.size ≤ 1) (hled : tb.led = (!byText w)) (hdL : sa ≠ env.locals) (src : ∀ c, (sa, o) ∈ Led c) (F : Fr h₀ env.locals s.heap m₀) (N : News h₀ env.locals s.heap (Led c₀)) (hk : ∀ p ∈ ps c₀, m₀ p.1 = some p.2) (hinv : Inv 0 c₀)
    (turn : ∀ I hs v c (u : Str → Option Value) h tk oI, es = #[(hs, v)] → Inv 0 c → (∀ p ∈ Led c, p.1 ≠ I) → Fr h₀ env.locals h (fun y => if y = x then some v else kstB (fun z => if stored.contains z then u z else m₀ z) (ps c) y) → News h₀ env.locals h (Led c ++ [(I, oI)]) →
      wpAny (model prog w) A (execs body env) (TPost h₀ env.locals I x Led ps stored m₀ (Inv 1) Fin [(I, oI)] { s with heap := h, toks := tk } Q) E { s with heap := h, toks := tk })
    (fin : ∀ c, Inv es.size c → Fin c)
    (done : ∀ c (u : Str → Option Value) h tk, Fin c → Fr h₀ env.locals h (fun y => if y = x then u y else kstB (fun z => if stored.contains z then u z else m₀ z) (ps c) y) → News h₀ env.locals h (Led c) → Q .next { s with heap := h, toks := tk }) :
    wpAny (model prog w) A (pyIter (.ref sa)) (fun it s₂ => LoopAtV prog w A h₀ env x body Q E it s₂) E s := by
  have hod := (N (sa, o) (src c₀)).1
  refine iter_set hod hc hd hf h1 ?_
  have W := walks_set (prog := prog) (w := w) hh s.heap.objs.size sa (Nat.ne_of_lt (Heap.lt_size hod)) hd hf h1 hled
  refine for_walk Led ps stored Inv Fin c₀ W ?_ (next_is_new F) ?_ ?_ ?_ ⟨Nat.zero_le _, Heap.get?_push_of_some _ hod, 0, (fun _ => rfl), (fun h => by cases h), Heap.get?_push_size _ rfl⟩ (F.push _) (fun p hp => ⟨Heap.get?_push_of_some _ (N p hp).1, (N p hp).2⟩) hk hinv ?_ fin done
  · intro hm
    rcases List.mem_cons.mp hm with e | hm
    · exact absurd F.ns.lt (e ▸ Nat.lt_irrefl _)
    · exact hdL (List.mem_singleton.mp hm).symm
  · rintro i h ⟨_, _, _, _, _, e⟩
    exact ⟨_, e⟩
  · intro b hb hne
    rcases List.mem_cons.mp hb with e | hm
    · exact absurd e hne
    · rw [List.mem_singleton.mp hm]; exact .inr ⟨o, src⟩
  · intro p hp e
    exact absurd (Heap.lt_size (N p hp).1) (e ▸ Nat.lt_irrefl _)
  · rintro i v c u h tk oI hi ⟨rfl, hs, he⟩ hv hoff F₁ N₁
    exact turn _ hs v c u h tk oI he hv hoff F₁ N₁
end
section
variable {prog : Program} {w : World} {A : Around} {E : Value → Shared → Prop} {s : Shared} {h₀ : Heap} {L : Addr} {m : Str → Option Value} {news : List (Addr × Obj)} {o : Obj} {d : Addr}
theorem r_delitem {K : Type} [DecidableEq K] {knd : KeyKind prog w K} {kvs : List (K × Value)} {k : K} {key : Value} {Q : Unit → Shared → Prop} (F : Fr h₀ L s.heap m) (N : News h₀ L s.heap news) (hm : (d, o) ∈ news) (hd : o.IsDictOf knd kvs) (hkey : knd.is k key = true) (hl : (valueAt kvs k).isSome = true) (hsz : kvs.length ≤ sizeLine)
    (h : ∀ h' o', Fr h₀ L h' m → News h₀ L h' (news.map (chg d o')) → o'.IsDictOf knd (without kvs k) → Q () { s with heap := h', toks := s.toks + 1 }) : wpAny (model prog w) A (delItem (.ref d) key) Q E s := by
  have z := N _ hm
  have hD : s.heap.DictOf knd d kvs := Heap.dictOf_iff.mpr ⟨o, z.1, hd⟩
  unfold delItem
  try with_reducible refine wpAny_holding ?_
  refine wpAny_bind (wpAny_sequenceKey hD.typeIs (by decide) ?_)
  refine wpAny_bind (wpAny_callSpecial?_slot (name := Str.ofString "__delitem__") hD.typeIs PySem.F.slot_dict_delitem
    (call_meetsIn PySem.F.slot_dict_delitem hD.typeIs PySem.F.entry_dict_delitem (PySem.F.args_dict_delitem_2 _ _) (meets_dict_delitem_pairs knd d hkey) ⟨kvs, hD, hsz, hl, fun h' hmm hs => ?_⟩))
  obtain ⟨o', ho', hd'⟩ := Heap.dictOf_iff.mp hmm
  refine wpAny_pure (h h' o' (F.change hs z.2.1 z.2.2) (fun p hp => ?_) hd')
  obtain ⟨q, hq, rfl⟩ := List.mem_map.mp hp
  unfold chg
  split
  · exact ⟨ho', z.2⟩
  · rename_i hne
    exact ⟨(hs.2 q.1 hne).trans (N q hq).1, (N q hq).2⟩
theorem r_keys {kvs : List (Str × Value)} {Q : Value → Shared → Prop} (F : Fr h₀ L s.heap m) (N : News h₀ L s.heap news) (hm : (d, o) ∈ news) (hd : o.IsDictOf (strKind prog w) kvs) (lo : (d == sysModules) = false)
    (h : ∀ v h', Fr h₀ L h' m → News h₀ L h' ((v, { cls := .type "dict_keys", data := .fields #[.ref d] }) :: news) → (∀ p ∈ news, p.1 < v) → Q (.ref v) { s with heap := h' }) : wpAny (model prog w) A (call (.builtin "dict.keys") [.ref d]) Q E s := by
  have hD : s.heap.DictOf (strKind prog w) d kvs := Heap.dictOf_iff.mpr ⟨o, (N _ hm).1, hd⟩
  exact call_meetsIn PySem.F.slot_dict_keys hD.typeIs PySem.F.entry_dict_keys (PySem.F.args_dict_keys_1 _) (kdl_meets_keys (strKind prog w) d lo) ⟨⟨kvs, hD⟩, h _ _ (F.push _) (N.push F _) fun p hp => Heap.lt_size (N p hp).1⟩
theorem r_callWith_fn {pos : Pos} {u : Addr} {jo : Obj} {env : Env} {e : Expr} {rest : List Expr} {Q : Value → Shared → Prop} (hfo : IsFnObj jo)
    (h : wpAny (model prog w) A (spliced (backTo pos (starEach (e :: rest) env))) (fun vs s₁ => s₁.heap.get? u = some jo ∧ wpAny (model prog w) A (call (.ref u) ([] ++ vs)) Q E s₁) E s)
    (he : starEach (e :: rest) env = (false, eval e env) :: starEach rest env := by rfl) (hplain : (backTo pos (starEach rest env)).any (·.1) = false := by rfl) :
    wpAny (model prog w) A (callWith pos (.ref u) [] (backTo pos (starEach (e :: rest) env)) []) Q E s := by
  rw [he] at h ⊢
  have hp : ((backTo pos ((false, eval e env) :: starEach rest env)).any (·.1)) = false := by show (false || (backTo pos (starEach rest env)).any (·.1)) = false; rw [hplain]; rfl
  unfold callWith
  refine wpAny_bind (wpAny_holding (wpAny_mono (evalArgs_plain (Q := fun (x : Args) s₁ => s₁.heap.get? u = some jo ∧ wpAny (model prog w) A (call (.ref u) ([] ++ x.pos) x.kw) Q E s₁) h) (fun x s₁ h₁ => wpAny_bind (wpAny_standAt ?_)) fun _ _ x => x))
  obtain ⟨ho, hcall⟩ := h₁
  simp only [hp, List.any_nil, Bool.or_false]
  refine wpAny_bind (m := keeperOf (.ref u)) ?_
  unfold keeperOf
  obtain ⟨hcls, fd, hfd⟩ := hfo
  refine wpAny_bind (wpAny_load ho ?_)
  rw [hfd]
  refine wpAny_pure ?_
  dsimp only
  split
  · exact wpAny_bind (wpAny_mono hcall (fun r s₂ hr => wpAny_bind (wpAny_holding (wpAny_point (wpAny_pure hr)))) fun _ _ x => x)
  · exact wpAny_bind (wpAny_mono (Calls.wpAny_keep hcall) (fun r s₂ hr => wpAny_bind (wpAny_holding (wpAny_point (wpAny_pure hr)))) fun _ _ x => x)
end
end Mine
end
section
open PySem PySem.W PySem.Calls PyProof.Rows
namespace Mine
noncomputable def Halt' (p : Prop) : Prop := p
theorem Halt'.mk {p : Prop} (h : Halt' p) : p := h
end Mine
end
section
open PySem PySem.W PySem.Calls PyProof.Rows
set_option maxRecDepth 100000
namespace Mine
local macro_rules | `(tactic| walk_at "call builtin:dict.setdefault") => `(tactic| ((refine Halt'.mk ?_)))
local macro_rules | `(tactic| walk_at "call type:enumerate") => `(tactic| ((refine Halt'.mk ?_)))
local macro_rules | `(tactic| walk_at "pyIter ref") => `(tactic| (k_here; (with_reducible refine Halt'.mk ?_)))
local macro_rules | `(tactic| walk_at "exec For Tuple Call cons nil") => `(tactic| ((refine Halt'.mk ?_)))
local macro_rules | `(tactic| k_all) => `(tactic| (with_reducible assumption))
local macro_rules | `(tactic| walk_at "call type:set nil nil") => `(tactic| (k_here; (have jF' : JunkFn _ _ _ _ _ _ _ _ := (by assumption)); (clear jF'); (with_reducible show wpAny _ _ (call (Value.type "set") []) _ _ _); (refine' r_newset ?F ?N ?_; (case F => k_asm); (case N => k_asm); intro d' h' F' N' l1; (try k_lt l1))))
local macro_rules | `(tactic| walk_at "truthy ref") => `(tactic| (k_here; (with_reducible show wpAny _ _ (truthy (Value.ref ja)) _ _ _); exact Halt'.mk ?_))
local macro_rules | `(tactic| walk_at "call builtin:dict.keys") => `(tactic| (k_here; (with_reducible show wpAny _ _ (call (Value.builtin _) [_]) _ _ _); refine' r_keys ?F ?N ?M ?D ?lo ?_; (case F => k_asm); (case N => k_asm); (case M => k_mem); (case D => with_reducible assumption); (case lo => with_reducible assumption); intro v' h' F' N' l1; (try k_lt l1)))
set_option maxRecDepth 100000 in
set_option maxHeartbeats 40000000 in
theorem chain_c (w : World) (p : Program) (loose : List Str) (mean : ExcName → Option Value) (mg mb : Str → Option Value) 
   (fr : List Env) (base : Heap) (s : Shared) (x y : Str) (t1 t2 : Tok) (self dd : Addr) (jv : Value) (k1 k2 k3 k4 k5 k6 k7 : Tok)
    (Q E : Value → Shared → Prop) 
    (C : Cx (AA 3 fr) fr w (KK w.params) p loose mean mg mb base s.heap [(self, instObj 242 dd), (dd, dictOf [en w.params "isjunk" k1 jv, en w.params "a" k2 (.str x t1), en w.params "b" k3 (.str y t2), en w.params "autojunk" k4 (.bool true), en w.params "matching_blocks" k5 .none, en w.params "opcodes" k6 .none, en w.params "fullbcount" k7 .none] 7)])
    (hy : y.length = 10) (hsd : @LT.lt Nat _ dd self)
    (J : Bool) (jl : List (Addr × Obj)) (hjl : ∀ q ∈ jl, s.heap.get? q.1 = some q.2 ∧ q.1 ≠ self ∧ q.1 ≠ dd)
    (hj : (jv = .none ∧ J = false) ∨ (∃ ja jo, jv = .ref ja ∧ J = true ∧ IsFnObj jo ∧ (ja, jo) ∈ jl ∧ JunkFn w p loose mean mg mb ja jl))
    (ret : ∀ h' tk' bd bj bp od os k8 k9 k10 kvs, (∀ b o, b ≠ dd → s.heap.get? b = some o → h'.get? b = some o) → s.heap.get? bd = none → s.heap.get? bj = none →
      h'.get? dd = some (dictOf [en w.params "isjunk" k1 jv, en w.params "a" k2 (.str x t1), en w.params "b" k3 (.str y t2), en w.params "autojunk" k4 (.bool true), en w.params "matching_blocks" k5 .none, en w.params "opcodes" k6 .none, en w.params "fullbcount" k7 .none, en w.params "b2j" k8 (.ref bd), en w.params "bjunk" k9 (.ref bj), en w.params "bpopular" k10 (.ref bp)] 10) →
      h'.get? bd = some od → h'.get? bj = some os → od.IsDictOf (PySem.strKind PySem.Challenge.rw_oy0507_01.row.prog w) kvs → IsSetObj os → ObjSet (PySem.strKind PySem.Challenge.rw_oy0507_01.row.prog w) os (junkOf J y) → (bd == sysModules) = false → bd ≠ bj →
      (∀ k, (valueAt kvs k = none ∧ rowOf J y k = []) ∨ ∃ z vs nn, valueAt kvs k = some (.ref z) ∧ h'.get? z = some (listOf vs nn) ∧ z ≠ self ∧ z ≠ dd ∧ z ≠ bd ∧ z ≠ bj ∧ IntsAre vs.toList (rowOf J y k)) →
      Q .none { s with heap := h', toks := tk' }) :
    wpAny (model PP w) (AA 3 fr) (call (.ref 188) [.ref self]) Q E s := by
  unfold KK at C
  unfold PP
  revert C
  k_fill
  intro C
  obtain ⟨B, X, T, N⟩ := C
  obtain ⟨hh, g, d, t, os⟩ := s
  refine wpAny_call ?_
  refine' enterP ?k1 ?k2 ?k3 ?kN ?k6 ?k7 ?k8 ?k9 ?kB ?_ ?c2 ?c3 ?c4 ?c5; (case k1 => exact B); (case k2 => exact X); (case k3 => exact T); (case kN => exact N); (case k6 => k_is); (case k7 => k_is); (case k8 => exact Nat.le_of_ble_eq_true rfl); (case k9 => first | exact BindsTo.of_eq rfl | exact binds_K (K := Mine.kK w.params) (X.keeps fun b o e => of_hideAll _ e) rfl (by k_is) rfl rfl rfl); (case c5 => decide); (case kB => exact locs rfl); (case c2 => exact rfl); (case c3 => exact rfl); (case c4 => exact rfl); intro g' L' h' hg' F' N' B' X' T' lt'; (try dsimp only); (try k_fold)
  unfold en at N'
  simp only [List.forall_mem_cons, List.not_mem_nil, false_implies, implies_true, and_true] at lt'
  obtain ⟨l1, l2⟩ := lt'
  k_steps
  unfold Halt'
  refine wpAny_For ?_
  k_steps
  unfold Halt'
  rename_i h3 bd h2 od lo hs fs hi fi lB h1 h0 F1 N1
  obtain ⟨k8, N1⟩ : ∃ k8, News g' L' h0 [(bd, od), (self, instObj 242 dd), (dd, dictOf [en w.params "isjunk" k1 jv, en w.params "a" k2 (.str x t1), en w.params "b" k3 (.str y t2), en w.params "autojunk" k4 (.bool true), en w.params "matching_blocks" k5 .none, en w.params "opcodes" k6 .none, en w.params "fullbcount" k7 .none, en w.params "b2j" k8 (.ref bd)] 8)] := ⟨_, N1⟩
  clear fs fi hi
  refine enum_str_loop (σ := Obj × List (Str × Value) × List (Addr × Obj)) (fun c => [(bd, c.1), (self, instObj 242 dd), (dd, dictOf [en w.params "isjunk" k1 jv, en w.params "a" k2 (.str x t1), en w.params "b" k3 (.str y t2), en w.params "autojunk" k4 (.bool true), en w.params "matching_blocks" k5 .none, en w.params "opcodes" k6 .none, en w.params "fullbcount" k7 .none, en w.params "b2j" k8 (.ref bd)] 8)] ++ c.2.2) (fun _ => []) ["indices"]
    (fun i c => c.1.IsDictOf (PySem.strKind PySem.Challenge.rw_oy0507_01.row.prog w) c.2.1 ∧ IdxPairs c.2.1 c.2.2 (wOf y i) ∧ (∀ p ∈ c.2.2, @LT.lt Nat _ bd p.1) ∧ (c.2.2.map (·.1)).Nodup) (od, [], []) rfl rfl rfl rfl F1 N1 ?hk ⟨hs, .nil, fun _ h => (nomatch h), List.nodup_nil⟩ ?turn ?done
  case hk => exact fun _ h => nomatch h
  case turn =>
    intro I J i cp ti tv
    refine pr3 fun o1 kvs objs u hx tk own hJ hi hcp hcI hnw hown hsee F2 NQ => ?_
    refine opq fun Qm hQm => ?_
    obtain ⟨hd, hix, hbd, hnd⟩ := hcI
    dsimp only at hd hix hbd hnd F2 NQ
    dsimp only [List.cons_append, List.nil_append] at NQ
    obtain ⟨oD, hoD, N2⟩ := hide2 NQ
    clear NQ
    clear F1 N1
    k_steps
    unfold Halt'
    rename_i la ha2 F3 N3 lla
    have hsg : sgn y i = ⟨#[cp]⟩ := by
      unfold sgn
      rw [Array.getD_eq_getD_getElem?, hcp]
      rfl
    have hlen : kvs.length ≤ 1000 := by
      rw [hix.len]
      exact Nat.le_trans (wOf_len y i) (by omega)
    have hbI : bd ∉ [J, I] := hnw (bd, o1) (.head _)
    rcases hix.look (sgn y i) with ⟨e1, e2⟩ | ⟨a, vs, nn, js, e1, e2, e3, e4⟩
    · rw [hsg] at e1
      refine r_setd_new (knd := PySem.strKind PySem.Challenge.rw_oy0507_01.row.prog w) F3 (news_swap N3) ?r2 hd lo (strKind_is _ _ _ _) e1 hlen ?_
      case r2 =>
        intro p hp
        rcases List.mem_cons.mp hp with h | h
        · subst h; exact Nat.ne_of_gt lla.1
        · rcases List.mem_cons.mp h with h | h
          · subst h; exact Nat.ne_of_lt lB.1
          · rcases List.mem_cons.mp h with h | h
            · subst h; exact Nat.ne_of_lt lB.2
            · rcases List.mem_append.mp h with h | h
              · exact Nat.ne_of_gt (hbd p h)
              · exact fun e => hbI (e ▸ hown p h)
      intro h9 o9 F9 N9 hd9
      clear F3 N3
      k_steps
      rename_i hb9 tkb hc9 Fz Nz
      have hlw : la ∉ [J, I] := fun hq => by
        obtain ⟨oq, hoq⟩ := hsee la hq
        exact absurd (allLt_mem lla.2.2.2 (la, oq) (List.mem_append_right _ hoq)) (Nat.lt_irrefl _)
      have hob : ∀ p ∈ objs, @LT.lt Nat _ p.1 la := fun p hp => allLt_mem lla.2.2.2 p (List.mem_append_left _ hp)
      subst hoD
      refine hQm _ _ ?_
      refine PTurn.intro (o9, kvs ++ [(⟨#[cp]⟩, .ref la)], objs ++ [(la, PySem.W.listOf (#[].push (.int i ti)) (0 + 1))]) Fz Nz ?hs ?hI ?hk ?hr ⟨hd9, ?hi1, ?hi2, ?hi3⟩
      case hs => exact led_new
      case hI =>
        intro p hp
        rcases List.mem_append.mp (led_perm hp) with h | h
        · rcases List.mem_cons.mp h with h | h
          · rw [h]; exact hbI
          · exact hnw p (.tail _ h)
        · rw [List.mem_singleton.mp h]; exact hlw
      case hk => exact fun _ h => nomatch h
      case hr =>
        intro z h1 h2 _ h3
        simp only [List.contains_cons, List.contains_nil, Bool.or_false, beq_eq_false_iff_ne, ne_eq] at h3
        simp [kstB, h1, h2, h3]
      case hi1 =>
        rw [wOf, hsg, wAdd, ← hsg, e2, hsg]
        exact hix.snoc _ _ (IntsAre.cons _ _ IntsAre.nil)
      case hi2 =>
        intro p hp
        rcases List.mem_append.mp hp with h | h
        · exact hbd p h
        · rw [List.mem_singleton.mp h]; exact lla.1
      case hi3 =>
        rw [List.map_append, List.nodup_append]
        refine ⟨hnd, by simp, ?_⟩
        intro a ha b hb
        rw [List.map_singleton, List.mem_singleton] at hb
        subst hb
        obtain ⟨q, hq, rfl⟩ := List.mem_map.mp ha
        exact Nat.ne_of_lt (hob q hq)
    · rw [hsg] at e1
      refine r_setd_there (knd := PySem.strKind PySem.Challenge.rw_oy0507_01.row.prog w) N3 (.tail _ (.head _)) hd lo (strKind_is _ _ _ _) e1 hlen ?_
      k_steps
      rename_i hq Fq Nq
      have hba : @LT.lt Nat _ bd a := hbd _ e2
      have haw : a ∉ [J, I] := hnw (a, PySem.W.listOf vs nn) (.tail _ (.tail _ (.tail _ e2)))
      have hvs : vs.size ≤ sizeLine := by
        have e5 := e3.length
        have e6 : js.length ≤ 1000 := Nat.le_trans (wLook_len e4) (Nat.le_trans (wOf_tot y i) (by omega))
        rw [Array.length_toList] at e5
        rw [sizeLine_eq]; omega
      refine getMethod_append_N Nq (.tail _ (.tail _ (.tail _ (.tail _ (List.mem_append_left _ e2))))) ?_
      k_steps
      rename_i hq2
      refine r_append_in Fq Nq (.tail _ (.tail _ (.tail _ (.tail _ (List.mem_append_left _ e2))))) hvs ?_
      intro h9 F9 N9
      k_steps
      subst hoD
      refine hQm _ _ ?_
      refine PTurn.intro (o1, kvs, objs.map (chg a (PySem.W.listOf (vs.push (.int i ti)) (nn + 1)))) F9 N9 ?hs ?hI ?hk ?hr ⟨hd, ?hi1, ?hi2, ?hi3⟩
      case hs => exact led_chg (Nat.ne_of_lt hba) (Nat.ne_of_lt (Nat.lt_trans lB.1 hba)) (Nat.ne_of_lt (Nat.lt_trans lB.2 hba)) (fun p hp e => haw (e ▸ hown p hp))
      case hI =>
        intro p hp
        rcases List.mem_cons.mp hp with h | h
        · rw [h]; exact hbI
        · rcases List.mem_cons.mp h with h | h
          · exact hnw p (h ▸ .tail _ (.head _))
          · rcases List.mem_cons.mp h with h | h
            · exact hnw p (h ▸ .tail _ (.tail _ (.head _)))
            · obtain ⟨q, hq, rfl⟩ := List.mem_map.mp h
              rw [chg_fst]
              exact hnw q (.tail _ (.tail _ (.tail _ hq)))
      case hk => exact fun _ h => nomatch h
      case hr =>
        intro z h1 h2 _ h3
        simp only [List.contains_cons, List.contains_nil, Bool.or_false, beq_eq_false_iff_ne, ne_eq] at h3
        simp [kstB, h1, h2, h3]
      case hi1 =>
        rw [wOf, wAdd, e4, hsg]
        exact hix.put (by rw [hix.keys]; exact wOf_keys y i) hnd e1 e2
      case hi2 =>
        intro p hp
        obtain ⟨q, hq, rfl⟩ := List.mem_map.mp hp
        rw [chg_fst]
        exact hbd q hq
      case hi3 =>
        rw [chg_map_fst]
        exact hnd
  case done =>
    refine pr3 fun o1 kvs objs u h9 tk9 hcI F9 N9 => ?_
    have hd := hcI.1
    have hix := hcI.2.1
    have hbd := hcI.2.2.1
    have hnd := hcI.2.2.2
    clear hcI
    dsimp only at hd hix hbd hnd F9 N9
    clear F1 N1
    unfold en at N9
    dsimp only [List.cons_append, List.nil_append] at N9
    have hod : ∀ p ∈ objs, p.1 ≠ dd := fun p hp => Nat.ne_of_gt (Nat.lt_trans lB.2 (hbd p hp))
    rcases hj with ⟨rfl, rfl⟩ | ⟨ja, jo, rfl, rfl, hfo, hjm, hjf⟩
    · k_steps
      rename_i bj h7 led7 hs7 hz7 l7 h6 F6 N6 h5 h4 tk1 bp h3 led3 hs3 hz3 l3 h2 h1 hz Fz Nz tkz
      have hself := N (self, instObj 242 dd) (.head _)
      have hl10 : wOf y y.length = wOf y 10 := by rw [hy]
      rw [hl10] at hix
      have Nd := fun p hp => Nz p (.tail _ (.tail _ hp))
      refine ret hz _ bd bj bp o1 _ _ _ _ kvs (kept_but hg' Fz hself (Nz (self, _) (.tail _ (.tail _ (.tail _ (.head _))))).1) (fresh_of hg' (Nz (bd, _) (.tail _ (.tail _ (.head _)))).2.2 (Nat.ne_of_gt lB.1) (Nat.ne_of_gt lB.2)) (fresh_of hg' (Nz (bj, _) (.tail _ (.head _))).2.2 (Nat.ne_of_gt l7.2.1) (Nat.ne_of_gt l7.2.2.1)) (Nz (dd, _) (.tail _ (.tail _ (.tail _ (.tail _ (.head _)))))).1 (Nz (bd, _) (.tail _ (.tail _ (.head _)))).1 (Nz (bj, _) (.tail _ (.head _))).1 hd ⟨rfl, rfl, _, _, _, rfl⟩ ⟨0, fun h a ha => ?_⟩ lo (Nat.ne_of_lt l7.1) (rows_of hix (fun k => by simp) fun p hp => ⟨(Nz p (.tail _ (.tail _ (.tail _ (.tail _ (.tail _ hp)))))).1, Nat.ne_of_gt (Nat.lt_trans lB.1 (hbd p hp)), hod p hp, Nat.ne_of_gt (hbd p hp), Nat.ne_of_lt (allLt_mem l7.2.2.2 p hp)⟩)
      exact hz7.setOf ha (by decide)
    · k_steps
      rename_i bj hx1 l7 hx2 Fx2 Nx2 hx3 h5 F5 N5
      have hjg : ∀ q ∈ jl, g'.get? q.1 = some q.2 := fun q hq => by
        have h8 := hjl q hq
        rw [hg']
        exact hideAll_get _ h8.1 (by simp [h8.2.1, h8.2.2])
      have hja := hjg _ hjm
      refine truthy_fn ⟨jo, F5.keep _ _ hja, hfo.1⟩ ?_
      rw [if_pos rfl]
      k_steps
      unfold Halt'
      rename_i lF5 dv h6 F6 N6 l6
      obtain ⟨k9, N6⟩ : ∃ k9, News g' L' h6 ((dv, { cls := .type "dict_keys", data := .fields #[.ref bd] }) :: (bj, setObj0 w) :: (bd, o1) :: (self, instObj 242 dd) :: (dd, dictOf [en w.params "isjunk" k1 (.ref ja), en w.params "a" k2 (.str x t1), en w.params "b" k3 (.str y t2), en w.params "autojunk" k4 (.bool true), en w.params "matching_blocks" k5 .none, en w.params "opcodes" k6 .none, en w.params "fullbcount" k7 .none, en w.params "b2j" k8 (.ref bd), en w.params "bjunk" k9 (.ref bj)] 9) :: objs) := ⟨_, N6⟩
      clear Fx2 Nx2 lF5 N5
      refine for_keys (σ := Obj) (knd := PySem.strKind PySem.Challenge.rw_oy0507_01.row.prog w) (kvs := kvs) (o := o1) (fun c => (dv, { cls := .type "dict_keys", data := .fields #[.ref bd] }) :: (bj, c) :: (bd, o1) :: (self, instObj 242 dd) :: (dd, dictOf [en w.params "isjunk" k1 (.ref ja), en w.params "a" k2 (.str x t1), en w.params "b" k3 (.str y t2), en w.params "autojunk" k4 (.bool true), en w.params "matching_blocks" k5 .none, en w.params "opcodes" k6 .none, en w.params "fullbcount" k7 .none, en w.params "b2j" k8 (.ref bd), en w.params "bjunk" k9 (.ref bj)] 9) :: objs)
        (fun _ => []) [] (fun i c => if (kvs.take i).any (fun p => decide (p.1 = dashS)) = true then OneSet PySem.Challenge.rw_oy0507_01.row.prog w c dashS else c = setObj0 w)
        (fun c => if kvs.any (fun p => decide (p.1 = dashS)) = true then OneSet PySem.Challenge.rw_oy0507_01.row.prog w c dashS else c = setObj0 w)
        (setObj0 w) rfl (N6 _ (.head _)).1 hd (N6 (bd, o1) (.tail _ (.tail _ (.head _)))).2.1 (fun c => .tail _ (.tail _ (.head _))) F6 N6 (fun _ h => nomatch h) (by simp) ?turn_chJ (fun c h => by rwa [List.take_length] at h) ?done_chJ
      case turn_chJ =>
        have hkn : (kvs.map (·.1)).Nodup := by rw [hix.keys]; exact wOf_keys y y.length
        rintro I i k yv v c u hq tkq oI hky hkv hinv hoff Fq Nq
        obtain ⟨tv, rfl⟩ : ∃ tv, v = .str k tv := strKind_inv hkv
        refine opq fun Qm hQm => ?_
        try dsimp only at Fq
        revert Nq
        intro NQ
        try dsimp only [List.cons_append, List.nil_append] at NQ
        obtain ⟨oD, hoD, Nq⟩ := hide4 NQ
        clear NQ
        clear F6 N6
        k_steps
        refine r_callWith_fn hfo ?_
        k_steps
        all_goals try exact Fq.keep _ _ hja
        show wpAny _ _ (call (.ref ja) [.str k tv]) _ _ _
        refine any_le (A := AA 4 (_ :: fr)) (hjf _ base _ k tv _ _ [] (Cx.of B' Fq Nq X' T' (fun _ h => nomatch h) rfl rfl) (fun q hq => Fq.keep _ _ (hjg q hq)) (fun hz tkz hkz => ?_)) rfl ?depth_chJ rfl rfl ?units_chJ
        case depth_chJ => (try simp only [depth_under_make, depth_under_kw, depth_in1, depth_deeper, depth_caller]); decide
        case units_chJ => first | k_units | exact Nat.le_of_ble_eq_true rfl
        have Fz := fr_kept Fq hkz
        have Nz := news_kept Nq hkz
        clear Fq Nq
        by_cases hkd : k = dashS
        · rw [decide_eq_true hkd]
          subst hkd
          have hno : (kvs.take i).any (fun p => decide (p.1 = dashS)) = false := no_before hkn hky
          rw [hno] at hinv
          simp only [Bool.false_eq_true, if_false] at hinv
          subst hinv
          k_steps
          refine getMethod_builtin (T := "set") ⟨_, (Nz (bj, setObj0 w) (.tail _ (.head _))).1, rfl⟩ F.plainAttrs_set F.slot_set_add F.type_set_add (fun b e => ?_) ?_
          · injection e with e; subst e; exact ⟨_, (Nz (bj, setObj0 w) (.tail _ (.head _))).1, rfl⟩
          k_steps
          refine r_add_first (by assumption) (by assumption) (.tail _ (.head _)) ?_
          intro h9 o9 F9 N9 hone
          rw [chg_second (Nat.ne_of_gt l6.1) (List.forall_mem_cons.mpr ⟨Nat.ne_of_lt l7.1, List.forall_mem_cons.mpr ⟨Nat.ne_of_lt l7.2.1, List.forall_mem_cons.mpr ⟨Nat.ne_of_lt l7.2.2.1, fun p hp => ?off_chJ⟩⟩⟩)] at N9
          case off_chJ =>
            rcases List.mem_append.mp hp with h | h
            · exact Nat.ne_of_lt (allLt_mem l7.2.2.2 p h)
            · rw [List.mem_singleton.mp h]
              exact fun e => hoff (bj, setObj0 w) (.tail _ (.head _)) e.symm
          k_steps
          subst hoD
          refine hQm _ _ ?_
          refine TEnd.intro o9 (by assumption) (by assumption) ?hs_chJ (off_of hoff rfl) (fun _ h => nomatch h) ?hr_chJ ?hi_chJ
          case hs_chJ => kst_in
          case hr_chJ => exact fun z h1 _ _ => by simp [kstB, h1]
          case hi_chJ =>
            rw [any_next _ hky, decide_eq_true rfl, Bool.or_true]
            exact hone
        · rw [decide_eq_false hkd]
          k_steps
          subst hoD
          refine hQm _ _ ?_
          refine TEnd.intro c (by assumption) (by assumption) ?hs_chJ (fun p hp => hoff p hp) (fun _ h => nomatch h) ?hr_chJ ?hi_chJ
          case hs_chJ => kst_in
          case hr_chJ => exact fun z h1 _ _ => by simp [kstB, h1]
          case hi_chJ =>
            rw [any_next _ hky, decide_eq_false hkd, Bool.or_false]
            exact hinv
      case done_chJ =>
        rintro c u hq tkq hfin Fq Nq
        rename_i uz4 N6z5
        unfold en at Nq
        try dsimp only [List.cons_append, List.nil_append] at Nq
        show wpAny _ _ _ _ _ _
        k_steps
        with_unfolding_all refine' For_invVF Fq ?k1_chJDone ?k2_chJDone ?_
        case k1_chJDone => exact rfl
        case k2_chJDone => exact rfl
        k_steps
        unfold Halt'
        have hset : ∃ es ep tb, c = ({ cls := .type "set", dict := none, data := .set es ep tb } : Obj) ∧ tb.fits es.size = true ∧ es.size ≤ 1 ∧ tb.led = (!byText w) ∧
            ((kvs.any (fun p => decide (p.1 = dashS)) = true ∧ ∃ t, es = #[((PySem.strKind PySem.Challenge.rw_oy0507_01.row.prog w).hash dashS, .str dashS t)]) ∨ (kvs.any (fun p => decide (p.1 = dashS)) = false ∧ es = #[])) := by
          cases hany : kvs.any (fun p => decide (p.1 = dashS)) with
          | true =>
            rw [hany, if_pos rfl] at hfin
            obtain ⟨t, ep, tb, e1, e2, e3⟩ := hfin
            exact ⟨_, ep, tb, e1, e3, Nat.le_refl _, e2, .inl ⟨rfl, t, rfl⟩⟩
          | false =>
            rw [hany, if_neg (by decide)] at hfin
            exact ⟨#[], 0, _, hfin, rfl, Nat.zero_le _, rfl, .inr ⟨rfl, rfl⟩⟩
        obtain ⟨es, ep, tb, rfl, hfit, hes1, hled, hwhich⟩ := hset
        refine for_set (σ := Obj) (fun c => (dv, { cls := .type "dict_keys", data := .fields #[.ref bd] }) :: (bj, { cls := .type "set", dict := none, data := .set es ep tb }) :: (bd, c) :: (self, instObj 242 dd) :: (dd, dictOf [en w.params "isjunk" k1 (.ref ja), en w.params "a" k2 (.str x t1), en w.params "b" k3 (.str y t2), en w.params "autojunk" k4 (.bool true), en w.params "matching_blocks" k5 .none, en w.params "opcodes" k6 .none, en w.params "fullbcount" k7 .none, en w.params "b2j" k8 (.ref bd), en w.params "bjunk" k9 (.ref bj)] 9) :: objs)
          (fun _ => []) [] (fun i c => (i = 0 → c.IsDictOf (PySem.strKind PySem.Challenge.rw_oy0507_01.row.prog w) kvs) ∧ (i = 1 → c.IsDictOf (PySem.strKind PySem.Challenge.rw_oy0507_01.row.prog w) (without kvs dashS)))
          (fun c => (es.size = 0 → c.IsDictOf (PySem.strKind PySem.Challenge.rw_oy0507_01.row.prog w) kvs) ∧ (es.size = 1 → c.IsDictOf (PySem.strKind PySem.Challenge.rw_oy0507_01.row.prog w) (without kvs dashS)))
          o1 rfl rfl rfl hfit hes1 hled (Nq (bj, _) (.tail _ (.head _))).2.1 (fun c => .tail _ (.head _)) Fq Nq (fun _ h => nomatch h) ⟨fun _ => hd, fun h => by cases h⟩ ?turn_chJDone (fun c h => h) ?done_chJDone
        case turn_chJDone =>
          rintro I hs v c uz4 hr tkr oI hev hinv hoff Fr Nr
          have hdc := hinv.1 rfl
          have hany : kvs.any (fun p => decide (p.1 = dashS)) = true ∧ ∃ t, v = .str dashS t := by
            rcases hwhich with ⟨h, t, he⟩ | ⟨_, he⟩
            · rw [he] at hev
              simp only [Array.mk.injEq, List.cons.injEq, Prod.mk.injEq, and_true] at hev
              exact ⟨h, t, hev.2.symm⟩
            · rw [he] at hev
              cases hev
          obtain ⟨hany, tv, rfl⟩ := hany
          refine opq fun Qm hQm => ?_
          revert Nr
          intro NQ
          try dsimp only [List.cons_append, List.nil_append] at NQ
          obtain ⟨oD, hoD, Nr⟩ := hide4 NQ
          clear NQ
          clear Fq Nq
          k_steps
          refine r_delitem (knd := PySem.strKind PySem.Challenge.rw_oy0507_01.row.prog w) (by assumption) (by assumption) (.tail _ (.tail _ (.head _))) hdc (strKind_is _ _ _ _) (valueAt_any hany) (by rw [hix.len, sizeLine_eq]; have := wOf_len y y.length; omega) ?_
          intro h9 o9 F9 N9 hd9
          rw [chg_third (Nat.ne_of_gt l6.2.1) (Nat.ne_of_gt l7.1) (List.forall_mem_cons.mpr ⟨Nat.ne_of_lt lB.1, List.forall_mem_cons.mpr ⟨Nat.ne_of_lt lB.2, fun p hp => ?off_chJDone⟩⟩)] at N9
          case off_chJDone =>
            rcases List.mem_append.mp hp with h | h
            · exact Nat.ne_of_gt (hbd p h)
            · rw [List.mem_singleton.mp h]
              exact fun e => hoff (bd, c) (.tail _ (.tail _ (.head _))) e.symm
          k_steps
          subst hoD
          refine hQm _ _ ?_
          refine TEnd.intro o9 (by assumption) (by assumption) ?hs_chJDone (off_of hoff rfl) (fun _ h => nomatch h) ?hr_chJDone ⟨(fun h => by cases h), fun _ => hd9⟩
          case hs_chJDone => kst_in
          case hr_chJDone => exact fun z h1 _ _ => by simp [kstB, h1]
        case done_chJDone =>
          rintro c uz4 hr tkr hfin2 Fr Nr
          rename_i uz6
          unfold en at Nr
          try dsimp only [List.cons_append, List.nil_append] at Nr
          clear Fq Nq F6 N6z5
          show wpAny _ _ _ _ _ _
          k_steps
          rename_i bp hb1 l3 hb2 Fb Nb hb3 hz Fz Nz tkz
          have hself := N (self, instObj 242 dd) (.head _)
          have hl10 : wOf y y.length = wOf y 10 := by rw [hy]
          rw [hl10] at hix
          have hlook := any_look hix.keys dashS
          have fin : ∀ kvs' S, c.IsDictOf (PySem.strKind PySem.Challenge.rw_oy0507_01.row.prog w) kvs' → ObjSet (PySem.strKind PySem.Challenge.rw_oy0507_01.row.prog w) { cls := .type "set", dict := none, data := .set es ep tb } S → S = junkOf true y → (∀ k, valueAt kvs' k = if true = true ∧ k = dashS then none else valueAt kvs k) → Q .none { heap := hz, gens := g, drawn := d, toks := tk, os := os } := by
            rintro kvs' S hdk hS rfl hv
            exact ret hz _ bd bj bp c _ _ _ _ kvs' (kept_but hg' Fz hself (Nz (self, _) (.tail _ (.tail _ (.tail _ (.tail _ (.head _)))))).1) (fresh_of hg' (Nz (bd, _) (.tail _ (.tail _ (.tail _ (.head _))))).2.2 (Nat.ne_of_gt lB.1) (Nat.ne_of_gt lB.2)) (fresh_of hg' (Nz (bj, _) (.tail _ (.tail _ (.head _)))).2.2 (Nat.ne_of_gt l7.2.1) (Nat.ne_of_gt l7.2.2.1)) (Nz (dd, _) (.tail _ (.tail _ (.tail _ (.tail _ (.tail _ (.head _))))))).1 (Nz (bd, _) (.tail _ (.tail _ (.tail _ (.head _))))).1 (Nz (bj, _) (.tail _ (.tail _ (.head _)))).1 hdk ⟨rfl, rfl, _, _, _, rfl⟩ hS lo (Nat.ne_of_lt l7.1) (rows_of hix hv fun p hp => ⟨(Nz p (.tail _ (.tail _ (.tail _ (.tail _ (.tail _ (.tail _ hp))))))).1, Nat.ne_of_gt (Nat.lt_trans lB.1 (hbd p hp)), hod p hp, Nat.ne_of_gt (hbd p hp), Nat.ne_of_lt (allLt_mem l7.2.2.2 p hp)⟩)
          rcases hwhich with ⟨hany, tq, rfl⟩ | ⟨hany, rfl⟩
          · rw [hany] at hlook
            refine fin (without kvs dashS) _ (hfin2.2 rfl) (one_obj hfit) ?_ (fun k => by rw [valueAt_without]; simp)
            funext k
            unfold junkOf
            by_cases e : k = dashS
            · subst e; simp [← hlook]
            · simp [e]
          · rw [hany] at hlook
            refine fin kvs _ (hfin2.1 rfl) (none_obj hfit) ?_ (fun k => ?_)
            · funext k
              unfold junkOf
              by_cases e : k = dashS
              · subst e; simp [← hlook]
              · simp [e]
            · by_cases e : k = dashS
              · subst e; rw [if_pos ⟨rfl, rfl⟩]; exact valueAt_none hany
              · rw [if_neg (fun h => e h.2)]
end Mine
end
section
open PySem PySem.W PySem.Calls PyProof.Rows
namespace Mine
noncomputable def Halt2 (p : Prop) : Prop := p
theorem Halt2.mk {p : Prop} (h : Halt2 p) : p := h
local macro_rules | `(tactic| walk_at "call type:enumerate") => `(tactic| (refine Halt2.mk ?_))
local macro_rules | `(tactic| walk_at "exec For Tuple Call cons nil") => `(tactic| ((refine Halt2.mk ?_)))
local macro_rules | `(tactic| walk_at "pyIter ref") => `(tactic| (k_here; (with_reducible refine Halt2.mk ?_)))
local macro_rules | `(tactic| walk_at "exec For Tuple Call") => `(tactic| ((refine Halt2.mk ?_)))
noncomputable def modeTab : List (List (Int × Str)) := [[(40960, Str.ofString "l"), (49152, Str.ofString "s"), (32768, Str.ofString "-"), (24576, Str.ofString "b"), (16384, Str.ofString "d"), (8192, Str.ofString "c"), (4096, Str.ofString "p")], [(256, Str.ofString "r")], [(128, Str.ofString "w")], [(2112, Str.ofString "s"), (2048, Str.ofString "S"), (64, Str.ofString "x")], [(32, Str.ofString "r")], [(16, Str.ofString "w")], [(1032, Str.ofString "s"), (1024, Str.ofString "S"), (8, Str.ofString "x")], [(4, Str.ofString "r")], [(2, Str.ofString "w")], [(513, Str.ofString "t"), (512, Str.ofString "T"), (1, Str.ofString "x")]]
noncomputable def rowSign (mode : Int) : List (Int × Str) → Str
  | [] => Str.ofString "-"
  | e :: r => if Builtin.bitAnd mode e.1 = e.1 then e.2 else rowSign mode r
/-- the nine signs of the rights, as filemode reckons them -/
noncomputable def nineSigns (mode : Int) : List Str := (modeTab.drop 1).map (rowSign mode)
noncomputable def RowIn (g : Heap) (v : Value) (es : List (Int × Str)) : Prop := ∃ (T : Addr) (items : Array Value), v = Value.ref T ∧ g.IsTuple T items ∧ items.size = es.length ∧ ∀ (j : Nat) (v' : Value), items[j]? = some v' → ∃ (T' : Addr) (b : Int) (c : Str) (t0 t1 : Tok), v' = Value.ref T' ∧ g.IsTuple T' #[.int b t0, .str c t1] ∧ es[j]? = some (b, c)
theorem rowSign_hit {mode : Int} : ∀ {es : List (Int × Str)} {j : Nat} {b : Int} {c : Str}, es[j]? = some (b, c) → (∀ k, k < j → ∀ e, es[k]? = some e → Builtin.bitAnd mode e.1 ≠ e.1) → Builtin.bitAnd mode b = b → rowSign mode es = c
  | [], j, _, _, h, _, _ => by simp at h
  | e :: r, 0, b, c, h, _, hb => by
    rw [List.getElem?_cons_zero] at h
    obtain rfl := Option.some.inj h
    exact if_pos hb
  | e :: r, j + 1, b, c, h, hn, hb => by
    rw [List.getElem?_cons_succ] at h
    rw [rowSign, if_neg (hn 0 (Nat.succ_pos j) e rfl)]
    exact rowSign_hit h (fun k hk e' he => hn (k + 1) (Nat.succ_lt_succ hk) e' (by rw [List.getElem?_cons_succ]; exact he)) hb
theorem rowSign_miss {mode : Int} : ∀ {es : List (Int × Str)}, (∀ k, k < es.length → ∀ e, es[k]? = some e → Builtin.bitAnd mode e.1 ≠ e.1) → rowSign mode es = Str.ofString "-"
  | [], _ => rfl
  | e :: r, hn => by
    rw [rowSign, if_neg (hn 0 (Nat.succ_pos _) e rfl)]
    exact rowSign_miss fun k hk e' he => hn (k + 1) (Nat.succ_lt_succ hk) e' (by rw [List.getElem?_cons_succ]; exact he)
end Mine
end
section
open PySem PySem.W PySem.Calls PyProof.Rows
namespace Mine
theorem chg_first {d : Addr} {o o' : Obj} {r : List (Addr × Obj)} (hr : ∀ p ∈ r, p.1 ≠ d) : ((d, o) :: r).map (chg d o') = (d, o') :: r := by
  rw [List.map_cons, chg_off hr]
  show (if d = d then (d, o') else (d, o)) :: r = _
  rw [if_pos rfl]
theorem take_next {mode : Int} {k0 : Str} {i : Nat} {es : List (Int × Str)} (hi : 1 ≤ i) (hes : modeTab[i]? = some es) : (k0 :: nineSigns mode).take (i + 1) = (k0 :: nineSigns mode).take i ++ [rowSign mode es] := by
  rw [List.take_add_one]
  congr 1
  obtain ⟨j, rfl⟩ : ∃ j, i = j + 1 := ⟨i - 1, by omega⟩
  rw [List.getElem?_cons_succ]
  unfold nineSigns
  rw [List.getElem?_map, List.getElem?_drop, Nat.add_comm 1 j, hes]
  rfl
theorem tab0_len {es : List (Int × Str)} (h : modeTab[0]? = some es) : ∀ e ∈ es, e.2.length = 1 := by
  obtain rfl := Option.some.inj h
  decide
end Mine
end
section
open PySem PySem.W PySem.Calls PyProof.Rows
namespace Mine
local macro_rules | `(tactic| walk_at "call builtin:str.join") => `(tactic| (refine Halt2.mk ?_))
theorem sign_one {mode : Int} : ∀ {es : List (Int × Str)}, (∀ e ∈ es, e.2.length = 1) → (rowSign mode es).length = 1
  | [], _ => rfl
  | e :: r, h => by
    unfold rowSign
    split
    · exact h e (.head _)
    · exact sign_one fun x hx => h x (.tail _ hx)
theorem nine_one {mode : Int} : ∀ a ∈ nineSigns mode, a.length = 1 := by
  intro a ha
  obtain ⟨es, hes, rfl⟩ := List.mem_map.mp ha
  refine sign_one ?_
  have : ∀ es ∈ modeTab.drop 1, ∀ e ∈ es, e.2.length = 1 := by decide
  exact this es hes
end Mine
end
section
open PySem PySem.W PySem.Calls PyProof.Rows
set_option maxRecDepth 100000
namespace Mine
local macro_rules | `(tactic| walk_at "call type:enumerate") => `(tactic| (refine Halt2.mk ?_))
local macro_rules | `(tactic| walk_at "exec For Tuple Call cons nil") => `(tactic| ((refine Halt2.mk ?_)))
local macro_rules | `(tactic| walk_at "pyIter ref") => `(tactic| (k_here; (with_reducible refine Halt2.mk ?_)))
local macro_rules | `(tactic| walk_at "exec For Tuple Call") => `(tactic| ((refine Halt2.mk ?_)))
local macro_rules | `(tactic| walk_at "call builtin:list.append") => `(tactic| (refine Halt2.mk ?_))
local macro_rules | `(tactic| walk_at "call builtin:str.join") => `(tactic| (refine Halt2.mk ?_))
set_option maxRecDepth 100000 in
set_option maxHeartbeats 40000000 in
theorem fmt_c (w : World) (p : Program) (loose : List Str) (mean : ExcName → Option Value) (mg mb : Str → Option Value) 
   (fr : List Env) (base : Heap) (s : Shared) (mode : Int) (tm : Tok)
    (Q E : Value → Shared → Prop) 
    (C : Cx (AA 3 fr) fr w (KK w.params) p loose mean mg mb base s.heap []) (h0 : 0 ≤ mode) (h1 : mode < 65536)
    (ret : ∀ (k0 : Str) h' tk' tt, k0.length = 1 → Kept s.heap h' → Q (.str (Txt.join (Str.ofString "") (k0 :: nineSigns mode)) tt) { s with heap := h', toks := tk' }) :
    wpAny (model PP w) (AA 3 fr) (call (.ref 293) [.int mode tm]) Q E s := by
  unfold KK at C
  unfold PP
  revert C
  k_fill
  intro C
  obtain ⟨B, X, T, N⟩ := C
  obtain ⟨hh, g, d, t, os⟩ := s
  refine wpAny_call ?_
  refine' enterP ?k1 ?k2 ?k3 ?kN ?k6 ?k7 ?k8 ?k9 ?kB ?_ ?c2 ?c3 ?c4 ?c5; (case k1 => exact B); (case k2 => exact X); (case k3 => exact T); (case kN => exact N); (case k6 => k_is); (case k7 => k_is); (case k8 => exact Nat.le_of_ble_eq_true rfl); (case k9 => first | exact BindsTo.of_eq rfl | exact binds_K (K := Mine.kK w.params) (X.keeps fun b o e => of_hideAll _ e) rfl (by k_is) rfl rfl rfl); (case c5 => decide); (case kB => exact locs rfl); (case c2 => exact rfl); (case c3 => exact rfl); (case c4 => exact rfl); intro g' L' h' hg' F' N' B' X' T' lt'; (try dsimp only); (try k_fold)
  clear lt'
  k_steps
  unfold Halt2
  refine wpAny_For ?_
  k_steps
  unfold Halt2
  rename_i pl h2 l2 h1 F1 N1
  have hO := X' 286 _ (by k_is)
  refine enum_tuple_loop (σ := Array Value × Nat) (items := #[.ref 261, .ref 263, .ref 265, .ref 269, .ref 271, .ref 273, .ref 277, .ref 279, .ref 281, .ref 285]) (fun c => [(pl, PySem.W.listOf c.1 c.2)]) (fun _ => []) ["bit", "char"]
    (fun i c => ∃ k0 : Str, k0.length = 1 ∧ CarriedAll c.1.toList ((List.take i (k0 :: nineSigns mode)).map PyData.str)) (#[], 0) rfl rfl rfl rfl ⟨_, hO, rfl, _, rfl⟩ F1 N1 ?hk ⟨⟨#[0]⟩, rfl, .nil⟩ ?turn ?done
  case hk => exact fun _ h => nomatch h
  case turn =>
    intro I J i v ti
    refine pr2 fun ps np u hx tk own hJ hv hcI hnw hown hsee F2 N2 => ?_
    refine opq fun Qm hQm => ?_
    obtain ⟨k0, hk0, hc⟩ := hcI
    dsimp only at hc F2 N2
    dsimp only [List.cons_append, List.nil_append] at N2
    clear F1 N1
    have hi : i < 10 := by
      rcases Nat.lt_or_ge i 10 with h | h
      · exact h
      · rw [Array.getElem?_eq_none (by simpa using h)] at hv; cases hv
    have hrow : ∃ es, modeTab[i]? = some es ∧ RowIn g' v es := by
      clear hnw hown hsee F2 N2 hc
      rcases (by omega : i = 0 ∨ i = 1 ∨ i = 2 ∨ i = 3 ∨ i = 4 ∨ i = 5 ∨ i = 6 ∨ i = 7 ∨ i = 8 ∨ i = 9) with rfl | rfl | rfl | rfl | rfl | rfl | rfl | rfl | rfl | rfl
      · obtain rfl : v = .ref 261 := (Option.some.inj hv).symm
        have hR0 := X' 261 _ (by k_is)
        refine ⟨_, rfl, 261, #[.ref 254, .ref 255, .ref 256, .ref 257, .ref 258, .ref 259, .ref 260], rfl, ⟨_, hR0, rfl, _, rfl⟩, rfl, fun j v' hj => ?_⟩
        have hjl : j < 7 := by
          rcases Nat.lt_or_ge j 7 with h | h
          · exact h
          · rw [Array.getElem?_eq_none (by simpa using h)] at hj; cases hj
        rcases (by omega : j = 0 ∨ j = 1 ∨ j = 2 ∨ j = 3 ∨ j = 4 ∨ j = 5 ∨ j = 6) with rfl | rfl | rfl | rfl | rfl | rfl | rfl
        all_goals (obtain rfl := Option.some.inj hj)
        · have hP0 := X' 254 _ (by k_is)
          exact ⟨254, _, _, _, _, rfl, ⟨_, hP0, rfl, _, rfl⟩, rfl⟩
        · have hP0 := X' 255 _ (by k_is)
          exact ⟨255, _, _, _, _, rfl, ⟨_, hP0, rfl, _, rfl⟩, rfl⟩
        · have hP0 := X' 256 _ (by k_is)
          exact ⟨256, _, _, _, _, rfl, ⟨_, hP0, rfl, _, rfl⟩, rfl⟩
        · have hP0 := X' 257 _ (by k_is)
          exact ⟨257, _, _, _, _, rfl, ⟨_, hP0, rfl, _, rfl⟩, rfl⟩
        · have hP0 := X' 258 _ (by k_is)
          exact ⟨258, _, _, _, _, rfl, ⟨_, hP0, rfl, _, rfl⟩, rfl⟩
        · have hP0 := X' 259 _ (by k_is)
          exact ⟨259, _, _, _, _, rfl, ⟨_, hP0, rfl, _, rfl⟩, rfl⟩
        · have hP0 := X' 260 _ (by k_is)
          exact ⟨260, _, _, _, _, rfl, ⟨_, hP0, rfl, _, rfl⟩, rfl⟩
      · obtain rfl : v = .ref 263 := (Option.some.inj hv).symm
        have hR0 := X' 263 _ (by k_is)
        refine ⟨_, rfl, 263, #[.ref 262], rfl, ⟨_, hR0, rfl, _, rfl⟩, rfl, fun j v' hj => ?_⟩
        have hjl : j < 1 := by
          rcases Nat.lt_or_ge j 1 with h | h
          · exact h
          · rw [Array.getElem?_eq_none (by simpa using h)] at hj; cases hj
        rcases (by omega : j = 0) with rfl
        all_goals (obtain rfl := Option.some.inj hj)
        · have hP0 := X' 262 _ (by k_is)
          exact ⟨262, _, _, _, _, rfl, ⟨_, hP0, rfl, _, rfl⟩, rfl⟩
      · obtain rfl : v = .ref 265 := (Option.some.inj hv).symm
        have hR0 := X' 265 _ (by k_is)
        refine ⟨_, rfl, 265, #[.ref 264], rfl, ⟨_, hR0, rfl, _, rfl⟩, rfl, fun j v' hj => ?_⟩
        have hjl : j < 1 := by
          rcases Nat.lt_or_ge j 1 with h | h
          · exact h
          · rw [Array.getElem?_eq_none (by simpa using h)] at hj; cases hj
        rcases (by omega : j = 0) with rfl
        all_goals (obtain rfl := Option.some.inj hj)
        · have hP0 := X' 264 _ (by k_is)
          exact ⟨264, _, _, _, _, rfl, ⟨_, hP0, rfl, _, rfl⟩, rfl⟩
      · obtain rfl : v = .ref 269 := (Option.some.inj hv).symm
        have hR0 := X' 269 _ (by k_is)
        refine ⟨_, rfl, 269, #[.ref 266, .ref 267, .ref 268], rfl, ⟨_, hR0, rfl, _, rfl⟩, rfl, fun j v' hj => ?_⟩
        have hjl : j < 3 := by
          rcases Nat.lt_or_ge j 3 with h | h
          · exact h
          · rw [Array.getElem?_eq_none (by simpa using h)] at hj; cases hj
        rcases (by omega : j = 0 ∨ j = 1 ∨ j = 2) with rfl | rfl | rfl
        all_goals (obtain rfl := Option.some.inj hj)
        · have hP0 := X' 266 _ (by k_is)
          exact ⟨266, _, _, _, _, rfl, ⟨_, hP0, rfl, _, rfl⟩, rfl⟩
        · have hP0 := X' 267 _ (by k_is)
          exact ⟨267, _, _, _, _, rfl, ⟨_, hP0, rfl, _, rfl⟩, rfl⟩
        · have hP0 := X' 268 _ (by k_is)
          exact ⟨268, _, _, _, _, rfl, ⟨_, hP0, rfl, _, rfl⟩, rfl⟩
      · obtain rfl : v = .ref 271 := (Option.some.inj hv).symm
        have hR0 := X' 271 _ (by k_is)
        refine ⟨_, rfl, 271, #[.ref 270], rfl, ⟨_, hR0, rfl, _, rfl⟩, rfl, fun j v' hj => ?_⟩
        have hjl : j < 1 := by
          rcases Nat.lt_or_ge j 1 with h | h
          · exact h
          · rw [Array.getElem?_eq_none (by simpa using h)] at hj; cases hj
        rcases (by omega : j = 0) with rfl
        all_goals (obtain rfl := Option.some.inj hj)
        · have hP0 := X' 270 _ (by k_is)
          exact ⟨270, _, _, _, _, rfl, ⟨_, hP0, rfl, _, rfl⟩, rfl⟩
      · obtain rfl : v = .ref 273 := (Option.some.inj hv).symm
        have hR0 := X' 273 _ (by k_is)
        refine ⟨_, rfl, 273, #[.ref 272], rfl, ⟨_, hR0, rfl, _, rfl⟩, rfl, fun j v' hj => ?_⟩
        have hjl : j < 1 := by
          rcases Nat.lt_or_ge j 1 with h | h
          · exact h
          · rw [Array.getElem?_eq_none (by simpa using h)] at hj; cases hj
        rcases (by omega : j = 0) with rfl
        all_goals (obtain rfl := Option.some.inj hj)
        · have hP0 := X' 272 _ (by k_is)
          exact ⟨272, _, _, _, _, rfl, ⟨_, hP0, rfl, _, rfl⟩, rfl⟩
      · obtain rfl : v = .ref 277 := (Option.some.inj hv).symm
        have hR0 := X' 277 _ (by k_is)
        refine ⟨_, rfl, 277, #[.ref 274, .ref 275, .ref 276], rfl, ⟨_, hR0, rfl, _, rfl⟩, rfl, fun j v' hj => ?_⟩
        have hjl : j < 3 := by
          rcases Nat.lt_or_ge j 3 with h | h
          · exact h
          · rw [Array.getElem?_eq_none (by simpa using h)] at hj; cases hj
        rcases (by omega : j = 0 ∨ j = 1 ∨ j = 2) with rfl | rfl | rfl
        all_goals (obtain rfl := Option.some.inj hj)
        · have hP0 := X' 274 _ (by k_is)
          exact ⟨274, _, _, _, _, rfl, ⟨_, hP0, rfl, _, rfl⟩, rfl⟩
        · have hP0 := X' 275 _ (by k_is)
          exact ⟨275, _, _, _, _, rfl, ⟨_, hP0, rfl, _, rfl⟩, rfl⟩
        · have hP0 := X' 276 _ (by k_is)
          exact ⟨276, _, _, _, _, rfl, ⟨_, hP0, rfl, _, rfl⟩, rfl⟩
      · obtain rfl : v = .ref 279 := (Option.some.inj hv).symm
        have hR0 := X' 279 _ (by k_is)
        refine ⟨_, rfl, 279, #[.ref 278], rfl, ⟨_, hR0, rfl, _, rfl⟩, rfl, fun j v' hj => ?_⟩
        have hjl : j < 1 := by
          rcases Nat.lt_or_ge j 1 with h | h
          · exact h
          · rw [Array.getElem?_eq_none (by simpa using h)] at hj; cases hj
        rcases (by omega : j = 0) with rfl
        all_goals (obtain rfl := Option.some.inj hj)
        · have hP0 := X' 278 _ (by k_is)
          exact ⟨278, _, _, _, _, rfl, ⟨_, hP0, rfl, _, rfl⟩, rfl⟩
      · obtain rfl : v = .ref 281 := (Option.some.inj hv).symm
        have hR0 := X' 281 _ (by k_is)
        refine ⟨_, rfl, 281, #[.ref 280], rfl, ⟨_, hR0, rfl, _, rfl⟩, rfl, fun j v' hj => ?_⟩
        have hjl : j < 1 := by
          rcases Nat.lt_or_ge j 1 with h | h
          · exact h
          · rw [Array.getElem?_eq_none (by simpa using h)] at hj; cases hj
        rcases (by omega : j = 0) with rfl
        all_goals (obtain rfl := Option.some.inj hj)
        · have hP0 := X' 280 _ (by k_is)
          exact ⟨280, _, _, _, _, rfl, ⟨_, hP0, rfl, _, rfl⟩, rfl⟩
      · obtain rfl : v = .ref 285 := (Option.some.inj hv).symm
        have hR0 := X' 285 _ (by k_is)
        refine ⟨_, rfl, 285, #[.ref 282, .ref 283, .ref 284], rfl, ⟨_, hR0, rfl, _, rfl⟩, rfl, fun j v' hj => ?_⟩
        have hjl : j < 3 := by
          rcases Nat.lt_or_ge j 3 with h | h
          · exact h
          · rw [Array.getElem?_eq_none (by simpa using h)] at hj; cases hj
        rcases (by omega : j = 0 ∨ j = 1 ∨ j = 2) with rfl | rfl | rfl
        all_goals (obtain rfl := Option.some.inj hj)
        · have hP0 := X' 282 _ (by k_is)
          exact ⟨282, _, _, _, _, rfl, ⟨_, hP0, rfl, _, rfl⟩, rfl⟩
        · have hP0 := X' 283 _ (by k_is)
          exact ⟨283, _, _, _, _, rfl, ⟨_, hP0, rfl, _, rfl⟩, rfl⟩
        · have hP0 := X' 284 _ (by k_is)
          exact ⟨284, _, _, _, _, rfl, ⟨_, hP0, rfl, _, rfl⟩, rfl⟩
    obtain ⟨es, hes, T, ritems, rfl, hRT, hRs, hRe⟩ := hrow
    rename_i h1z7 Tz8 tkz9
    have hpw : pl ∉ [J, I] := hnw _ (.head _)
    have hown2 : ∀ p ∈ own, p.1 ≠ pl := fun p hp e => by
      have := hown p hp
      rw [e] at this
      rcases List.mem_cons.mp this with h | h
      · exact hpw (h ▸ .head _)
      · rcases List.mem_cons.mp h with h | h
        · exact hpw (h ▸ .tail _ (.head _))
        · have := (N2 (pl, _) (.head _)).2.2
          rw [List.mem_singleton.mp h, hO] at this
          cases this
    have hps : ps.size ≤ sizeLine := by
      have e1 := hc.length_eq
      rw [List.length_map, List.length_take, Array.length_toList] at e1
      rw [sizeLine_eq]; omega
    rcases Nat.eq_zero_or_pos i with rfl | hip
    · have hpe : ps.toList = [] := List.eq_nil_of_length_eq_zero hc.length_eq
      have hlen : ∀ (j : Nat) (b : Int) (c : Str), es[j]? = some (b, c) → c.length = 1 := fun j b c h => tab0_len hes _ (List.mem_of_getElem? h)
      k_steps
      refine wpAny_For ?_
      k_steps
      unfold Halt2
      refine tuple_else (P2 := fun j v0 v1 => ∃ b c t0 t1, v0 = .int b t0 ∧ v1 = .str c t1 ∧ es[j]? = some (b, c)) (fun _ => True) rfl rfl rfl rfl hRT ?pairs_fmTurn F2 N2 trivial ?turn2_fmTurn ?els_fmTurn
      case pairs_fmTurn =>
        intro j v' hj
        obtain ⟨T', b, c, t0, t1, e1, e2, e3⟩ := hRe j v' hj
        exact ⟨T', _, _, e1, e2, b, c, t0, t1, rfl, rfl, e3⟩
      case turn2_fmTurn =>
        rintro I2 j v0 v1 h3 tk3 oI hj ⟨b, c, t0, t1, rfl, rfl, hbc⟩ hC hnI F3 N3
        dsimp only [List.cons_append, List.nil_append] at N3
        clear F2 N2
        k_steps
        all_goals try (exfalso; omega)
        all_goals try unfold Halt2
        · refine r_append_in (by assumption) (by assumption) (.head _) hps ?_
          intro h9 F9 N9
          rw [chg_first (fun p hp => by
            rcases List.mem_append.mp hp with h | h
            · exact hown2 p h
            · rw [List.mem_singleton.mp h]; exact fun e => hnI (pl, _) (.head _) e.symm)] at N9
          k_steps
          refine hQm _ _ ?_
          refine PTurn.intro (ps.push (.str c t1), np + 1) (by assumption) (by assumption) ?hs_fmTurn (fun p hp => by rw [List.mem_singleton.mp hp]; exact hpw) (fun _ h => nomatch h) ?hr_fmTurn ⟨c, hlen _ _ _ hbc, ?hi_fmTurn⟩
          case hs_fmTurn =>
            intro p hp
            rcases List.mem_cons.mp hp with h | h
            · exact h ▸ .head _
            · exact .tail _ (List.mem_append_left _ h)
          case hr_fmTurn =>
            intro z h1z7 h2 _ h3
            simp only [List.contains_cons, List.contains_nil, Bool.or_false, Bool.or_eq_false_iff, beq_eq_false_iff_ne, ne_eq] at h3
            simp [kstB, h1z7, h2, h3]
          case hi_fmTurn =>
            rw [Array.toList_push, hpe]
            exact .cons (.str _ _) .nil
        · refine ENext.intro (by assumption) (by assumption) (fun z h1z7 h2 => by simp [h1z7, h2]) trivial
      case els_fmTurn =>
        intro u3 h3 tk3 hC F3 N3
        clear F2 N2
        k_steps
        all_goals try (exfalso; omega)
        all_goals try unfold Halt2
        generalize hqv : Value.str (Str.ofString "?") _ = qv
        refine r_append_in (by assumption) (by assumption) (.head _) hps ?_
        intro h9 F9 N9
        rw [chg_first hown2] at N9
        k_steps
        refine hQm _ _ ?_
        refine PTurn.intro (ps.push qv, np + 1) (by assumption) (by assumption) ?hs_fmTurn (fun p hp => by rw [List.mem_singleton.mp hp]; exact hpw) (fun _ h => nomatch h) ?hr_fmTurn ⟨Str.ofString "?", by decide, ?hi_fmTurn⟩
        case hs_fmTurn => exact fun p hp => hp
        case hr_fmTurn =>
          intro z h1z7 h2 _ h3
          simp only [List.contains_cons, List.contains_nil, Bool.or_false, Bool.or_eq_false_iff, beq_eq_false_iff_ne, ne_eq] at h3
          simp [kstB, h1z7, h2, h3]
        case hi_fmTurn =>
          rw [Array.toList_push, hpe]
          subst hqv
          exact .cons (.str _ _) .nil
    · k_steps
      refine wpAny_For ?_
      k_steps
      unfold Halt2
      refine tuple_else (P2 := fun j v0 v1 => ∃ b c t0 t1, v0 = .int b t0 ∧ v1 = .str c t1 ∧ es[j]? = some (b, c)) (fun j => ∀ k, k < j → ∀ e, es[k]? = some e → Builtin.bitAnd mode e.1 ≠ e.1) rfl rfl rfl rfl hRT ?pairs_fmTurn F2 N2 (fun k hk => absurd hk (Nat.not_lt_zero k)) ?turn2_fmTurn ?els_fmTurn
      case pairs_fmTurn =>
        intro j v' hj
        obtain ⟨T', b, c, t0, t1, e1, e2, e3⟩ := hRe j v' hj
        exact ⟨T', _, _, e1, e2, b, c, t0, t1, rfl, rfl, e3⟩
      case turn2_fmTurn =>
        rintro I2 j v0 v1 h3 tk3 oI hj ⟨b, c, t0, t1, rfl, rfl, hbc⟩ hC hnI F3 N3
        dsimp only [List.cons_append, List.nil_append] at N3
        clear F2 N2
        k_steps
        all_goals try (exfalso; omega)
        all_goals try unfold Halt2
        · have hsg : rowSign mode es = c := rowSign_hit hbc hC (by assumption)
          refine r_append_in (by assumption) (by assumption) (.head _) hps ?_
          intro h9 F9 N9
          rw [chg_first (fun p hp => by
            rcases List.mem_append.mp hp with h | h
            · exact hown2 p h
            · rw [List.mem_singleton.mp h]; exact fun e => hnI (pl, _) (.head _) e.symm)] at N9
          k_steps
          refine hQm _ _ ?_
          refine PTurn.intro (ps.push (.str c t1), np + 1) (by assumption) (by assumption) ?hs_fmTurn (fun p hp => by rw [List.mem_singleton.mp hp]; exact hpw) (fun _ h => nomatch h) ?hr_fmTurn ⟨k0, hk0, ?hi_fmTurn⟩
          case hs_fmTurn =>
            intro p hp
            rcases List.mem_cons.mp hp with h | h
            · exact h ▸ .head _
            · exact .tail _ (List.mem_append_left _ h)
          case hr_fmTurn =>
            intro z h1z7 h2 _ h3
            simp only [List.contains_cons, List.contains_nil, Bool.or_false, Bool.or_eq_false_iff, beq_eq_false_iff_ne, ne_eq] at h3
            simp [kstB, h1z7, h2, h3]
          case hi_fmTurn =>
            rw [take_next hip hes, hsg, List.map_append, Array.toList_push]
            exact hc.snoc (.str _ _)
        · refine ENext.intro (by assumption) (by assumption) (fun z h1z7 h2 => by simp [h1z7, h2]) ?hC
          intro k hk e he
          rcases Nat.lt_or_ge k j with h | h
          · exact hC k h e he
          · obtain rfl : k = j := by omega
            rw [hbc] at he
            obtain rfl := Option.some.inj he
            assumption
      case els_fmTurn =>
        intro u3 h3 tk3 hC F3 N3
        clear F2 N2
        k_steps
        all_goals try (exfalso; omega)
        all_goals try unfold Halt2
        have hsg : rowSign mode es = Str.ofString "-" := rowSign_miss (by rw [← hRs]; exact hC)
        generalize hqv : Value.str (Str.ofString "-") _ = qv
        refine r_append_in (by assumption) (by assumption) (.head _) hps ?_
        intro h9 F9 N9
        rw [chg_first hown2] at N9
        k_steps
        refine hQm _ _ ?_
        refine PTurn.intro (ps.push qv, np + 1) (by assumption) (by assumption) ?hs_fmTurn (fun p hp => by rw [List.mem_singleton.mp hp]; exact hpw) (fun _ h => nomatch h) ?hr_fmTurn ⟨k0, hk0, ?hi_fmTurn⟩
        case hs_fmTurn => exact fun p hp => hp
        case hr_fmTurn =>
          intro z h1z7 h2 _ h3
          simp only [List.contains_cons, List.contains_nil, Bool.or_false, Bool.or_eq_false_iff, beq_eq_false_iff_ne, ne_eq] at h3
          simp [kstB, h1z7, h2, h3]
        case hi_fmTurn =>
          rw [take_next hip hes, hsg, List.map_append, Array.toList_push]
          subst hqv
          exact hc.snoc (.str _ _)
  case done =>
    rintro c u hx tk ⟨k0, hk0, hc⟩ F2 N2
    rename_i h1z10 tkz11
    k_steps
    unfold Halt2
    (try dsimp only at hc N2)
    have hc' : CarriedAll c.1.toList ((k0 :: nineSigns mode).map fun a => PyData.str (id a)) := hc
    refine KT.join_1 (News.isList (by k_asm) (by k_mem)) hc' ?one_fmDone ?len_fmDone ?_
    case one_fmDone =>
      intro a ha
      rcases List.mem_cons.mp ha with rfl | h
      · exact hk0
      · exact nine_one a h
    case len_fmDone =>
      show (k0 :: (modeTab.drop 1).map (rowSign mode)).length ≤ _
      rw [List.length_cons, List.length_map]; decide
    intro tt kk hlen
    k_steps
    rw [List.map_id] at hlen ⊢
    exact ret k0 _ _ _ hk0 (kept_nil hg' F2)
end Mine
end
section
open PySem PySem.W PySem.Calls PyProof.Rows
namespace Mine
noncomputable def Halt3 (p : Prop) : Prop := p
theorem Halt3.mk {p : Prop} (h : Halt3 p) : p := h
local macro_rules | `(tactic| walk_at "pyIter ref") => `(tactic| (k_here; (with_reducible refine Halt3.mk ?_)))
/-- a hit: k numbers from i on in l, the same as from j on in r, and, with junk, none of them 0 -/
noncomputable def HitN (l r : List Int) (junk : Bool) (i j k : Nat) : Prop := 1 ≤ k ∧ i + k ≤ 6 ∧ j + k ≤ 6 ∧ (l.drop i).take k = (r.drop j).take k ∧ (junk = true → ¬ (0 : Int) ∈ (l.drop i).take k)
/-- what _law_first gives back -/
noncomputable def FirstN (l r : List Int) (junk : Bool) (i j k : Int) : Prop := (i = 0 ∧ j = 0 ∧ k = 0 ∧ ∀ i' j' k', ¬ HitN l r junk i' j' k') ∨
  ∃ i0 j0 k0 : Nat, i = i0 ∧ j = j0 ∧ k = k0 ∧ HitN l r junk i0 j0 k0 ∧ ∀ i' j' k', HitN l r junk i' j' k' → k' < k0 ∨ k' = k0 ∧ (i0 < i' ∨ i' = i0 ∧ j0 ≤ j')
end Mine
end
section
open PySem PySem.W PySem.Calls PyProof.Rows
namespace Mine
local macro_rules | `(tactic| walk_at "pyIter ref") => `(tactic| (k_here; (with_reducible refine Halt3.mk ?_)))
local macro_rules | `(tactic| walk_at "call type:range") => `(tactic| (k_here; (with_reducible show wpAny _ _ (call _ [Value.int _ _]) _ _ _); (rename Fr _ _ _ _ => F'); (rename News _ _ _ _ => N'); (with_unfolding_all refine range1_rows F' N' ?_; intro _ _ _ _ _ _ _ _ _)))
local macro_rules | `(tactic| kst_same) => `(tactic| (intro z h1 h2 h3; (simp only [List.forall_mem_cons, List.not_mem_nil, false_implies, implies_true, and_true, ne_eq] at h2); (simp only [List.contains_cons, List.contains_nil, Bool.or_false, Bool.or_eq_false_iff, beq_eq_false_iff_ne, ne_eq] at h3); (simp [kstB, h1, h2, h3]; done)))
theorem piece_eq {l : List Int} {n k : Nat} (hl : l.length = 6) (h : n + k ≤ 6) : List.take (min ((n : Int) + (k : Int)).toNat l.length - (n : Int).toNat) (List.drop (n : Int).toNat l) = (l.drop n).take k := by
  have e1 : ((n : Int) + (k : Int)).toNat = n + k := by omega
  have e2 : (n : Int).toNat = n := by omega
  rw [e1, e2, hl, Nat.min_eq_left h, Nat.add_sub_cancel_left]
theorem lf_ex {n0 : Nat} (h : n0 < 6) : ∃ k : Nat, (6 + (n0 : Int) * -1) = k ∧ 1 ≤ k ∧ k ≤ 6 ∧ k = 6 - n0 := ⟨6 - n0, by omega, by omega, by omega, rfl⟩
theorem lf_sm {k : Nat} (h1 : 1 ≤ k) (h6 : k ≤ 6) : Builtin.Range.small 0 (7 - (k : Int)) 1 = true := PySem.small_one (by decide) (by decide) (by omega) (by omega)
theorem lf_rs {k : Nat} (h1 : 1 ≤ k) (h6 : k ≤ 6) : Builtin.Range.rangeSize 0 (7 - (k : Int)) 1 = ((7 - k : Nat) : Int) := by
  unfold Builtin.Range.rangeSize
  simp
  omega
theorem lf_lt {n k : Nat} (h : n < 7 - k) : n + k ≤ 6 := by omega
theorem lf_lt' {n k : Nat} (h1 : 1 ≤ k) (h : n + k ≤ 6) : n < 7 - k := by omega
theorem lf_i1 (n : Nat) : (0 : Int) + (n : Int) * 1 = n := by omega
theorem lf_eq {i n : Nat} (h : i < n + 1) (h2 : n ≤ i) : i = n := by omega
theorem lf_hk {k n0 k' : Nat} (hkn : k = 6 - n0) (h : k < k') : 6 - n0 < k' := by omega
theorem lf_ke {k n0 k' : Nat} (hn : n0 < 6) (hkn : k = 6 - n0) (h1 : 6 - (n0 + 1) < k') (h2 : k' ≤ k) : k' = k := by omega
end Mine
end
section
open PySem PySem.W PySem.Calls PyProof.Rows
namespace Mine
local macro_rules | `(tactic| walk_at "pyIter ref") => `(tactic| (k_here; (with_reducible refine Halt3.mk ?_)))
local macro_rules | `(tactic| kst_same) => `(tactic| (intro z h1 h2 h3; (simp only [List.forall_mem_cons, List.not_mem_nil, false_implies, implies_true, and_true, ne_eq] at h2); (simp only [List.contains_cons, List.contains_nil, Bool.or_false, Bool.or_eq_false_iff, beq_eq_false_iff_ne, ne_eq] at h3); (simp [kstB, h1, h2, h3]; done)))
theorem kept_news {hh h' g' : Heap} {L : Addr} {m : Str → Option Value} {ns ns' : List (Addr × Obj)} (hg : g' = hideAll hh (ns.map (·.1))) (F : Fr g' L h' m) (N₀ : ∀ p ∈ ns, hh.get? p.1 = some p.2) (N : News g' L h' ns') (hs : ∀ p ∈ ns, p ∈ ns') : Kept hh h' := fun b o e => by
  by_cases hb : b ∈ ns.map (·.1)
  · obtain ⟨p, hp, rfl⟩ := List.mem_map.mp hb
    rw [N₀ p hp] at e
    obtain rfl := Option.some.inj e
    exact (N p (hs p hp)).1
  · exact F.keep b o (by rw [hg]; exact hideAll_get _ e hb)
theorem fresh_news {hh g' : Heap} {b : Addr} {ns : List (Addr × Obj)} (hg : g' = hideAll hh (ns.map (·.1))) (hn : g'.get? b = none) (hb : ∀ p ∈ ns, p.1 ≠ b) : hh.get? b = none := by
  cases e : hh.get? b with
  | none => rfl
  | some o =>
    have := hideAll_get (ns.map (·.1)) e (fun h => by obtain ⟨p, hp, he⟩ := List.mem_map.mp h; exact hb p hp he)
    rw [← hg, hn] at this
    cases this
end Mine
end
section
open PySem PySem.W PySem.Calls PyProof.Rows
set_option maxRecDepth 100000
namespace Mine
local macro_rules | `(tactic| walk_at "pyIter ref") => `(tactic| (k_here; (with_reducible refine Halt3.mk ?_)))
local macro_rules | `(tactic| walk_at "call type:range") => `(tactic| (k_here; (with_reducible show wpAny _ _ (call _ [Value.int _ _]) _ _ _); (rename Fr _ _ _ _ => F'); (rename News _ _ _ _ => N'); (with_unfolding_all refine range1_rows F' N' ?_; intro _ _ _ _ _ _ _ _ _)))
local macro_rules | `(tactic| kst_same) => `(tactic| (intro z h1 h2 h3; (simp only [List.forall_mem_cons, List.not_mem_nil, false_implies, implies_true, and_true, ne_eq] at h2); (simp only [List.contains_cons, List.contains_nil, Bool.or_false, Bool.or_eq_false_iff, beq_eq_false_iff_ne, ne_eq] at h3); (simp [kstB, h1, h2, h3]; done)))
set_option maxRecDepth 100000 in
set_option maxHeartbeats 40000000 in
theorem first_c (w : World) (p : Program) (loose : List Str) (mean : ExcName → Option Value) (mg mb : Str → Option Value) 
   (fr : List Env) (base : Heap) (s : Shared) (a b : Addr) (va vb : Array Value) (na nb : Nat) (l r : List Int) (junk : Bool) (tj : Tok)
    (Q E : Value → Shared → Prop) 
    (C : Cx (AA 3 fr) fr w (KK w.params) p loose mean mg mb base s.heap [(a, listOf va na), (b, listOf vb nb)])
    (ha : IntsAre va.toList l) (hb : IntsAre vb.toList r) (hl : l.length = 6) (hr : r.length = 6)
    (ret : ∀ x h' tk' i j k ti tj tk, Kept s.heap h' → s.heap.get? x = none → h'.get? x = some { cls := .type "tuple", data := .seq #[.int i ti, .int j tj, .int k tk] } → FirstN l r junk i j k → Q (.ref x) { s with heap := h', toks := tk' }) :
    wpAny (model PP w) (AA 3 fr) (call (.ref 307) [.ref a, .ref b, .bool junk]) Q E s := by
  unfold KK at C
  unfold PP
  revert C
  k_fill
  intro C
  obtain ⟨B, X, T, N⟩ := C
  obtain ⟨hh, g, d, t, os⟩ := s
  refine wpAny_call ?_
  refine' enterP ?k1 ?k2 ?k3 ?kN ?k6 ?k7 ?k8 ?k9 ?kB ?_ ?c2 ?c3 ?c4 ?c5; (case k1 => exact B); (case k2 => exact X); (case k3 => exact T); (case kN => exact N); (case k6 => k_is); (case k7 => k_is); (case k8 => exact Nat.le_of_ble_eq_true rfl); (case k9 => first | exact BindsTo.of_eq rfl | exact binds_K (K := Mine.kK w.params) (X.keeps fun b o e => of_hideAll _ e) rfl (by k_is) rfl rfl rfl); (case c5 => decide); (case kB => exact locs rfl); (case c2 => exact rfl); (case c3 => exact rfl); (case c4 => exact rfl); intro g' L' h' hg' F' N' B' X' T' lt'; (try dsimp only); (try k_fold)
  simp only [List.forall_mem_cons, List.not_mem_nil, false_implies, implies_true, and_true] at lt'
  obtain ⟨l1, l2⟩ := lt'
  k_steps
  rename_i h2 tk2 t1' u1' v1' hR F2 N2 hext
  clear hext
  unfold Halt3
  refine for_range (n := 6) (σ := Unit) (fun _ => [(a, W.listOf va na), (b, W.listOf vb nb)]) (fun _ => []) ["i", "piece", "j"]
    (fun n0 _ => ∀ i j k, 6 - n0 < k → ¬ HitN l r junk i j k) (fun _ => ∀ i j k, ¬ HitN l r junk i j k) () ?hh hR ?sm ?rs F2 N2 ?hk ?inv0 ?turn ?fin ?done
  case hh => exact rfl
  case sm => exact small_down (by decide) (by decide) (by decide) (by decide)
  case rs => unfold Builtin.Range.rangeSize; decide
  case hk => exact fun _ h => nomatch h
  case inv0 => exact fun i j k hk hit => absurd hit.2.1 (by omega)
  case fin =>
    intro _ h i j k
    by_cases hk : 0 < k
    · exact h i j k hk
    · exact fun hit => absurd hit.1 hk
  case turn =>
    rintro I n0 t ⟨⟩ u hx tk oI hn0 hv hoff F3 N3
    dsimp only at F3 N3
    dsimp only [List.cons_append, List.nil_append] at N3
    clear F2 N2 hR
    k_steps
    rename_i tz12 F' N' F'_1 N'_1 h'_1 tk_1 t₁ u₁ v₁ a_1 a_2 a_3 a_4
    obtain ⟨k, hk, hk1, hk6, hkn⟩ : ∃ k : Nat, (6 + (n0 : Int) * -1) = k ∧ 1 ≤ k ∧ k ≤ 6 ∧ k = 6 - n0 := lf_ex hn0
    rw [hk] at a_1
    simp only [hk] at a_2
    generalize hk' : (6 + (n0 : Int) * -1) = kk at *
    subst hk
    unfold Halt3
    refine for_range (n := 7 - k) (σ := Unit) (fun _ => [(a, W.listOf va na), (b, W.listOf vb nb), (I, oI)]) (fun _ => []) ["piece", "j"]
      (fun n1 _ => ∀ i j, i < n1 → ¬ HitN l r junk i j k) (fun _ => ∀ i j, ¬ HitN l r junk i j k) () ?hh_lfTurn a_1 ?sm_lfTurn ?rs_lfTurn a_2 a_3 ?hk_lfTurn ?inv0_lfTurn ?turn_lfTurn ?fin_lfTurn ?done_lfTurn
    case hh_lfTurn => exact rfl
    case sm_lfTurn => exact lf_sm hk1 hk6
    case rs_lfTurn => exact lf_rs hk1 hk6
    case hk_lfTurn => exact fun _ h => nomatch h
    case inv0_lfTurn => exact fun i j hi => absurd hi (Nat.not_lt_zero i)
    case fin_lfTurn =>
      intro _ h i j hit
      exact h i j (lf_lt' hk1 hit.2.1) hit
    case turn_lfTurn =>
      rintro I2 n1 t5 ⟨⟩ u5 h5 tk5 oI5 hn1 hv1 hoff1 F3 N3
      (try dsimp only at F3 N3)
      dsimp only [List.cons_append, List.nil_append] at N3
      clear a_1 a_2 a_3 a_4
      rw [lf_i1] at F3
      k_steps
      all_goals (have hpe := piece_eq (n := n1) (k := k) hl (lf_lt hn1))
      · have hz : (List.take (min ((n1 : Int) + (k : Int)).toNat l.length - (n1 : Int).toNat) (List.drop (n1 : Int).toNat l)).any (fun x => x == 0) = true := by assumption
        rw [hpe] at hz
        refine TEnd.intro () (by assumption) (by assumption) (by kst_in) (off_of hoff1 rfl) (fun _ h => nomatch h) (by kst_same) ?_
        intro i j hi hit
        rcases Nat.lt_or_ge i n1 with h | h
        · exact hv1 i j h hit
        · obtain rfl : i = n1 := lf_eq hi h
          obtain ⟨x, hx1, hx2⟩ := List.any_eq_true.mp hz
          rw [beq_iff_eq.mp hx2] at hx1
          exact hit.2.2.2.2 (by assumption) hx1
      · have hz : junk = true → ¬ (0 : Int) ∈ (l.drop n1).take k := by
          intro _ h
          have : (List.take (min ((n1 : Int) + (k : Int)).toNat l.length - (n1 : Int).toNat) (List.drop (n1 : Int).toNat l)).any (fun x => x == 0) = false := by assumption
          rw [hpe, List.any_eq_false] at this
          exact this 0 h rfl
        rename_i tkz13 D' ws' h'_2 F' N' hI' hC' hL' l1_1 h'_3 F'_1 N'_1 a_1 a_2 a_3 a_4 h'_4 tk_3 t₁_1 u₁_1 v₁_1 a_5 a_6 a_7 a_8
        (try have hI'0 := hI')
        clear hI' hC' hL'
        clear F' N' F'_1 N'_1
        rename IsRange _ _ _ _ _ _ _ _ => hR
        rename Fr _ _ _ _ => F2
        rename News _ _ _ _ => N2
        have hws : IntsAre ws' ((l.drop n1).take k) := hpe ▸ (by assumption)
        unfold Halt3
        refine for_range (n := 7 - k) (σ := Unit) (fun _ => [(D', W.listOf ws'.toArray 0), (a, W.listOf va na), (b, W.listOf vb nb), (I, oI), (I2, oI5)]) (fun _ => []) []
          (fun n2 _ => ∀ j, j < n2 → ¬ HitN l r junk n1 j k) (fun _ => ∀ j, ¬ HitN l r junk n1 j k) () ?hh_lfIn1 hR ?sm_lfIn1 ?rs_lfIn1 F2 N2 ?hk_lfIn1 ?inv0_lfIn1 ?turn_lfIn1 ?fin_lfIn1 ?done_lfIn1
        case hh_lfIn1 => exact rfl
        case sm_lfIn1 => exact lf_sm hk1 hk6
        case rs_lfIn1 => exact lf_rs hk1 hk6
        case hk_lfIn1 => exact fun _ h => nomatch h
        case inv0_lfIn1 => exact fun j hi => absurd hi (Nat.not_lt_zero j)
        case fin_lfIn1 =>
          intro _ h j hit
          exact h j (lf_lt' hk1 hit.2.2.1) hit
        case turn_lfIn1 =>
          rintro I3 n2 t6 ⟨⟩ u6 h6 tk6 oI6 hn2 hv2 hoff2 F3 N3
          (try dsimp only at F3 N3)
          dsimp only [List.cons_append, List.nil_append] at N3
          clear F2 N2 hR
          rw [lf_i1] at F3
          k_steps
          have hpr := piece_eq (n := n2) (k := k) hr (lf_lt hn2)
          · rename Fr _ _ _ _ => FZ
            rename News _ _ _ _ => NZ
            rename @LT.lt Nat _ _ _ ∧ @LT.lt Nat _ D' _ ∧ _ => l9
            have heq : List.take (min ((n2 : Int) + (k : Int)).toNat r.length - (n2 : Int).toNat) (List.drop (n2 : Int).toNat r) = List.take k (List.drop n1 l) := by assumption
            have z9 := NZ _ (.head _)
            refine ret _ _ _ _ _ _ _ _ _ (kept_news hg' FZ N NZ (by kst_in)) (fresh_news hg' z9.2.2 ?_) z9.1 (.inr ⟨n1, n2, k, rfl, rfl, rfl, ?_, ?_⟩)
            · intro p hp
              rcases List.mem_cons.mp hp with rfl | hp
              · exact Nat.ne_of_lt l9.2.2.1
              · rw [List.mem_singleton.mp hp]; exact Nat.ne_of_lt l9.2.2.2.1
            · exact ⟨hk1, lf_lt hn1, lf_lt hn2, (hpr ▸ heq).symm, hz⟩
            · intro i' j' k' hit
              rcases Nat.lt_trichotomy k' k with h | h | h
              · exact .inl h
              · subst h
                refine .inr ⟨rfl, ?_⟩
                rcases Nat.lt_trichotomy i' n1 with h | h | h
                · exact absurd hit (hv1 i' j' h)
                · subst h
                  refine .inr ⟨rfl, ?_⟩
                  rcases Nat.lt_or_ge j' n2 with h | h
                  · exact absurd hit (hv2 j' h)
                  · exact h
                · exact .inl h
              · exact absurd hit (hv i' j' k' (lf_hk hkn h))
          · have heq : ¬ List.take (min ((n2 : Int) + (k : Int)).toNat r.length - (n2 : Int).toNat) (List.drop (n2 : Int).toNat r) = List.take k (List.drop n1 l) := by assumption
            show TEnd _ _ _ _ _ _ _ _ _ _ _ _
            refine TEnd.intro () (by assumption) (by assumption) (by kst_in) (off_of hoff2 rfl) (fun _ h => nomatch h) (by kst_same) ?_
            intro j hj hit
            rcases Nat.lt_or_ge j n2 with h | h
            · exact hv2 j h hit
            · obtain rfl : j = n2 := lf_eq hj h
              have hpr := piece_eq (n := j) (k := k) hr (lf_lt hn2)
              exact heq (by rw [hpr]; exact hit.2.2.2.1.symm)
        case done_lfIn1 =>
          rintro ⟨⟩ u6 h6 tk6 hv2 F3 N3
          show wpAny _ _ _ _ _ _
          k_steps
          refine TEnd.intro () (by assumption) (by assumption) (by kst_in) (off_of hoff1 rfl) (fun _ h => nomatch h) (by kst_same) ?_
          intro i j hi hit
          rcases Nat.lt_or_ge i n1 with h | h
          · exact hv1 i j h hit
          · obtain rfl : i = n1 := lf_eq hi h
            exact hv2 j hit
      · have hz : junk = true → ¬ (0 : Int) ∈ (l.drop n1).take k := by
          intro h
          subst h
          contradiction
        rename_i tkz14 D' ws' h'_2 F' N' hI' hC' hL' l1_1 h'_3 F'_1 N'_1 a_1 h'_4 tk_3 t₁_1 u₁_1 v₁_1 a_2 a_3 a_4 a_5
        (try have hI'0 := hI')
        clear hI' hC' hL'
        clear F' N' F'_1 N'_1
        rename IsRange _ _ _ _ _ _ _ _ => hR
        rename Fr _ _ _ _ => F2
        rename News _ _ _ _ => N2
        have hws : IntsAre ws' ((l.drop n1).take k) := hpe ▸ (by assumption)
        unfold Halt3
        refine for_range (n := 7 - k) (σ := Unit) (fun _ => [(D', W.listOf ws'.toArray 0), (a, W.listOf va na), (b, W.listOf vb nb), (I, oI), (I2, oI5)]) (fun _ => []) []
          (fun n2 _ => ∀ j, j < n2 → ¬ HitN l r junk n1 j k) (fun _ => ∀ j, ¬ HitN l r junk n1 j k) () ?hh_lfIn2 hR ?sm_lfIn2 ?rs_lfIn2 F2 N2 ?hk_lfIn2 ?inv0_lfIn2 ?turn_lfIn2 ?fin_lfIn2 ?done_lfIn2
        case hh_lfIn2 => exact rfl
        case sm_lfIn2 => exact lf_sm hk1 hk6
        case rs_lfIn2 => exact lf_rs hk1 hk6
        case hk_lfIn2 => exact fun _ h => nomatch h
        case inv0_lfIn2 => exact fun j hi => absurd hi (Nat.not_lt_zero j)
        case fin_lfIn2 =>
          intro _ h j hit
          exact h j (lf_lt' hk1 hit.2.2.1) hit
        case turn_lfIn2 =>
          rintro I3 n2 t6 ⟨⟩ u6 h6 tk6 oI6 hn2 hv2 hoff2 F3 N3
          (try dsimp only at F3 N3)
          dsimp only [List.cons_append, List.nil_append] at N3
          clear F2 N2 hR
          rw [lf_i1] at F3
          k_steps
          have hpr := piece_eq (n := n2) (k := k) hr (lf_lt hn2)
          · rename Fr _ _ _ _ => FZ
            rename News _ _ _ _ => NZ
            rename @LT.lt Nat _ _ _ ∧ @LT.lt Nat _ D' _ ∧ _ => l9
            have heq : List.take (min ((n2 : Int) + (k : Int)).toNat r.length - (n2 : Int).toNat) (List.drop (n2 : Int).toNat r) = List.take k (List.drop n1 l) := by assumption
            have z9 := NZ _ (.head _)
            refine ret _ _ _ _ _ _ _ _ _ (kept_news hg' FZ N NZ (by kst_in)) (fresh_news hg' z9.2.2 ?_) z9.1 (.inr ⟨n1, n2, k, rfl, rfl, rfl, ?_, ?_⟩)
            · intro p hp
              rcases List.mem_cons.mp hp with rfl | hp
              · exact Nat.ne_of_lt l9.2.2.1
              · rw [List.mem_singleton.mp hp]; exact Nat.ne_of_lt l9.2.2.2.1
            · exact ⟨hk1, lf_lt hn1, lf_lt hn2, (hpr ▸ heq).symm, hz⟩
            · intro i' j' k' hit
              rcases Nat.lt_trichotomy k' k with h | h | h
              · exact .inl h
              · subst h
                refine .inr ⟨rfl, ?_⟩
                rcases Nat.lt_trichotomy i' n1 with h | h | h
                · exact absurd hit (hv1 i' j' h)
                · subst h
                  refine .inr ⟨rfl, ?_⟩
                  rcases Nat.lt_or_ge j' n2 with h | h
                  · exact absurd hit (hv2 j' h)
                  · exact h
                · exact .inl h
              · exact absurd hit (hv i' j' k' (lf_hk hkn h))
          · have heq : ¬ List.take (min ((n2 : Int) + (k : Int)).toNat r.length - (n2 : Int).toNat) (List.drop (n2 : Int).toNat r) = List.take k (List.drop n1 l) := by assumption
            show TEnd _ _ _ _ _ _ _ _ _ _ _ _
            refine TEnd.intro () (by assumption) (by assumption) (by kst_in) (off_of hoff2 rfl) (fun _ h => nomatch h) (by kst_same) ?_
            intro j hj hit
            rcases Nat.lt_or_ge j n2 with h | h
            · exact hv2 j h hit
            · obtain rfl : j = n2 := lf_eq hj h
              have hpr := piece_eq (n := j) (k := k) hr (lf_lt hn2)
              exact heq (by rw [hpr]; exact hit.2.2.2.1.symm)
        case done_lfIn2 =>
          rintro ⟨⟩ u6 h6 tk6 hv2 F3 N3
          show wpAny _ _ _ _ _ _
          k_steps
          refine TEnd.intro () (by assumption) (by assumption) (by kst_in) (off_of hoff1 rfl) (fun _ h => nomatch h) (by kst_same) ?_
          intro i j hi hit
          rcases Nat.lt_or_ge i n1 with h | h
          · exact hv1 i j h hit
          · obtain rfl : i = n1 := lf_eq hi h
            exact hv2 j hit
    case done_lfTurn =>
      rintro ⟨⟩ u5 h5 tk5 hv1 F3 N3
      show wpAny _ _ _ _ _ _
      k_steps
      refine TEnd.intro () (by assumption) (by assumption) (by kst_in) (off_of hoff rfl) (fun _ h => nomatch h) (by kst_same) ?_
      intro i j k' hk' hit
      rcases Nat.lt_or_ge k k' with h | h
      · exact hv i j k' (lf_hk hkn h) hit
      · obtain rfl : k' = k := lf_ke hn0 hkn hk' h
        exact hv1 i j hit
  case done =>
    rintro ⟨⟩ u hx tk hv F3 N3
    rename_i F' N'
    show wpAny _ _ _ _ _ _
    (try clear a_1 a_2 a_3 a_4)
    dsimp only at F3 N3
    clear F' N' F2 N2
    k_steps
    rename Fr _ _ _ _ => FZ
    rename News _ _ _ _ => NZ
    rename @LT.lt Nat _ _ _ ∧ @LT.lt Nat _ _ _ => l9
    have z9 := NZ _ (.head _)
    refine ret _ _ _ _ _ _ _ _ _ (kept_news hg' FZ N NZ (by kst_in)) (fresh_news hg' z9.2.2 ?_) z9.1 (.inl ⟨rfl, rfl, rfl, hv⟩)
    intro p hp
    rcases List.mem_cons.mp hp with rfl | hp
    · exact Nat.ne_of_lt l9.1
    · rw [List.mem_singleton.mp hp]; exact Nat.ne_of_lt l9.2
end Mine
end
section
open PySem PySem.W PySem.Calls PyProof.Rows
namespace Mine
theorem halt_bound {M : Model} {A : Around} {Q : Value → Shared → Prop} {E : Value → Shared → Prop} {s : Shared} {f a : Addr} (h : Halt' (wpAny M A (call (.ref f) [.ref a]) Q E s)) : wpAny M A (call (Value.ref f, [Value.ref a]).1 ((Value.ref f, [Value.ref a]).2 ++ [])) Q E s := h
local macro_rules | `(tactic| walk_at "call ref") => `(tactic| (k_here; (refine halt_bound ?_)))
set_option maxRecDepth 100000 in
set_option maxHeartbeats 40000000 in
theorem ctor_c (w : World) (p : Program) (loose : List Str) (mean : ExcName → Option Value) (mg mb : Str → Option Value) 
   (fr : List Env) (base : Heap) (s : Shared) (x y : Str) (t1 t2 : Tok) (jv : Value)
    (Q E : Value → Shared → Prop) 
    (C : Cx (AA 2 fr) fr w (KK w.params) p loose mean mg mb base s.heap [])
    (hy : y.length = 10) (hx : x.length = 10)
    (J : Bool) (jl : List (Addr × Obj)) (hjl : ∀ q ∈ jl, s.heap.get? q.1 = some q.2)
    (hj : (jv = .none ∧ J = false) ∨ (∃ ja jo, jv = .ref ja ∧ J = true ∧ IsFnObj jo ∧ (ja, jo) ∈ jl ∧ JunkFn w p loose mean mg mb ja jl))
    (ret : ∀ h' tk' self dd bd bj bp od os k1 k2 k3 k4 k5 k6 k7 k8 k9 k10 kvs, Kept s.heap h' → (∀ a ∈ [self, dd, bd, bj], s.heap.get? a = none) → self ≠ dd → self ≠ bd → self ≠ bj → dd ≠ bd → dd ≠ bj →
      h'.get? self = some (instObj 242 dd) → h'.get? dd = some (dictOf [en w.params "isjunk" k1 jv, en w.params "a" k2 (.str x t1), en w.params "b" k3 (.str y t2), en w.params "autojunk" k4 (.bool true), en w.params "matching_blocks" k5 .none, en w.params "opcodes" k6 .none, en w.params "fullbcount" k7 .none, en w.params "b2j" k8 (.ref bd), en w.params "bjunk" k9 (.ref bj), en w.params "bpopular" k10 (.ref bp)] 10) →
      h'.get? bd = some od → h'.get? bj = some os → od.IsDictOf (PySem.strKind PySem.Challenge.rw_oy0507_01.row.prog w) kvs → IsSetObj os → ObjSet (PySem.strKind PySem.Challenge.rw_oy0507_01.row.prog w) os (junkOf J y) → (bd == sysModules) = false → bd ≠ bj →
      (∀ k, (valueAt kvs k = none ∧ rowOf J y k = []) ∨ ∃ z vs nn, valueAt kvs k = some (.ref z) ∧ h'.get? z = some (listOf vs nn) ∧ z ≠ self ∧ z ≠ dd ∧ z ≠ bd ∧ z ≠ bj ∧ IntsAre vs.toList (rowOf J y k)) →
      Q (.ref self) { s with heap := h', toks := tk' })
     :
    wpAny (model PP w) (AA 2 fr) (call (.ref 242) [jv, .str x t1, .str y t2]) Q E s := by
  unfold KK at C
  unfold PP
  revert C
  k_fill
  intro C
  obtain ⟨B, X, T, N⟩ := C
  have X1 : (Mine.kK w.params).In s.heap := X.keeps fun b o e => of_hideAll _ e
  obtain ⟨hh, g, d, t, os⟩ := s
  have hk2 : ∀ b o, hh.get? b = some o → ((hh.push emptyDict).push (instObj 242 hh.objs.size)).get? b = some o := fun b o e => Heap.get?_push_of_some _ (Heap.get?_push_of_some _ e)
  have hx1 : ((hh.push emptyDict).push (instObj 242 hh.objs.size)).get? (hh.objs.size + 1) = some (instObj 242 hh.objs.size) := by heap_get
  have hx2 : ((hh.push emptyDict).push (instObj 242 hh.objs.size)).get? hh.objs.size = some emptyDict := Heap.get?_push_of_some _ (Heap.get?_push_size _ rfl)
  have hn1 : hh.get? hh.objs.size = none := Heap.get?_none_of_le (Nat.le_refl _)
  have hn2 : hh.get? (hh.objs.size + 1) = none := Heap.get?_none_of_le (Nat.le_succ _)
  refine wpAny_call ?_
  refine make_core (makes_of X1 (by k_is)) (looks_findIn X1 (by k_is)) (fun self => bind_fn X1 self (by k_is)) (.inl rfl) ?_
  have nm : ∀ b o, hh.get? b = some o → b ∉ [hh.objs.size + 1, hh.objs.size] := by
    intro b o e hb
    have := Heap.lt_size e
    simp only [List.mem_cons, List.not_mem_nil, or_false] at hb
    rcases hb with h | h
    · exact absurd this (by rw [h]; exact Nat.not_lt.mpr (Nat.le_succ _))
    · exact absurd this (by rw [h]; exact Nat.lt_irrefl _)
  have st : Kept (hideAll hh (List.map (·.1) ([] : List (Addr × Obj)))) (hideAll ((hh.push emptyDict).push (instObj 242 hh.objs.size)) [hh.objs.size + 1, hh.objs.size]) := fun b o e => hideAll_get _ (hk2 b o (of_hideAll _ e)) (nm b o (of_hideAll _ e))
  have hself : hh.objs.size < hh.objs.size + 1 := Nat.lt_succ_self _
  have B2 : Below ((AA 2 fr).under (Code.builtin "type.__call__" { pos := [Value.ref 242, jv, .str x t1, .str y t2] })) base fr (hideAll ((hh.push emptyDict).push (instObj 242 hh.objs.size)) [hh.objs.size + 1, hh.objs.size]) := ⟨rfl, fun b o e => st b o (B.stays b o e), Heap.FunFrames.of_keeps (fun b o e _ => ⟨o, st b o e, rfl⟩) B.frames⟩
  have X2 := X.keeps st
  have T2 := T.keeps st
  generalize hz : (hh.push emptyDict).push (instObj 242 hh.objs.size) = h2 at *
  generalize hh.objs.size + 1 = self at *
  generalize hh.objs.size = dd at *
  refine' enterP (nl := [(self, instObj 242 dd), (dd, emptyDict)]) ?k1 ?k2 ?k3 ?kN ?k6 ?k7 ?k8 ?k9 ?kB ?_ ?c2 ?c3 ?c4 ?c5; (case k1 => exact B2); (case k2 => exact X2); (case k3 => exact T2); (case kN => exact List.forall_mem_cons.mpr ⟨hx1, List.forall_mem_cons.mpr ⟨hx2, fun _ h => nomatch h⟩⟩); (case k6 => k_is); (case k7 => k_is); (case k8 => exact Nat.le_of_ble_eq_true rfl); (case k9 => first | exact BindsTo.of_eq rfl | exact binds_K (K := Mine.kK w.params) (X2.keeps fun b o e => of_hideAll _ e) rfl (by k_is) rfl rfl rfl); (case c5 => decide); (case kB => exact locs rfl); (case c2 => exact rfl); (case c3 => exact rfl); (case c4 => exact rfl); intro g' L' h' hg' F' N' B' X' T' lt'; (try dsimp only); (try k_fold)
  simp only [List.forall_mem_cons, List.not_mem_nil, false_implies, implies_true, and_true] at lt'
  obtain ⟨l1, l2⟩ := lt'
  k_steps
  unfold Halt'
  rename_i g2 L2 h9 FG2 F2 N2 B2q X2q T2q qk1 ek1 g1 L1 h8 FG1 B1 X1q T1q qk0 ek0 tk0 h7 h6 h5 F1 N1 kF kN Tc kX g3 L3 h4 FG3 B3 X3 T3 h3 hb2 hb1 hc Fc Nc
  obtain ⟨k1, k2, k3, k4, k5, k6, k7, Nc⟩ : ∃ k1 k2 k3 k4 k5 k6 k7, News g3 L3 hc [(self, instObj 242 dd), (dd, dictOf [en w.params "isjunk" k1 jv, en w.params "a" k2 (.str x t1), en w.params "b" k3 (.str y t2), en w.params "autojunk" k4 (.bool true), en w.params "matching_blocks" k5 .none, en w.params "opcodes" k6 .none, en w.params "fullbcount" k7 .none] 7)] := ⟨_, _, _, _, _, _, _, Nc⟩
  have up : ∀ b o, hh.get? b = some o → hc.get? b = some o := fun b o e => Fc.keep b o (FG3.keep b o (FG2.keep b o (by rw [hg']; exact st b o e)))
  have dn : ∀ b, hc.get? b = none → hh.get? b = none := fun b e => by
    cases e2 : hh.get? b with
    | none => rfl
    | some o => rw [up b o e2] at e; cases e
  refine any_le (A := AA 3 (_ :: _ :: _ :: fr)) (chain_c w p loose mean mg mb _ _ _ x y t1 t2 self dd jv k1 k2 k3 k4 k5 k6 k7 _ _ (Cx.of B3 Fc Nc X3 T3 (fun q hq => hq) rfl rfl) hy hself J jl (fun q hq => ⟨up _ _ (hjl q hq), (fun e => by have := hjl q hq; rw [e, hn2] at this; cases this), fun e => by have := hjl q hq; rw [e, hn1] at this; cases this⟩) hj ?ret) rfl ?depth rfl rfl ?units
  case depth => (try simp only [depth_under_make, depth_under_kw, depth_in1, depth_deeper, depth_caller]); decide
  case units => first | k_units | exact Nat.le_of_ble_eq_true rfl
  case ret =>
    intro hq tkq bd bj bp od os2 k8 k9 k10 kvs kb nb1 nb2 gdd gbd gbj hod hos hOS lo hbb rows
    have Fq : Fr g3 L3 hq _ := ⟨Fc.ns.at' fun o e => kb _ o (fun q => (Nc (dd, _) (.tail _ (.head _))).2.1 q.symm) e, fun b o e => kb b o (fun q => by have := (Nc (dd, _) (.tail _ (.head _))).2.2; rw [q] at e; rw [e] at this; cases this) (Fc.keep b o e), Fc.above⟩
    have gself : hq.get? self = some (instObj 242 dd) := kb _ _ (Nat.ne_of_gt hself) (Nc (self, _) (.head _)).1
    have Nq : News g3 L3 hq [(self, instObj 242 dd), (dd, dictOf [en w.params "isjunk" k1 jv, en w.params "a" k2 (.str x t1), en w.params "b" k3 (.str y t2), en w.params "autojunk" k4 (.bool true), en w.params "matching_blocks" k5 .none, en w.params "opcodes" k6 .none, en w.params "fullbcount" k7 .none, en w.params "b2j" k8 (.ref bd), en w.params "bjunk" k9 (.ref bj), en w.params "bpopular" k10 (.ref bp)] 10)] := by
      intro q hq'
      rcases List.mem_cons.mp hq' with e | hq'
      · subst e; exact ⟨gself, (Nc (self, _) (.head _)).2⟩
      · rw [List.mem_singleton.mp hq']; exact ⟨gdd, (Nc (dd, _) (.tail _ (.head _))).2⟩
    have n1 := dn _ nb1
    have n2 := dn _ nb2
    have nn : ∀ {a b : Addr} {o : Obj}, hc.get? a = none → hc.get? b = some o → b ≠ a := fun h1 h2 e => by rw [e, h1] at h2; cases h2
    clear Fc
    k_steps
    have ndd : ∀ b o, hh.get? b = some o → b ≠ dd := fun b o e q => by rw [q, hn1] at e; cases e
    refine ⟨rfl, ?_⟩
    exact ret hq _ self dd bd bj bp od os2 k1 k2 k3 k4 k5 k6 k7 k8 k9 k10 kvs (fun b o e => kb _ _ (ndd b o e) (up b o e)) (fun a ha => by
      simp only [List.mem_cons, List.not_mem_nil, or_false] at ha
      rcases ha with h | h | h | h
      · rw [h]; exact hn2
      · rw [h]; exact hn1
      · rw [h]; exact n1
      · rw [h]; exact n2) (Nat.ne_of_gt hself) (nn nb1 (Nc (self, _) (.head _)).1) (nn nb2 (Nc (self, _) (.head _)).1) (nn nb1 (Nc (dd, _) (.tail _ (.head _))).1) (nn nb2 (Nc (dd, _) (.tail _ (.head _))).1) gself gdd gbd gbj hod hos hOS lo hbb rows
end Mine
end
section
open PySem PySem.W PySem.Calls PyProof.Rows
namespace Mine
noncomputable def HaltW (p : Prop) : Prop := p
theorem HaltW.mk {p : Prop} (h : HaltW p) : p := h
theorem news_add {h₀ h h' : Heap} {L x : Addr} {o : Obj} {m : Str → Option Value} {news : List (Addr × Obj)} (F : Fr h₀ L h m) (N : News h₀ L h news) (k : Kept h h') (hx : h.get? x = none) (hxo : h'.get? x = some o) : News h₀ L h' ((x, o) :: news) := fun p hp => by
  rcases List.mem_cons.mp hp with rfl | hp
  · refine ⟨hxo, ?_, ?_⟩
    · intro e
      obtain ⟨oL, es, ep, hL, _⟩ := F.ns
      dsimp only at e
      rw [← e, hx] at hL; cases hL
    · cases e : h₀.get? x with
      | none => rfl
      | some o' => rw [F.keep _ _ e] at hx; cases hx
  · exact ⟨k _ _ (N p hp).1, (N p hp).2⟩
/-- are both places' codes 0? -/
noncomputable def gz (l r : List Int) (i j : Int) : Bool := decide (l.getD i.toNat 0 = 0) && decide (r.getD j.toNat 0 = 0)
/-- the law's two whiles -/
noncomputable def extN (l r : List Int) (junk : Bool) (t : Int × Int × Int) : Int × Int × Int :=
  let u := wDown (fun i j => junk && gz l r i j) 0 0 (t.1 - 0).toNat t
  wUp (fun i j => junk && gz l r i j) 6 6 (6 - (u.1 + u.2.2)).toNat u
theorem gz_yes {l r : List Int} {junk : Bool} {i j : Int} (h : junk = true) (h1 : l.getD i.toNat 0 = 0) (h2 : r.getD j.toNat 0 = 0) : (junk && gz l r i j) = true := by simp only [gz, h, h1, h2, decide_true, Bool.and_self]
theorem gz_no0 {l r : List Int} {junk : Bool} {i j : Int} (h : junk = false) (e : (junk && gz l r i j) = true) : False := by subst h; cases e
theorem gz_no1 {l r : List Int} {junk : Bool} {i j : Int} (h1 : l.getD i.toNat 0 ≠ 0) (e : (junk && gz l r i j) = true) : False := by
  unfold gz at e
  rw [decide_eq_false h1, Bool.false_and, Bool.and_false] at e
  cases e
theorem gz_no2 {l r : List Int} {junk : Bool} {i j : Int} (h2 : r.getD j.toNat 0 ≠ 0) (e : (junk && gz l r i j) = true) : False := by
  unfold gz at e
  rw [decide_eq_false h2, Bool.and_false, Bool.and_false] at e
  cases e
theorem first_box {l r : List Int} {junk : Bool} {i j k : Int} (h : FirstN l r junk i j k) : Box4 0 0 (i, j, k) := by
  rcases h with ⟨rfl, rfl, rfl, _⟩ | ⟨i0, j0, k0, rfl, rfl, rfl, ⟨h1, h2, h3, _⟩, _⟩
  · refine ⟨?_, ?_, ?_, ?_, ?_⟩ <;> dsimp only <;> omega
  · refine ⟨?_, ?_, ?_, ?_, ?_⟩ <;> dsimp only <;> omega
local macro_rules | `(tactic| walk_at "exec While BoolOp cons nil") => `(tactic| (refine HaltW.mk ?_))
local macro_rules | `(tactic| walk_at "exec While") => `(tactic| (refine HaltW.mk ?_))
local macro_rules | `(tactic| walk_at "exec") => `(tactic| ((with_reducible show wpAny _ _ (exec (Stmt.While _ _ _ _) _) _ _ _); refine HaltW.mk ?_))
theorem halt_first {M : Model} {A : Around} {Q : Value → Shared → Prop} {E : Value → Shared → Prop} {s : Shared} {a b : Addr} {v : Value} (h : HaltW (wpAny M A (call (.ref 307) [.ref a, .ref b, v]) Q E s)) : wpAny M A (call (.ref 307) [.ref a, .ref b, v]) Q E s := h
end Mine
end
section
open PySem PySem.W PySem.Calls PyProof.Rows
set_option maxRecDepth 100000
namespace Mine
local macro_rules | `(tactic| walk_at "exec While BoolOp cons nil") => `(tactic| (refine HaltW.mk ?_))
local macro_rules | `(tactic| walk_at "exec While") => `(tactic| (refine HaltW.mk ?_))
local macro_rules | `(tactic| walk_at "exec") => `(tactic| ((with_reducible show wpAny _ _ (exec (Stmt.While _ _ _ _) _) _ _ _); refine HaltW.mk ?_))
local macro_rules | `(tactic| walk_at "call ref") => `(tactic| (k_here; (refine halt_first ?_)))
set_option maxRecDepth 100000 in
set_option maxHeartbeats 40000000 in
theorem longest_c (w : World) (p : Program) (loose : List Str) (mean : ExcName → Option Value) (mg mb : Str → Option Value) 
   (fr : List Env) (base : Heap) (s : Shared) (a b : Addr) (va vb : Array Value) (na nb : Nat) (l r : List Int) (junk : Bool)
    (Q E : Value → Shared → Prop) 
    (C : Cx (AA 2 fr) fr w (KK w.params) p loose mean mg mb base s.heap [(a, listOf va na), (b, listOf vb nb)])
    (ha : IntsAre va.toList l) (hb : IntsAre vb.toList r) (hl : l.length = 6) (hr : r.length = 6)
    (ret : ∀ x h' tk' i j k ti tj tk t, Kept s.heap h' → s.heap.get? x = none → h'.get? x = some { cls := .type "tuple", data := .seq #[.int i ti, .int j tj, .int k tk] } → FirstN l r junk t.1 t.2.1 t.2.2 → (i, j, k) = extN l r junk t → Q (.ref x) { s with heap := h', toks := tk' }) :
    wpAny (model PP w) (AA 2 fr) (call (.ref 314) [.ref a, .ref b, .bool junk]) Q E s := by
  unfold KK at C
  unfold PP
  revert C
  k_fill
  intro C
  obtain ⟨B, X, T, N⟩ := C
  obtain ⟨hh, g, d, t, os⟩ := s
  refine wpAny_call ?_
  refine' enterP ?k1 ?k2 ?k3 ?kN ?k6 ?k7 ?k8 ?k9 ?kB ?_ ?c2 ?c3 ?c4 ?c5; (case k1 => exact B); (case k2 => exact X); (case k3 => exact T); (case kN => exact N); (case k6 => k_is); (case k7 => k_is); (case k8 => exact Nat.le_of_ble_eq_true rfl); (case k9 => first | exact BindsTo.of_eq rfl | exact binds_K (K := Mine.kK w.params) (X.keeps fun b o e => of_hideAll _ e) rfl (by k_is) rfl rfl rfl); (case c5 => decide); (case kB => exact locs rfl); (case c2 => exact rfl); (case c3 => exact rfl); (case c4 => exact rfl); intro g' L' h' hg' F' N' B' X' T' lt'; (try dsimp only); (try k_fold)
  simp only [List.forall_mem_cons, List.not_mem_nil, false_implies, implies_true, and_true] at lt'
  obtain ⟨l1, l2⟩ := lt'
  k_steps
  unfold HaltW
  refine any_le (A := AA 3 (_ :: fr)) (first_c w p loose mean mg mb _ base _ a b va vb na nb l r junk 0 _ _ (Cx.of B' F' N' X' T' (fun q hq => hq) rfl rfl) ha hb hl hr ?ret) rfl ?depth rfl rfl ?units
  case depth => (try simp only [depth_under_make, depth_under_kw, depth_in1, depth_deeper, depth_caller]); decide
  case units => first | k_units | exact Nat.le_of_ble_eq_true rfl
  case ret =>
    intro x h2 tk2 i j k ti tj ts hk hx hxo hF
    have F2 := fr_kept F' hk
    have N2 := news_add F' N' hk hx hxo
    have hx0 : hh.get? x = none := fresh_news hg' (N2 _ (.head _)).2.2 (by
      intro q hq e
      have := N' q hq
      rw [e] at this
      rw [hx] at this
      cases this.1)
    clear F' N'
    dsimp only
    k_steps
    unfold HaltW
    rename Fr _ _ _ _ => F3
    rename News _ _ _ _ => N3
    refine while_st (σ := (Int × Int × Int) × Tok × Tok × Tok) (fun _ => [(x, { cls := .type "tuple", data := .seq #[.int i ti, .int j tj, .int k ts] }), (a, listOf va na), (b, listOf vb nb)])
      (fun c => [("i", .int c.1.1 c.2.1), ("j", .int c.1.2.1 c.2.2.1), ("size", .int c.1.2.2 c.2.2.2)]) []
      (fun c => Box4 0 0 c.1 ∧ wDown (fun i j => junk && gz l r i j) 0 0 (c.1.1 - 0).toNat c.1 = wDown (fun i j => junk && gz l r i j) 0 0 (i - 0).toNat (i, j, k))
      (fun c => Box4 0 0 c.1 ∧ c.1 = wDown (fun i j => junk && gz l r i j) 0 0 (i - 0).toNat (i, j, k))
      (fun c => (c.1.1 - 0).toNat) ((i, j, k), ti, tj, ts) F3 N3 ?hk ⟨first_box hF, rfl⟩ ?turn ?done
    case hk => kst_all
    case turn =>
      rintro ⟨⟨wi, wj, ws⟩, tw1, tw2, tw3⟩ uw hw tkw ⟨⟨d1, d2, d3, d4, d5⟩, hgo⟩ Fw Nw
      dsimp only at d1 d2 d3 d4 d5 hgo Fw Nw
      clear F3 N3
      k_steps
      all_goals first
        | exact WEnd.intro ((wi, wj, ws), _, _, _) (by assumption) (by assumption) (by kst_in) (by kst_all) (by intro z h2 h3; (simp only [List.forall_mem_cons, List.not_mem_nil, false_implies, implies_true, and_true, ne_eq] at h2); (simp [kstB, h2]; done)) ⟨⟨d1, d2, d3, d4, d5⟩, (wDown_stop (by rintro ⟨e1, e2, e3⟩; first | omega | exact gz_no0 (by assumption) e3 | exact gz_no1 (by assumption) e3 | exact gz_no2 (by assumption) e3) _).symm.trans hgo⟩
        | exact WEnd.intro ((wi - 1, wj - 1, ws + 1), _, _, _) (by assumption) (by assumption) (by kst_in) (by kst_all) (by intro z h2 h3; (simp only [List.forall_mem_cons, List.not_mem_nil, false_implies, implies_true, and_true, ne_eq] at h2); (simp [kstB, h2]; done)) ⟨⟨(by refine ⟨?_, ?_, ?_, ?_, ?_⟩ <;> dsimp only <;> omega), ((wDown_go (by assumption) (by assumption) (gz_yes (by assumption) (by assumption) (by assumption))).symm).trans hgo⟩, by dsimp only; omega⟩
    case done =>
      rintro ⟨⟨iz1, jz1, sz1⟩, taz1, tbz1, tcz1⟩ uz1 hz1 tkz1 ⟨Bz1, Ez1⟩ Fz1 Nz1
      dsimp only at Bz1 Ez1 Fz1 Nz1
      obtain ⟨b1, b2, b3, b4, b5⟩ := id Bz1
      dsimp only at b1 b2 b3 b4 b5
      clear F3 N3
      show wpAny _ _ _ _ _ _
      k_steps
      unfold HaltW
      rename_i h'_1 h'_2 h'_3 h'_4
      refine while_st (σ := (Int × Int × Int) × Tok × Tok × Tok) (fun _ => [(x, { cls := .type "tuple", data := .seq #[.int i ti, .int j tj, .int k ts] }), (a, listOf va na), (b, listOf vb nb)])
        (fun c => [("i", .int c.1.1 c.2.1), ("j", .int c.1.2.1 c.2.2.1), ("size", .int c.1.2.2 c.2.2.2)]) []
        (fun c => Box4 0 0 c.1 ∧ wUp (fun i j => junk && gz l r i j) 6 6 (6 - (c.1.1 + c.1.2.2)).toNat c.1 = wUp (fun i j => junk && gz l r i j) 6 6 (6 - (iz1 + sz1)).toNat (iz1, jz1, sz1))
        (fun c => Box4 0 0 c.1 ∧ c.1 = wUp (fun i j => junk && gz l r i j) 6 6 (6 - (iz1 + sz1)).toNat (iz1, jz1, sz1))
        (fun c => (6 - (c.1.1 + c.1.2.2)).toNat) ((iz1, jz1, sz1), taz1, tbz1, tcz1) Fz1 Nz1 ?hk_lgUp ⟨Bz1, rfl⟩ ?turn_lgUp ?done_lgUp
      case hk_lgUp => kst_all
      case turn_lgUp =>
        rintro ⟨⟨wi, wj, ws⟩, tw1, tw2, tw3⟩ uw hw tkw ⟨⟨d1, d2, d3, d4, d5⟩, hgo⟩ Fw Nw
        dsimp only at d1 d2 d3 d4 d5 hgo Fw Nw
        clear Fz1 Nz1
        k_steps
        all_goals first
          | exact WEnd.intro ((wi, wj, ws), _, _, _) (by assumption) (by assumption) (by kst_in) (by kst_all) (by intro z h2 h3; (simp only [List.forall_mem_cons, List.not_mem_nil, false_implies, implies_true, and_true, ne_eq] at h2); (simp [kstB, h2]; done)) ⟨⟨d1, d2, d3, d4, d5⟩, (wUp_stop (by rintro ⟨e1, e2, e3⟩; first | omega | exact gz_no0 (by assumption) e3 | exact gz_no1 (by assumption) e3 | exact gz_no2 (by assumption) e3) _).symm.trans hgo⟩
          | exact WEnd.intro ((wi, wj, ws + 1), _, _, _) (by assumption) (by assumption) (by kst_in) (by kst_all) (by intro z h2 h3; (simp only [List.forall_mem_cons, List.not_mem_nil, false_implies, implies_true, and_true, ne_eq] at h2); (simp [kstB, h2]; done)) ⟨⟨(by refine ⟨?_, ?_, ?_, ?_, ?_⟩ <;> dsimp only <;> omega), ((wUp_go (by assumption) (by assumption) (gz_yes (by assumption) (by assumption) (by assumption))).symm).trans hgo⟩, by dsimp only; omega⟩
      case done_lgUp =>
        rintro ⟨⟨iz2, jz2, sz2⟩, taz2, tbz2, tcz2⟩ uz2 hz2 tkz2 ⟨Bz2, Ez2⟩ Fz2 Nz2
        dsimp only at Bz2 Ez2 Fz2 Nz2
        clear Fz1 Nz1
        show wpAny _ _ _ _ _ _
        k_steps
        rename Fr _ _ _ _ => FZ
        rename News _ _ _ _ => NZ
        rename @LT.lt Nat _ x _ ∧ _ => l9
        have z9 := NZ _ (.head _)
        refine ret _ _ _ _ _ _ _ _ _ (i, j, k) (kept_news hg' FZ N NZ (by kst_in)) (fresh_news hg' z9.2.2 ?_) z9.1 hF ?_
        · intro p hp
          rcases List.mem_cons.mp hp with rfl | hp
          · exact Nat.ne_of_lt l9.2.1
          · rw [List.mem_singleton.mp hp]; exact Nat.ne_of_lt l9.2.2
        · unfold extN
          dsimp only
          rw [← Ez1]
          exact Ez2
end Mine
end
section
open PySem PySem.W PySem.Calls PyProof.Rows
namespace Mine
section
variable {prog : Program} {w : World} {A : Around} {E : Value → Shared → Prop} {s : Shared} {env : Env} {h₀ : Heap} {x : Str} {body : List Stmt} {Q : Flow → Shared → Prop}
/-- a turn's end -/
noncomputable def TTEnd (h₀ : Heap) (L : Addr) (x : Str) (Led : List (Addr × Obj)) (stored : List Str) (m₀ : Str → Option Value) (s s₂ : Shared) : Prop :=
  ∃ h' tk' m' news', s₂ = { s with heap := h', toks := tk' } ∧ Fr h₀ L h' m' ∧ News h₀ L h' news' ∧ (∀ p ∈ Led, p ∈ news') ∧ (∀ z, z ≠ x → stored.contains z = false → m' z = m₀ z)
theorem TTEnd.intro {h₀ : Heap} {L : Addr} {x : Str} {Led : List (Addr × Obj)} {stored : List Str} {m₀ : Str → Option Value} {s₁ : Shared} {h' : Heap} {tk : Nat} {m' : Str → Option Value} {news' : List (Addr × Obj)}
    (F : Fr h₀ L h' m') (N : News h₀ L h' news') (hs : ∀ p ∈ Led, p ∈ news') (hr : ∀ z, z ≠ x → stored.contains z = false → m' z = m₀ z) : TTEnd h₀ L x Led stored m₀ s₁ { s₁ with heap := h', toks := tk } := ⟨h', tk, m', news', rfl, F, N, hs, hr⟩
noncomputable def TTPost (h₀ : Heap) (L : Addr) (x : Str) (Led : List (Addr × Obj)) (stored : List Str) (m₀ : Str → Option Value) (s : Shared) (Q : Flow → Shared → Prop) (f : Flow) (s₂ : Shared) : Prop :=
  match f with | .ret v => Q (.ret v) s₂ | .brk => False | _ => TTEnd h₀ L x Led stored m₀ s s₂
theorem for_tup0 {l : Addr} {vs : Array Value} {m₀ : Str → Option Value} {Led : List (Addr × Obj)} (stored : List Str)
    (hh : A.handled = none) (F : Fr h₀ env.locals s.heap m₀) (N : News h₀ env.locals s.heap Led) (src : (l, ({ cls := .type "tuple", data := .seq vs } : Obj)) ∈ Led)
    (turn : ∀ I v (u : Str → Option Value) h tk oI, v ∈ vs → Fr h₀ env.locals h (fun y => if y = x then some v else if stored.contains y then u y else m₀ y) → News h₀ env.locals h ((I, oI) :: Led) →
      wpAny (model prog w) A (execs body env) (TTPost h₀ env.locals x ((I, oI) :: Led) stored m₀ { s with heap := h, toks := tk } Q) E { s with heap := h, toks := tk })
    (done : ∀ (u : Str → Option Value) h tk, Fr h₀ env.locals h (fun y => if y = x then u y else if stored.contains y then u y else m₀ y) → News h₀ env.locals h Led → Q .next { s with heap := h, toks := tk }) :
    wpAny (model prog w) A (pyIter (.ref l)) (fun it s₂ => LoopAtV prog w A h₀ env x body Q E it s₂) E s := by
  refine for_tup (σ := Unit) (fun _ => Led) (fun _ => []) stored (fun _ _ => True) (fun _ => True) () hh ⟨_, (N _ src).1, rfl, _, rfl⟩ (N _ src).2.1 (.inr ⟨_, fun _ => src⟩) rfl F N (fun _ h => nomatch h) trivial ?_ (fun _ _ => trivial) (fun _ u h tk _ F₁ N₁ => done u h tk F₁ N₁)
  rintro I i v ⟨⟩ u h tk oI hi hv _ hoff F₁ N₁
  refine wpAny_mono (turn I v u h tk oI (Array.mem_of_getElem? hv) F₁ fun p hp => ?_) (fun f s₂ hp => ?_) fun _ _ x => x
  · rcases List.mem_cons.mp hp with rfl | hp
    · exact N₁ _ (List.mem_append_right _ (.head _))
    · exact N₁ p (List.mem_append_left _ hp)
  · have up : TTEnd h₀ env.locals x ((I, oI) :: Led) stored m₀ { s with heap := h, toks := tk } s₂ → TEnd h₀ env.locals I x (fun _ => Led) (fun _ => []) stored m₀ (fun _ : Unit => True) [(I, oI)] { s with heap := h, toks := tk } s₂ := by
      rintro ⟨h', tk', m', news', rfl, F', N', hs, hm⟩
      refine TEnd.intro () F' N' (fun p hp => hs p ?_) hoff (fun _ h => nomatch h) (fun z h1 _ h3 => hm z h1 h3) trivial
      rcases List.mem_append.mp hp with hp | hp
      · exact .tail _ hp
      · rw [List.mem_singleton.mp hp]; exact .head _
    cases f with
    | ret v => exact hp
    | brk => exact hp.elim
    | next => exact up hp
    | cont => exact up hp
end
theorem two_of {t t' : Tok} {v : Value} (h : v ∈ #[Value.int 0 t, Value.int 3 t']) : ∃ pv tp, v = .int pv tp ∧ (pv = 0 ∨ pv = 3) := by
  rcases List.mem_cons.mp (Array.mem_def.mp h) with rfl | h
  · exact ⟨0, _, rfl, .inl rfl⟩
  · rw [List.mem_singleton.mp h]; exact ⟨3, _, rfl, .inr rfl⟩
/-- into a lambda -/
theorem enterE {w : World} {A : Around} {fr : List Env} {base : Heap} {s : Shared} {K : Frag} {p : Program} {loose : List Str} {mean : ExcName → Option Value} {mg mb : Str → Option Value} {nl : List (Addr × Obj)}
    {R : Result → Shared → Prop} {prog : Program} {name qual : Str} {params : Arguments} {body : Expr} {scope : Scope} {pm ctv : Value} {c' f : Addr} {args : Args} {binds : List (Str × Value)}
    (B : Below A base fr (hideAll s.heap (nl.map (·.1)))) (X : K.In (hideAll s.heap (nl.map (·.1)))) (T : Top p loose mean mg mb (hideAll s.heap (nl.map (·.1)))) (N : ∀ p ∈ nl, s.heap.get? p.1 = some p.2)
    (ho : s.heap.get? f = some (kla_obj name qual params body scope [] pm c' ctv)) (hcd : s.heap.CodeRec (.ref c') qual) (hroom : A.depth < recursionLimit)
    (hbind : bindArgs (kla_fn name qual params body scope [] pm (.ref c') ctv) args = pure binds) (hloc : ∀ y ∈ binds, scope.names.lookup y.1 = some .local)
    (h : ∀ g L' h₁, g = hideAll s.heap (nl.map (·.1)) → Fr g L' h₁ (fun y => binds.reverse.lookup y) → News g L' h₁ nl → Below A base fr g → K.In g → Top p loose mean mg mb g →
      wpAny (model prog w) (A.deeper (envX qual scope L' f (.ref c') [])) (eval body (envX qual scope L' f (.ref c') []))
        (fun v s' => R (.ok (.ret v)) s')
        (fun e s' => wpAny (model prog w) (A.deeper (envX qual scope L' f (.ref c') [])) (leaving (envX qual scope L' f (.ref c') []) e) (fun _ s'' => R (.error e) s'') (fun e' s'' => R (.error e') s'') s')
        { s with heap := h₁, toks := s.toks + binds.length })
    (hco : scope.isCoroutine = false) (hgen : scope.isGenerator = false) (hk : scope.kind = .function)
    (hcell : ∀ x ∈ scope.names, x.2 ≠ .cell) : codeAny (model prog w) A (.call (.ref f) args) R s := by
  have st : Kept (hideAll s.heap (nl.map (·.1))) s.heap := fun b o e => of_hideAll _ e
  refine kla_callFunE hroom ho rfl hco hgen rfl hcd ?_
  rw [hbind]
  refine wpAny_pure (wpAny_newFunctionEnv hcell hloc (fun h₁ hns hsb => ⟨((T.nolimit).keeps st).fresh _ hsb, ?_⟩) hk)
  show codeAny _ _ (.expr body (envX qual scope s.heap.objs.size f (.ref c') [])) _ _
  have hk₁ : ∀ b o, s.heap.get? b = some o → h₁.get? b = some o := fun b o e => hsb.extBut b o (Nat.ne_of_lt (Heap.lt_size e)) (Heap.get?_push_of_some _ e)
  exact kla_codeExpr (h _ s.heap.objs.size h₁ rfl ⟨hns, fun b o e => hk₁ b o (of_hideAll _ e), Nat.le_of_eq (hideAll_size _ _)⟩
    (fun p hp => ⟨hk₁ _ _ (N p hp), Nat.ne_of_lt (Heap.lt_size (N p hp)), hideAll_none _ (List.mem_map_of_mem hp)⟩) B X T)
noncomputable def lamParams : Arguments := { posonlyargs := [], args := [{ arg := Str.ofString "sign", annotation := none, pos := { line := 489, col := 38, endLine := 489, endCol := 42 } }], vararg := none, kwonlyargs := [], kw_defaults := [], kwarg := none, defaults := [] }
noncomputable def lamBody : Expr := (Expr.Name (Str.ofString "sign") { line := 489, col := 44, endLine := 489, endCol := 48 }).Compare [CmpOp.Eq] [Expr.Constant (Const.str (Str.ofString "-")) 0 { line := 489, col := 52, endLine := 489, endCol := 55 }] { line := 489, col := 44, endLine := 489, endCol := 55 }
noncomputable def lamScope : Scope := { kind := ScopeKind.function, names := [(Str.ofString "sign", NameKind.local)], isGenerator := false, isCoroutine := false }
noncomputable def HaltE (p : Prop) : Prop := p
set_option maxRecDepth 100000 in
set_option maxHeartbeats 40000000 in
theorem lam_junk (w : World) (p : Program) (loose : List Str) (mean : ExcName → Option Value) (mg mb : Str → Option Value) {ja c' : Addr} {oc : Obj} {vs : Array Value} {tq : Tok} {pm ctv : Value} {qual : Str} (hd : oc.data = .fields vs) (hv : vs[1]? = some (.str qual tq)) :
    JunkFn w p loose mean mg mb ja [(ja, kla_obj (Str.ofString "<lambda>") qual lamParams lamBody lamScope [] pm c' ctv), (c', oc)] := by
  intro fr base s k t Q E nl C hj ret
  unfold KK at C
  unfold PP
  revert C
  k_fill
  intro C
  obtain ⟨B, X, T, N⟩ := C
  have h1 := hj _ (.head _)
  have h2 := hj _ (.tail _ (.head _))
  obtain ⟨hh, g, d, t0, os⟩ := s
  refine wpAny_call ?_
  refine enterE B X T N h1 ⟨c', oc, vs, tq, rfl, h2, hd, hv⟩ (Nat.le_of_ble_eq_true rfl) (binds := [(Str.ofString "sign", .str k t)]) rfl (locs rfl) ?_ rfl rfl rfl (by decide)
  intro g' L' h' hg' F' N' B' X' T'
  unfold lamBody lamScope at *
  (try dsimp only)
  (try k_fold)
  k_steps
  have e : decide (k = dashS) = (k == Str.ofString "-") := by
    unfold dashS
    by_cases h : k = Str.ofString "-" <;> simp [h]
  have r := ret h' (t0 + 1 + 1) (kept_news hg' F' N N' fun _ h => h)
  rw [e] at r
  exact r
theorem valueAt_mem {kvs : List (Str × Value)} {k : Str} {v : Value} (h : valueAt kvs k = some v) : ∃ kv ∈ kvs, kv.2 = v := by
  unfold valueAt at h
  cases e : kvs.find? (fun kv => kv.1 = k) with
  | none => rw [e] at h; cases h
  | some kv => rw [e] at h; exact ⟨kv, List.mem_of_find?_eq_some e, Option.some.inj h⟩
/-- the index, its lists in a ledger or old -/
noncomputable def IdxAt (g' : Heap) (kvs : List (Str × Value)) (objs : List (Addr × Obj)) (J : Bool) (y : Str) (self dd bd bj : Addr) : Prop :=
  ∀ k, (valueAt kvs k = none ∧ rowOf J y k = []) ∨ ∃ z vs nn, valueAt kvs k = some (.ref z) ∧ ((z, listOf vs nn) ∈ objs ∨ g'.get? z = some (listOf vs nn)) ∧ z ≠ self ∧ z ≠ dd ∧ z ≠ bd ∧ z ≠ bj ∧ IntsAre vs.toList (rowOf J y k)
theorem idx_objs {g' h : Heap} {L : Addr} {m : Str → Option Value} {kvs : List (Str × Value)} {J : Bool} {y : Str} {self dd bd bj : Addr} (F : Fr g' L h m)
    (rows : ∀ k, (valueAt kvs k = none ∧ rowOf J y k = []) ∨ ∃ z vs nn, valueAt kvs k = some (.ref z) ∧ h.get? z = some (listOf vs nn) ∧ z ≠ self ∧ z ≠ dd ∧ z ≠ bd ∧ z ≠ bj ∧ IntsAre vs.toList (rowOf J y k)) :
    ∃ objs, News g' L h objs ∧ IdxAt g' kvs objs J y self dd bd bj := by
  obtain ⟨oL, es, ep, hL, hLd, _⟩ := F.ns
  refine ⟨kvs.filterMap fun kv => match kv.2 with | .ref z => if g'.get? z = none ∧ z ≠ L then (h.get? z).map (fun o => (z, o)) else none | _ => none, ?_, ?_⟩
  · intro p hp
    obtain ⟨kv, _, he⟩ := List.mem_filterMap.mp hp
    split at he
    · split at he
      · rename_i z _ hz
        cases e : h.get? z with
        | none => rw [e] at he; cases he
        | some o =>
          rw [e] at he
          obtain rfl := Option.some.inj he
          exact ⟨e, hz.2, hz.1⟩
      · cases he
    · cases he
  · intro k
    rcases rows k with h1 | ⟨z, vs, nn, h1, h2, h3⟩
    · exact .inl h1
    · refine .inr ⟨z, vs, nn, h1, ?_, h3⟩
      cases e : g'.get? z with
      | some o =>
        have := F.keep _ _ e
        rw [h2] at this
        exact .inr this.symm
      | none =>
        refine .inl (List.mem_filterMap.mpr ?_)
        obtain ⟨kv, hkv, e2⟩ := valueAt_mem h1
        refine ⟨kv, hkv, ?_⟩
        rw [e2]
        dsimp only
        rw [if_pos ⟨e, fun q => by rw [q, hL] at h2; cases h2; cases hLd⟩, h2]
        rfl
theorem rowOf_len (J : Bool) (y k : Str) : (rowOf J y k).length ≤ 10 := by
  unfold rowOf
  split
  · exact Nat.zero_le _
  · cases e : wLook (wOf y 10) k with
    | none => exact Nat.zero_le _
    | some js => exact Nat.le_trans (wLook_len e) (wOf_tot y 10)
/-- filemode's text -/
noncomputable def FmText (m : Int) (x : Str) : Prop := ∃ k0 : Str, k0.length = 1 ∧ x = Txt.join (Str.ofString "") (k0 :: nineSigns m)
/-- _law_agree, its matcher made -/
noncomputable def AgMid (w : World) (g' : Heap) (L' : Addr) (m0 : Str → Option Value) (junk : Bool) (m1 m2 : Int) (s₀ : Shared) (f : Flow) (s' : Shared) : Prop :=
  f = .next ∧ ∃ (self dd bd bj : Addr) (od os2 : Obj) (x y : Str) (tx ty k1 k2 k3 k4 k5 k6 k7 k8 k9 k10 : Tok) (jv bp : Value) (kvs : List (Str × Value)) (objs : List (Addr × Obj)) (ps : Array Value) (h2 : Heap) (tk2 : Nat),
    s' = { s₀ with heap := h2, toks := tk2 } ∧ Fr g' L' h2 (fun z => if z = Str.ofString "matcher" then some (.ref self) else m0 z) ∧
    News g' L' h2 ((self, instObj 242 dd) :: (dd, dictOf [en w.params "isjunk" k1 jv, en w.params "a" k2 (.str x tx), en w.params "b" k3 (.str y ty), en w.params "autojunk" k4 (.bool true), en w.params "matching_blocks" k5 .none, en w.params "opcodes" k6 .none, en w.params "fullbcount" k7 .none, en w.params "b2j" k8 (.ref bd), en w.params "bjunk" k9 (.ref bj), en w.params "bpopular" k10 bp] 10) :: (bd, od) :: (bj, os2) :: (316, tabObj ps) :: objs) ∧
    (junk = false → ps = #[]) ∧ FmText m1 x ∧ FmText m2 y ∧ od.IsDictOf (PySem.strKind PySem.Challenge.rw_oy0507_01.row.prog w) kvs ∧ IsSetObj os2 ∧ ObjSet (PySem.strKind PySem.Challenge.rw_oy0507_01.row.prog w) os2 (junkOf junk y) ∧ (bd == sysModules) = false ∧ IdxAt g' kvs objs junk y self dd bd bj
end Mine
end
section
open PySem PySem.W
namespace Mine
theorem getD_in {l : List Int} {n : Nat} (h : n < l.length) : l.getD n 0 = l[n] := by
  rw [List.getD_eq_getElem?_getD, List.getElem?_eq_getElem h]; rfl
theorem take_drop_eq {l r : List Int} {i j k : Nat} (h1 : i + k ≤ l.length) (h2 : j + k ≤ r.length) : (l.drop i).take k = (r.drop j).take k ↔ ∀ t, t < k → l.getD (i + t) 0 = r.getD (j + t) 0 := by
  constructor
  · intro h t ht
    have : ((l.drop i).take k)[t]? = ((r.drop j).take k)[t]? := by rw [h]
    rw [List.getElem?_take_of_lt ht, List.getElem?_take_of_lt ht, List.getElem?_drop, List.getElem?_drop] at this
    rw [List.getD_eq_getElem?_getD, List.getD_eq_getElem?_getD, this]
  · intro h
    refine List.ext_getElem (by rw [List.length_take, List.length_take, List.length_drop, List.length_drop]; omega) fun t h3 h4 => ?_
    rw [List.length_take, List.length_drop] at h3
    have := h t (by omega)
    rw [List.getElem_take, List.getElem_take, List.getElem_drop, List.getElem_drop]
    rw [getD_in (by omega), getD_in (by omega)] at this
    exact this
theorem mem_take_drop {l : List Int} {i k : Nat} {x : Int} (h1 : i + k ≤ l.length) : x ∈ (l.drop i).take k ↔ ∃ t, t < k ∧ l.getD (i + t) 0 = x := by
  constructor
  · intro h
    obtain ⟨t, ht⟩ := List.mem_iff_getElem?.mp h
    have htk : t < k := by
      apply Classical.byContradiction
      intro e
      rw [List.getElem?_take_eq_none (by omega)] at ht
      cases ht
    rw [List.getElem?_take_of_lt htk, List.getElem?_drop] at ht
    exact ⟨t, htk, by rw [List.getD_eq_getElem?_getD, ht]; rfl⟩
  · rintro ⟨t, ht, e⟩
    refine List.mem_iff_getElem?.mpr ⟨t, ?_⟩
    rw [List.getElem?_take_of_lt ht, List.getElem?_drop]
    rw [getD_in (by omega)] at e
    rw [List.getElem?_eq_getElem (by omega), e]
/-- two windows of codes and the table of their matches -/
noncomputable def Cells (mt : Nat → Nat → Bool) (l r : List Int) (junk : Bool) : Prop := ∀ i j : Nat, i < 6 → j < 6 → (mt i j = true ↔ l.getD i 0 = r.getD j 0 ∧ (junk = true → l.getD i 0 ≠ 0))
theorem hit_iff {mt : Nat → Nat → Bool} {l r : List Int} {junk : Bool} (hc : Cells mt l r junk) (hl : l.length = 6) (hr : r.length = 6) (i j k : Nat) : HitN l r junk i j k ↔ 1 ≤ k ∧ i + k ≤ 6 ∧ j + k ≤ 6 ∧ ∀ t, t < k → mt (i + t) (j + t) = true := by
  constructor
  · rintro ⟨h1, h2, h3, h4, h5⟩
    refine ⟨h1, h2, h3, fun t ht => (hc _ _ (by omega) (by omega)).mpr ⟨(take_drop_eq (by omega) (by omega)).mp h4 t ht, fun hj e => ?_⟩⟩
    exact h5 hj ((mem_take_drop (by omega)).mpr ⟨t, ht, e⟩)
  · rintro ⟨h1, h2, h3, h4⟩
    refine ⟨h1, h2, h3, (take_drop_eq (by omega) (by omega)).mpr fun t ht => ((hc _ _ (by omega) (by omega)).mp (h4 t ht)).1, fun hj hm => ?_⟩
    obtain ⟨t, ht, e⟩ := (mem_take_drop (by omega)).mp hm
    exact ((hc _ _ (by omega) (by omega)).mp (h4 t ht)).2 hj e
theorem hit_of_suf {mt : Nat → Nat → Bool} {l r : List Int} {junk : Bool} (hc : Cells mt l r junk) (hl : l.length = 6) (hr : r.length = 6) {a b : Nat} (ha : a ≤ 6) (hb : b ≤ 6) (hp : 0 < sufS mt a b) :
    HitN l r junk (a - sufS mt a b) (b - sufS mt a b) (sufS mt a b) := by
  have hle := sufS_le mt a b
  refine (hit_iff hc hl hr _ _ _).mpr ⟨hp, by omega, by omega, fun t ht => ?_⟩
  have := sufS_run mt a b (sufS mt a b - 1 - t) (by omega)
  rw [show a - sufS mt a b + t = a - 1 - (sufS mt a b - 1 - t) by omega, show b - sufS mt a b + t = b - 1 - (sufS mt a b - 1 - t) by omega]
  exact this
theorem suf_of_hit {mt : Nat → Nat → Bool} {l r : List Int} {junk : Bool} (hc : Cells mt l r junk) (hl : l.length = 6) (hr : r.length = 6) {i j k : Nat} (h : HitN l r junk i j k) : k ≤ sufS mt (i + k) (j + k) :=
  sufS_ge mt i j k ((hit_iff hc hl hr i j k).mp h).2.2.2
theorem seen_le {mt : Nat → Nat → Bool} {a b : Nat} (hs : Seen 6 0 a b) (hp : 0 < sufS mt a b) : a ≤ 6 := by
  rcases hs.2 with h | ⟨_, h⟩
  · exact h
  · rw [Nat.le_zero.mp h, sufS_zero] at hp
    cases hp
theorem first_best {mt : Nat → Nat → Bool} {l r : List Int} {junk : Bool} {alo blo : Int} {t : Int × Int × Int} {i j k : Int} (hc : Cells mt l r junk) (hl : l.length = 6) (hr : r.length = 6) (hb : Best mt alo blo 6 0 t) (hf : FirstN l r junk i j k) : t = (alo + i, blo + j, k) := by
  rcases hf with ⟨rfl, rfl, rfl, hn⟩ | ⟨i0, j0, k0, rfl, rfl, rfl, hh, hm⟩
  · rcases hb with ⟨h1, _⟩ | ⟨a, b, hs, hp, _⟩
    · rw [h1, Int.add_zero, Int.add_zero]
    · exact absurd (hit_of_suf hc hl hr (seen_le hs hp) hs.1 hp) (hn _ _ _)
  · have hb1 := hh.1
    have hb2 := hh.2.1
    have hb3 := hh.2.2.1
    have hk := suf_of_hit hc hl hr hh
    have seen : Seen 6 0 (i0 + k0) (j0 + k0) := ⟨hb3, .inl hb2⟩
    rcases hb with ⟨h1, h2⟩ | ⟨a, b, hs, hp, h4, h5⟩
    · have := h2 _ _ seen
      omega
    · have hle := sufS_le mt a b
      have ha : a ≤ 6 := seen_le hs hp
      have hit := hit_of_suf hc hl hr ha hs.1 hp
      have c1 := hm _ _ _ hit
      have c2 := h5 _ _ seen
      rw [h4]
      have e1 : sufS mt a b = k0 := by omega
      have e2 : a - k0 = i0 := by omega
      have e3 : b - k0 = j0 := by omega
      rw [e1]
      congr 1
      · omega
      · congr 1
        omega
theorem wDown_shift {g g' : Int → Int → Bool} {alo blo : Int} (hg : ∀ i j : Nat, i < 6 → j < 6 → g (alo + i) (blo + j) = g' i j) : ∀ (n : Nat) (i j k : Int), i ≤ 6 → j ≤ 6 →
    wDown g alo blo n (alo + i, blo + j, k) = (alo + (wDown g' 0 0 n (i, j, k)).1, blo + (wDown g' 0 0 n (i, j, k)).2.1, (wDown g' 0 0 n (i, j, k)).2.2)
  | 0, _, _, _, _, _ => rfl
  | n + 1, i, j, k, h1, h2 => by
    have hq : (alo < alo + i ∧ blo < blo + j ∧ g (alo + i - 1) (blo + j - 1) = true) ↔ (0 < i ∧ 0 < j ∧ g' (i - 1) (j - 1) = true) := by
      by_cases hi : 0 < i
      · by_cases hj : 0 < j
        · have := hg (i - 1).toNat (j - 1).toNat (by omega) (by omega)
          rw [show ((i - 1).toNat : Int) = i - 1 by omega, show ((j - 1).toNat : Int) = j - 1 by omega, show alo + (i - 1) = alo + i - 1 by omega, show blo + (j - 1) = blo + j - 1 by omega] at this
          rw [this]
          exact ⟨fun h => ⟨hi, hj, h.2.2⟩, fun h => ⟨by omega, by omega, h.2.2⟩⟩
        · exact ⟨fun h => absurd h.2.1 (by omega), fun h => absurd h.2.1 hj⟩
      · exact ⟨fun h => absurd h.1 (by omega), fun h => absurd h.1 hi⟩
    unfold wDown
    dsimp only
    by_cases hc : 0 < i ∧ 0 < j ∧ g' (i - 1) (j - 1) = true
    · rw [if_pos (hq.mpr hc), if_pos hc, show alo + i - 1 = alo + (i - 1) by omega, show blo + j - 1 = blo + (j - 1) by omega]
      exact wDown_shift hg n _ _ _ (by omega) (by omega)
    · rw [if_neg (fun h => hc (hq.mp h)), if_neg hc]
theorem wUp_shift {g g' : Int → Int → Bool} {alo blo : Int} (hg : ∀ i j : Nat, i < 6 → j < 6 → g (alo + i) (blo + j) = g' i j) : ∀ (n : Nat) (i j k : Int), 0 ≤ i → 0 ≤ j → 0 ≤ k →
    wUp g (alo + 6) (blo + 6) n (alo + i, blo + j, k) = (alo + (wUp g' 6 6 n (i, j, k)).1, blo + (wUp g' 6 6 n (i, j, k)).2.1, (wUp g' 6 6 n (i, j, k)).2.2)
  | 0, _, _, _, _, _, _ => rfl
  | n + 1, i, j, k, h1, h2, h3 => by
    have hq : (alo + i + k < alo + 6 ∧ blo + j + k < blo + 6 ∧ g (alo + i + k) (blo + j + k) = true) ↔ (i + k < 6 ∧ j + k < 6 ∧ g' (i + k) (j + k) = true) := by
      by_cases hi : i + k < 6
      · by_cases hj : j + k < 6
        · have := hg (i + k).toNat (j + k).toNat (by omega) (by omega)
          rw [show ((i + k).toNat : Int) = i + k by omega, show ((j + k).toNat : Int) = j + k by omega, show alo + (i + k) = alo + i + k by omega, show blo + (j + k) = blo + j + k by omega] at this
          rw [this]
          exact ⟨fun h => ⟨hi, hj, h.2.2⟩, fun h => ⟨by omega, by omega, h.2.2⟩⟩
        · exact ⟨fun h => absurd h.2.1 (by omega), fun h => absurd h.2.1 hj⟩
      · exact ⟨fun h => absurd h.1 (by omega), fun h => absurd h.1 hi⟩
    unfold wUp
    dsimp only
    by_cases hc : i + k < 6 ∧ j + k < 6 ∧ g' (i + k) (j + k) = true
    · rw [if_pos (hq.mpr hc), if_pos hc]
      exact wUp_shift hg n _ _ _ h1 h2 (by omega)
    · rw [if_neg (fun h => hc (hq.mp h)), if_neg hc]
theorem wDown_box {g : Int → Int → Bool} : ∀ (n : Nat) (t : Int × Int × Int), Box4 0 0 t → Box4 0 0 (wDown g 0 0 n t)
  | 0, _, h => h
  | n + 1, t, h => by
    unfold wDown
    split
    · rename_i hc
      obtain ⟨h1, h2, h3, h4, h5⟩ := h
      exact wDown_box n _ ⟨by dsimp only; omega, by dsimp only; omega, by dsimp only; omega, by dsimp only; omega, by dsimp only; omega⟩
    · exact h
/-- no longer a run than the first one -/
theorem first_max {mt : Nat → Nat → Bool} {l r : List Int} {junk : Bool} {i j k : Int} (hc : Cells mt l r junk) (hl : l.length = 6) (hr : r.length = 6) (hf : FirstN l r junk i j k) :
    ¬ (0 < i ∧ 0 < j ∧ mt (i - 1).toNat (j - 1).toNat = true) ∧ ¬ (i + k < 6 ∧ j + k < 6 ∧ mt (i + k).toNat (j + k).toNat = true) := by
  rcases hf with ⟨rfl, rfl, rfl, hn⟩ | ⟨i0, j0, k0, rfl, rfl, rfl, hh, hm⟩
  · refine ⟨fun h => absurd h.1 (by omega), fun h => ?_⟩
    refine hn 0 0 1 ((hit_iff hc hl hr _ _ _).mpr ⟨Nat.le_refl _, by omega, by omega, fun t ht => ?_⟩)
    obtain rfl : t = 0 := by omega
    exact h.2.2
  · obtain ⟨h1, h2, h3, h4⟩ := (hit_iff hc hl hr _ _ _).mp hh
    constructor
    · rintro ⟨a1, a2, a3⟩
      have : HitN l r junk (i0 - 1) (j0 - 1) (k0 + 1) := (hit_iff hc hl hr _ _ _).mpr ⟨by omega, by omega, by omega, fun t ht => by
        cases t with
        | zero =>
          rw [show i0 - 1 + 0 = ((i0 : Int) - 1).toNat by omega, show j0 - 1 + 0 = ((j0 : Int) - 1).toNat by omega]
          exact a3
        | succ t =>
          rw [show i0 - 1 + (t + 1) = i0 + t by omega, show j0 - 1 + (t + 1) = j0 + t by omega]
          exact h4 t (by omega)⟩
      have := hm _ _ _ this
      omega
    · rintro ⟨a1, a2, a3⟩
      have : HitN l r junk i0 j0 (k0 + 1) := (hit_iff hc hl hr _ _ _).mpr ⟨by omega, by omega, by omega, fun t ht => by
        rcases Nat.lt_or_ge t k0 with h | h
        · exact h4 t h
        · obtain rfl : t = k0 := by omega
          rw [show i0 + t = ((i0 : Int) + (t : Int)).toNat by omega, show j0 + t = ((j0 : Int) + (t : Int)).toNat by omega]
          exact a3⟩
      have := hm _ _ _ this
      omega
/-- the matcher's block is the law's, moved -/
theorem flm_is {S : Str → Bool} {x y : Str} {row : Nat → List Int} {alo blo : Int} {mt : Nat → Nat → Bool} {l r : List Int} {junk : Bool} {i j k : Int} (hc : Cells mt l r junk) (hl : l.length = 6) (hr : r.length = 6)
    (hs : ∀ n, n < 6 → (row n).Pairwise (· < ·)) (hm : ∀ n b : Nat, n < 6 → b < 6 → (mt n b = true ↔ blo + b ∈ row n))
    (hN : ∀ i j : Nat, i < 6 → j < 6 → (!S (PySem.Txt.item y (blo + j)) && (PySem.Txt.item x (alo + i) == PySem.Txt.item y (blo + j))) = mt i j)
    (hJ : ∀ i j : Nat, i < 6 → j < 6 → (S (PySem.Txt.item y (blo + j)) && (PySem.Txt.item x (alo + i) == PySem.Txt.item y (blo + j))) = (junk && gz l r i j))
    (hf : FirstN l r junk i j k) : Box4 alo blo (outGo row alo blo 6).2 ∧ flmOut S x y row alo blo = (alo + (extN l r junk (i, j, k)).1, blo + (extN l r junk (i, j, k)).2.1, (extN l r junk (i, j, k)).2.2) := by
  have ho := first_best (alo := alo) hc hl hr (outGo_best hs hm 6 (Nat.le_refl _)).2 hf
  obtain ⟨b1, b2, b3, b4, b5⟩ := first_box hf
  dsimp only at b1 b2 b3 b4 b5
  obtain ⟨m1, m2⟩ := first_max hc hl hr hf
  have g1 : flm1 S x y row alo blo = (alo + i, blo + j, k) := by
    unfold flm1
    rw [ho]
    refine wDown_stop ?_ _
    rintro ⟨a1, a2, a3⟩
    refine m1 ⟨by omega, by omega, ?_⟩
    rw [← hN _ _ (by omega) (by omega), show blo + ((j - 1).toNat : Int) = blo + j - 1 by omega, show alo + ((i - 1).toNat : Int) = alo + i - 1 by omega]
    exact a3
  have g2 : flm2 S x y row alo blo = (alo + i, blo + j, k) := by
    unfold flm2
    rw [g1]
    refine wUp_stop ?_ _
    rintro ⟨a1, a2, a3⟩
    refine m2 ⟨by omega, by omega, ?_⟩
    rw [← hN _ _ (by omega) (by omega), show blo + ((j + k).toNat : Int) = blo + j + k by omega, show alo + ((i + k).toNat : Int) = alo + i + k by omega]
    exact a3
  refine ⟨by rw [ho]; exact ⟨by dsimp only; omega, by dsimp only; omega, by dsimp only; omega, by dsimp only; omega, by dsimp only; omega⟩, ?_⟩
  have g3 : flm3 S x y row alo blo = wDown (fun i j => S (PySem.Txt.item y j) && (PySem.Txt.item x i == PySem.Txt.item y j)) alo blo (alo + i - alo).toNat (alo + i, blo + j, k) := by
    unfold flm3
    rw [g2]
  rw [wDown_shift (g' := fun i j => junk && gz l r i j) hJ (alo + i - alo).toNat i j k (by omega) (by omega)] at g3
  rw [show (alo + i - alo).toNat = (i - 0).toNat by omega] at g3
  obtain ⟨c1, c2, c3, c4, c5⟩ := wDown_box (g := fun i j => junk && gz l r i j) (i - 0).toNat (i, j, k) (first_box hf)
  unfold flmOut extN
  dsimp only
  rw [g3]
  dsimp only
  rw [show (alo + 6 - (alo + (wDown (fun i j => junk && gz l r i j) 0 0 (i - 0).toNat (i, j, k)).1 + (wDown (fun i j => junk && gz l r i j) 0 0 (i - 0).toNat (i, j, k)).2.2)).toNat = (6 - ((wDown (fun i j => junk && gz l r i j) 0 0 (i - 0).toNat (i, j, k)).1 + (wDown (fun i j => junk && gz l r i j) 0 0 (i - 0).toNat (i, j, k)).2.2)).toNat by omega]
  exact wUp_shift hJ _ _ _ _ c1 c3 c5
end Mine
end
section
open PySem PySem.W
namespace Mine
theorem bitAnd_nat (m k : Nat) : Builtin.bitAnd (m : Int) (k : Int) = ((m &&& k : Nat) : Int) := by
  unfold Builtin.bitAnd
  rw [decide_eq_true (Int.natCast_nonneg m), decide_eq_true (Int.natCast_nonneg k)]
  rfl
/-- has m the bit? -/
noncomputable def hasB (m k : Nat) : Bool := m.testBit k
theorem and_bit (m k : Nat) : m &&& 2 ^ k = if hasB m k = true then 2 ^ k else 0 := by
  refine Nat.eq_of_testBit_eq fun i => ?_
  rw [Nat.testBit_and, Nat.testBit_two_pow]
  unfold hasB
  by_cases e : k = i
  · subst e
    cases h : m.testBit k
    · simp
    · simp [Nat.testBit_two_pow]
  · rw [decide_eq_false e, Bool.and_false]
    split
    · rw [Nat.testBit_two_pow, decide_eq_false e]
    · rw [Nat.zero_testBit]
theorem and1 (m k b : Nat) (hb : b = 2 ^ k) : (Builtin.bitAnd (m : Int) (b : Int) = (b : Int)) ↔ hasB m k = true := by
  rw [bitAnd_nat, hb, and_bit, Int.ofNat_inj]
  by_cases h : hasB m k = true
  · rw [if_pos h]; simp [h]
  · rw [if_neg h]
    exact ⟨fun q => absurd q.symm (Nat.ne_of_gt (Nat.two_pow_pos k)), fun q => absurd q h⟩
theorem and2 (m j k b : Nat) (hb : b = 2 ^ j ||| 2 ^ k) (hjk : ∀ x ∈ [0, 2 ^ j], ∀ y ∈ [0, 2 ^ k], x ||| y = 2 ^ j ||| 2 ^ k → x = 2 ^ j ∧ y = 2 ^ k) : (Builtin.bitAnd (m : Int) (b : Int) = (b : Int)) ↔ hasB m j = true ∧ hasB m k = true := by
  rw [bitAnd_nat, hb, Nat.and_or_distrib_left, and_bit, and_bit, Int.ofNat_inj]
  have hj := Nat.ne_of_gt (Nat.two_pow_pos j)
  have hk := Nat.ne_of_gt (Nat.two_pow_pos k)
  constructor
  · intro h
    have := hjk _ (by split <;> simp) _ (by split <;> simp) h
    constructor
    · apply Classical.byContradiction
      intro q
      rw [if_neg q] at this
      exact hj this.1.symm
    · apply Classical.byContradiction
      intro q
      rw [if_neg q] at this
      exact hk this.2.symm
  · rintro ⟨h1, h2⟩
    rw [if_pos h1, if_pos h2]
theorem row_one (m k b : Nat) (c : Str) (hb : b = 2 ^ k) : rowSign (m : Int) [((b : Int), c)] = if hasB m k = true then c else dashS := by
  unfold rowSign rowSign
  by_cases h : hasB m k = true
  · rw [if_pos ((and1 m k b hb).mpr h), if_pos h]
  · rw [if_neg (fun q => h ((and1 m k b hb).mp q)), if_neg h]; rfl
theorem row_three (m j k b bj bk : Nat) (c1 c2 c3 : Str) (hb : b = 2 ^ j ||| 2 ^ k) (hbj : bj = 2 ^ j) (hbk : bk = 2 ^ k) (hjk : ∀ x ∈ [0, 2 ^ j], ∀ y ∈ [0, 2 ^ k], x ||| y = 2 ^ j ||| 2 ^ k → x = 2 ^ j ∧ y = 2 ^ k) :
    rowSign (m : Int) [((b : Int), c1), ((bj : Int), c2), ((bk : Int), c3)] = if hasB m j = true then (if hasB m k = true then c1 else c2) else if hasB m k = true then c3 else dashS := by
  unfold rowSign rowSign rowSign rowSign
  have a2 := and2 m j k b hb hjk
  have aj := and1 m j bj hbj
  have ak := and1 m k bk hbk
  by_cases hj : hasB m j = true
  · by_cases hk : hasB m k = true
    · rw [if_pos (a2.mpr ⟨hj, hk⟩), if_pos hj, if_pos hk]
    · rw [if_neg (fun q => hk (a2.mp q).2), if_pos (aj.mpr hj), if_pos hj, if_neg hk]
  · rw [if_neg (fun q => hj (a2.mp q).1), if_neg (fun q => hj (aj.mp q)), if_neg hj]
    by_cases hk : hasB m k = true
    · rw [if_pos (ak.mpr hk), if_pos hk]
    · rw [if_neg (fun q => hk (ak.mp q)), if_neg hk]; rfl
theorem nineSigns_is (m : Nat) : nineSigns (m : Int) = [if hasB m 8 = true then Str.ofString "r" else dashS, if hasB m 7 = true then Str.ofString "w" else dashS, if hasB m 11 = true then (if hasB m 6 = true then Str.ofString "s" else Str.ofString "S") else if hasB m 6 = true then Str.ofString "x" else dashS,
    if hasB m 5 = true then Str.ofString "r" else dashS, if hasB m 4 = true then Str.ofString "w" else dashS, if hasB m 10 = true then (if hasB m 3 = true then Str.ofString "s" else Str.ofString "S") else if hasB m 3 = true then Str.ofString "x" else dashS,
    if hasB m 2 = true then Str.ofString "r" else dashS, if hasB m 1 = true then Str.ofString "w" else dashS, if hasB m 9 = true then (if hasB m 0 = true then Str.ofString "t" else Str.ofString "T") else if hasB m 0 = true then Str.ofString "x" else dashS] := by
  rw [← row_one m 8 256 _ rfl, ← row_one m 7 128 _ rfl, ← row_three m 11 6 2112 2048 64 _ _ _ rfl rfl rfl (by decide), ← row_one m 5 32 _ rfl, ← row_one m 4 16 _ rfl, ← row_three m 10 3 1032 1024 8 _ _ _ rfl rfl rfl (by decide), ← row_one m 2 4 _ rfl, ← row_one m 1 2 _ rfl, ← row_three m 9 0 513 512 1 _ _ _ rfl rfl rfl (by decide)]
  rfl
theorem bit_val (m k : Nat) (b : Int) (hb : b = ((2 ^ k : Nat) : Int)) : ((m : Int).fdiv b).fmod 2 = if hasB m k = true then 1 else 0 := by
  have h := Nat.toNat_testBit m k
  have e : ((m : Int).fdiv b).fmod 2 = ((m / 2 ^ k % 2 : Nat) : Int) := by
    rw [hb, ← Int.ofNat_fdiv]
    exact (Int.ofNat_fmod _ 2).symm
  rw [e, ← h]
  unfold hasB
  cases m.testBit k <;> rfl
noncomputable def bI (b : Bool) : Int := if b = true then 1 else 0
theorem nine_is (m : Nat) : nine (m : Int) = [bI (hasB m 8), 2 * bI (hasB m 7), if hasB m 11 = true then 4 + bI (hasB m 6) + 0 else 3 * bI (hasB m 6), bI (hasB m 5), 2 * bI (hasB m 4), if hasB m 10 = true then 4 + bI (hasB m 3) + 0 else 3 * bI (hasB m 3),
    bI (hasB m 2), 2 * bI (hasB m 1), if hasB m 9 = true then 4 + bI (hasB m 0) + 2 else 3 * bI (hasB m 0)] := by
  unfold nine
  rw [bit_val m 8 (4 * 8 ^ Int.toNat 2) (by decide), bit_val m 7 (2 * 8 ^ Int.toNat 2) (by decide), bit_val m 11 (2 ^ (9 + 2 : Int).toNat) (by decide), bit_val m 6 (8 ^ Int.toNat 2) (by decide), bit_val m 5 (4 * 8 ^ Int.toNat 1) (by decide), bit_val m 4 (2 * 8 ^ Int.toNat 1) (by decide), bit_val m 10 (2 ^ (9 + 1 : Int).toNat) (by decide), bit_val m 3 (8 ^ Int.toNat 1) (by decide), bit_val m 2 (4 * 8 ^ Int.toNat 0) (by decide), bit_val m 1 (2 * 8 ^ Int.toNat 0) (by decide), bit_val m 9 (2 ^ (9 + 0 : Int).toNat) (by decide), bit_val m 0 (8 ^ Int.toNat 0) (by decide)]
  unfold bI
  cases hasB m 11 <;> cases hasB m 10 <;> cases hasB m 9 <;> rfl
/-- the sign that a code tells -/
noncomputable def codeSign (c : Int) : Str := PySem.Txt.item (Str.ofString "-rwxSsTt") c
theorem signs_codes (m : Nat) : nineSigns (m : Int) = (nine (m : Int)).map codeSign := by
  rw [nineSigns_is, nine_is]
  simp only [List.map_cons, List.map_nil]
  have q1 : ∀ b : Bool, (if b = true then Str.ofString "r" else dashS) = codeSign (bI b) := by decide
  have q2 : ∀ b : Bool, (if b = true then Str.ofString "w" else dashS) = codeSign (2 * bI b) := by decide
  have q3 : ∀ a b : Bool, (if a = true then (if b = true then Str.ofString "s" else Str.ofString "S") else if b = true then Str.ofString "x" else dashS) = codeSign (if a = true then 4 + bI b + 0 else 3 * bI b) := by decide
  have q4 : ∀ a b : Bool, (if a = true then (if b = true then Str.ofString "t" else Str.ofString "T") else if b = true then Str.ofString "x" else dashS) = codeSign (if a = true then 4 + bI b + 2 else 3 * bI b) := by decide
  rw [q1, q1, q1, q2, q2, q2, q3, q3, q4]
theorem nine_range (m : Nat) : ∀ c ∈ nine (m : Int), 0 ≤ c ∧ c < 8 := by
  rw [nine_is]
  have q1 : ∀ b : Bool, 0 ≤ bI b ∧ bI b < 8 := by decide
  have q2 : ∀ b : Bool, 0 ≤ 2 * bI b ∧ 2 * bI b < 8 := by decide
  have q3 : ∀ a b : Bool, 0 ≤ (if a = true then 4 + bI b + 0 else 3 * bI b) ∧ (if a = true then 4 + bI b + 0 else 3 * bI b) < 8 := by decide
  have q4 : ∀ a b : Bool, 0 ≤ (if a = true then 4 + bI b + 2 else 3 * bI b) ∧ (if a = true then 4 + bI b + 2 else 3 * bI b) < 8 := by decide
  intro c hc
  simp only [List.mem_cons, List.not_mem_nil, or_false] at hc
  rcases hc with rfl | rfl | rfl | rfl | rfl | rfl | rfl | rfl | rfl <;> first | exact q1 _ | exact q2 _ | exact q3 _ _ | exact q4 _ _
theorem nine_len (m : Int) : (nine m).length = 9 := rfl
theorem sign_inj {a b : Int} (ha : 0 ≤ a ∧ a < 8) (hb : 0 ≤ b ∧ b < 8) (h : codeSign a = codeSign b) : a = b := by
  have key : ∀ a : Fin 8, ∀ b : Fin 8, codeSign (a.val : Int) = codeSign (b.val : Int) → a = b := by decide
  have := key ⟨a.toNat, by omega⟩ ⟨b.toNat, by omega⟩ (by
    dsimp only
    rw [show ((a.toNat : Nat) : Int) = a by omega, show ((b.toNat : Nat) : Int) = b by omega]; exact h)
  have := congrArg Fin.val this
  dsimp only at this
  omega
theorem codeSign_zero : codeSign 0 = dashS := by decide
theorem join_cps (l : List Str) (h : ∀ a ∈ l, a.length = 1) : PySem.Txt.join (Str.ofString "") l = ⟨(l.map fun s => s.cps.getD 0 0).toArray⟩ := by
  have e : l = (l.map fun s => s.cps.getD 0 0).map fun k => (⟨#[k]⟩ : Str) := by
    rw [List.map_map]
    refine (List.map_id l).symm.trans (List.map_congr_left fun s hs => ?_)
    have hl := h s hs
    obtain ⟨⟨cs⟩⟩ := s
    have hl' : cs.length = 1 := hl
    match cs, hl' with
    | [c], _ => rfl
  unfold PySem.Txt.join
  rw [StrLaws.glued_eq_join]
  conv => lhs; rw [e]
  exact PyProof.Rows.join_ones _
theorem nineSigns_len (m : Int) : (nineSigns m).length = 9 := by unfold nineSigns; rw [List.length_map]; rfl
theorem fm_cps {m : Int} {x : Str} (h : FmText m x) : ∃ c0, x = ⟨(c0 :: (nineSigns m).map fun s => s.cps.getD 0 0).toArray⟩ := by
  obtain ⟨k0, h1, rfl⟩ := h
  refine ⟨k0.cps.getD 0 0, ?_⟩
  rw [join_cps _ (fun a ha => ?_)]
  · rfl
  · rcases List.mem_cons.mp ha with rfl | ha
    · exact h1
    · exact nine_one a ha
theorem fm_len {m : Int} {x : Str} (h : FmText m x) : x.length = 10 := by
  obtain ⟨c0, rfl⟩ := fm_cps h
  show (c0 :: (nineSigns m).map fun s => s.cps.getD 0 0).length = 10
  rw [List.length_cons, List.length_map, nineSigns_len]
theorem codeSign_one (c : Int) : codeSign c = ⟨#[(codeSign c).cps.getD 0 0]⟩ := rfl
theorem fm_sgn {m : Int} {x : Str} (h : FmText m x) (h0 : 0 ≤ m) (i : Nat) (hi : i < 9) : sgn x (i + 1) = codeSign ((nine m).getD i 0) := by
  obtain ⟨n, rfl⟩ : ∃ n : Nat, m = n := ⟨m.toNat, by omega⟩
  obtain ⟨c0, rfl⟩ := fm_cps h
  unfold sgn
  have e : ((⟨(c0 :: (nineSigns (n : Int)).map fun s => s.cps.getD 0 0).toArray⟩ : Str).cps).getD (i + 1) 0 = (codeSign ((nine (n : Int)).getD i 0)).cps.getD 0 0 := by
    rw [signs_codes, List.map_map]
    show (c0 :: (nine (n : Int)).map _).toArray.getD (i + 1) 0 = _
    rw [Array.getD_eq_getD_getElem?, List.getElem?_toArray, List.getElem?_cons_succ, List.getElem?_map, List.getD_eq_getElem?_getD]
    have hl : i < (nine (n : Int)).length := hi
    rw [List.getElem?_eq_getElem hl]
    rfl
  rw [e]
  exact (codeSign_one _).symm
theorem nine_range' {m : Int} (h0 : 0 ≤ m) (i : Nat) : 0 ≤ (nine m).getD i 0 ∧ (nine m).getD i 0 < 8 := by
  obtain ⟨n, rfl⟩ : ∃ n : Nat, m = n := ⟨m.toNat, by omega⟩
  rw [List.getD_eq_getElem?_getD]
  cases e : (nine (n : Int))[i]? with
  | none => exact ⟨Int.le_refl _, by decide⟩
  | some c => exact nine_range n c (List.mem_of_getElem? e)
end Mine
end
section
open PySem PySem.W
namespace Mine
theorem best_box {mt : Nat → Nat → Bool} {alo blo : Int} {t : Int × Int × Int} (h : Best mt alo blo 6 0 t) : Box4 alo blo t := by
  rcases h with ⟨rfl, _⟩ | ⟨a, b, hs, hp, rfl, _⟩
  · exact ⟨by dsimp only; omega, by dsimp only; omega, by dsimp only; omega, by dsimp only; omega, by dsimp only; omega⟩
  · have := sufS_le mt a b
    have := seen_le hs hp
    have := hs.1
    exact ⟨by dsimp only; omega, by dsimp only; omega, by dsimp only; omega, by dsimp only; omega, by dsimp only; omega⟩
/-- six of the nine codes, from p on -/
noncomputable def win (m p : Int) : List Int := ((nine m).drop p.toNat).take 6
theorem win_len {m p : Int} (hp : p = 0 ∨ p = 3) : (win m p).length = 6 := by
  rcases hp with rfl | rfl <;> rfl
theorem win_getD {m p : Int} {i : Nat} (hi : i < 6) : (win m p).getD i 0 = (nine m).getD (p.toNat + i) 0 := by
  unfold win
  rw [List.getD_eq_getElem?_getD, List.getElem?_take_of_lt hi, List.getElem?_drop, ← List.getD_eq_getElem?_getD]
theorem win_is {m p : Int} (hp : p = 0 ∨ p = 3) : List.take (min (p + 6).toNat (nine m).length - p.toNat) (List.drop p.toNat (nine m)) = win m p := by
  rcases hp with rfl | rfl <;> rfl
theorem win_item {m p : Int} {x : Str} (h : FmText m x) (h0 : 0 ≤ m) (hp : p = 0 ∨ p = 3) {i : Nat} (hi : i < 6) : PySem.Txt.item x (1 + p + i) = codeSign ((win m p).getD i 0) := by
  rw [win_getD hi, ← fm_sgn h h0 (p.toNat + i) (by rcases hp with rfl | rfl <;> simp <;> omega)]
  rw [show 1 + p + (i : Int) = ((p.toNat + i + 1 : Nat) : Int) by rcases hp with rfl | rfl <;> simp <;> omega]
  exact item_sgn (fm_len h) (by rcases hp with rfl | rfl <;> simp <;> omega)
theorem win_range {m p : Int} (h0 : 0 ≤ m) {i : Nat} (hi : i < 6) : 0 ≤ (win m p).getD i 0 ∧ (win m p).getD i 0 < 8 := by
  rw [win_getD hi]; exact nine_range' h0 _
theorem sign_eq {a b : Int} (ha : 0 ≤ a ∧ a < 8) (hb : 0 ≤ b ∧ b < 8) : codeSign a = codeSign b ↔ a = b := ⟨sign_inj ha hb, fun h => by rw [h]⟩
theorem sign_dash {a : Int} (ha : 0 ≤ a ∧ a < 8) : codeSign a = dashS ↔ a = 0 := by
  rw [← codeSign_zero]; exact sign_eq ha ⟨by decide, by decide⟩
/-- the matches of the two windows -/
noncomputable def mtOf (l r : List Int) (junk : Bool) (i j : Nat) : Bool := decide (l.getD i 0 = r.getD j 0 ∧ (junk = true → l.getD i 0 ≠ 0))
noncomputable def rowsOf (junk : Bool) (x y : Str) (alo : Int) (n : Nat) : List Int := rowOf junk y (PySem.Txt.item x (alo + n * 1))
section
variable {m1 m2 p q : Int} {x y : Str} {junk : Bool}
theorem win_junk (hy : FmText m2 y) (h2 : 0 ≤ m2) (hq : q = 0 ∨ q = 3) {j : Nat} (hj : j < 6) : junkOf junk y (PySem.Txt.item y (1 + q + j)) = (junk && decide ((win m2 q).getD j 0 = 0)) := by
  have e : PySem.Txt.item y (1 + q + j) = sgn y (q.toNat + j + 1) := by
    rw [show 1 + q + (j : Int) = ((q.toNat + j + 1 : Nat) : Int) by rcases hq with rfl | rfl <;> simp <;> omega]
    exact item_sgn (fm_len hy) (by rcases hq with rfl | rfl <;> simp <;> omega)
  have e2 := win_item hy h2 hq hj
  rw [e, junkOf_at _ _ _ (by rcases hq with rfl | rfl <;> simp <;> omega), ← e, e2]
  congr 1
  exact decide_eq_decide.mpr (sign_dash (win_range h2 hj))
theorem win_rows (hx : FmText m1 x) (hy : FmText m2 y) (h1 : 0 ≤ m1) (h2 : 0 ≤ m2) (hp : p = 0 ∨ p = 3) (hq : q = 0 ∨ q = 3) (n b : Nat) (hn : n < 6) (hb : b < 6) :
    mtOf (win m1 p) (win m2 q) junk n b = true ↔ 1 + q + b ∈ rowsOf junk x y (1 + p) n := by
  unfold rowsOf mtOf
  rw [Int.mul_one, win_item hx h1 hp hn, show 1 + q + (b : Int) = ((q.toNat + b + 1 : Nat) : Int) by rcases hq with rfl | rfl <;> simp <;> omega, rowOf_mem _ _ _ _ (by rcases hq with rfl | rfl <;> simp <;> omega),
    fm_sgn hy h2 _ (by rcases hq with rfl | rfl <;> simp <;> omega), ← win_getD hb, decide_eq_true_eq, sign_dash (win_range h1 hn), sign_eq (win_range h2 hb) (win_range h1 hn)]
  constructor
  · rintro ⟨a, b⟩
    exact ⟨a.symm, fun c => b c.1 c.2⟩
  · rintro ⟨a, b⟩
    exact ⟨a.symm, fun c d => b ⟨c, d⟩⟩
theorem win_eq (hx : FmText m1 x) (hy : FmText m2 y) (h1 : 0 ≤ m1) (h2 : 0 ≤ m2) (hp : p = 0 ∨ p = 3) (hq : q = 0 ∨ q = 3) {i j : Nat} (hi : i < 6) (hj : j < 6) :
    (PySem.Txt.item x (1 + p + i) == PySem.Txt.item y (1 + q + j)) = decide ((win m1 p).getD i 0 = (win m2 q).getD j 0) := by
  rw [win_item hx h1 hp hi, win_item hy h2 hq hj]
  have := sign_eq (win_range (p := p) h1 hi) (win_range (p := q) h2 hj)
  by_cases e : (win m1 p).getD i 0 = (win m2 q).getD j 0
  · rw [decide_eq_true e, e]; exact beq_self_eq_true _
  · rw [decide_eq_false e]; exact beq_eq_false_iff_ne.mpr fun h => e (this.mp h)
theorem agree_box (hx : FmText m1 x) (hy : FmText m2 y) (h1 : 0 ≤ m1) (h2 : 0 ≤ m2) (hp : p = 0 ∨ p = 3) (hq : q = 0 ∨ q = 3) : Box4 (1 + p) (1 + q) (outGo (rowsOf junk x y (1 + p)) (1 + p) (1 + q) 6).2 :=
  best_box (outGo_best (mt := mtOf (win m1 p) (win m2 q) junk) (fun n _ => rowOf_sorted _ _ _) (win_rows hx hy h1 h2 hp hq) 6 (Nat.le_refl _)).2
/-- THE PLAIN LAW -/
theorem agree_plain (hx : FmText m1 x) (hy : FmText m2 y) (h1 : 0 ≤ m1) (h2 : 0 ≤ m2) (hp : p = 0 ∨ p = 3) (hq : q = 0 ∨ q = 3) {t : Int × Int × Int} (hf : FirstN (win m1 p) (win m2 q) junk t.1 t.2.1 t.2.2) :
    flmOut (junkOf junk y) x y (rowsOf junk x y (1 + p)) (1 + p) (1 + q) = (1 + p + (extN (win m1 p) (win m2 q) junk t).1, 1 + q + (extN (win m1 p) (win m2 q) junk t).2.1, (extN (win m1 p) (win m2 q) junk t).2.2) := by
  refine (flm_is (mt := mtOf (win m1 p) (win m2 q) junk) (i := t.1) (j := t.2.1) (k := t.2.2) ?_ (win_len hp) (win_len hq) (fun n _ => rowOf_sorted _ _ _) (win_rows hx hy h1 h2 hp hq) ?_ ?_ hf).2
  · intro i j _ _
    unfold mtOf
    rw [decide_eq_true_eq]
  · intro i j hi hj
    rw [win_eq hx hy h1 h2 hp hq hi hj, win_junk hy h2 hq hj]
    unfold mtOf
    by_cases e : (win m1 p).getD i 0 = (win m2 q).getD j 0
    · rw [e]
      by_cases z : (win m2 q).getD j 0 = 0
      · rw [z]; cases junk <;> rfl
      · simp [z]
    · rw [decide_eq_false e, Bool.and_false, decide_eq_false (fun h => e h.1)]
  · intro i j hi hj
    rw [win_eq hx hy h1 h2 hp hq hi hj, win_junk hy h2 hq hj]
    unfold gz
    rw [Int.toNat_natCast, Int.toNat_natCast]
    by_cases e : (win m1 p).getD i 0 = (win m2 q).getD j 0
    · rw [e]; cases junk <;> simp
    · rw [decide_eq_false e]
      by_cases z : (win m2 q).getD j 0 = 0
      · have : ¬ (win m1 p).getD i 0 = 0 := fun q => e (q.trans z.symm)
        rw [decide_eq_false this]; simp
      · rw [decide_eq_false z]; simp
end
end Mine
end
section
open PySem PySem.W PySem.Calls PyProof.Rows
namespace Mine
theorem halt_call {M : Model} {A : Around} {Q : Value → Shared → Prop} {E : Value → Shared → Prop} {s : Shared} {f : Addr} {vs : List Value} (h : HaltW (wpAny M A (call (.ref f) vs) Q E s)) : wpAny M A (call (.ref f) vs) Q E s := h
theorem ag_cut {M : Model} {A : Around} {t : Sem Flow} {Q : Flow → Shared → Prop} {E : Value → Shared → Prop} {s : Shared} {w : World} {g' : Heap} {L' : Addr} {m0 : Str → Option Value} (junk : Bool) (m1 m2 : Int) (_ : Fr g' L' s.heap m0)
    (first : wpAny M A t (AgMid w g' L' m0 junk m1 m2 s) E s) (rest : ∀ f s', AgMid w g' L' m0 junk m1 m2 s f s' → Q f s') : wpAny M A t Q E s := wpAny_mono first rest fun _ _ x => x
end Mine
end
section
open PySem PySem.W PySem.Calls PyProof.Rows
namespace Mine
theorem halt_call1 {M : Model} {A : Around} {Q : Value → Shared → Prop} {E : Value → Shared → Prop} {s : Shared} {f a : Addr} {vs : List Value} (h : HaltW (wpAny M A (call (.ref f) (Value.ref a :: vs)) Q E s)) : wpAny M A (call (Value.ref f, [Value.ref a]).1 ((Value.ref f, [Value.ref a]).2 ++ vs)) Q E s := h
theorem news_cons {h₀ h : Heap} {L x : Addr} {o : Obj} {news : List (Addr × Obj)} (h1 : h.get? x = some o ∧ x ≠ L ∧ h₀.get? x = none) (N : News h₀ L h news) : News h₀ L h ((x, o) :: news) := List.forall_mem_cons.mpr ⟨h1, N⟩
theorem new_one {h₀ h h' : Heap} {L x : Addr} {o : Obj} {m : Str → Option Value} (F : Fr h₀ L h m) (k : Kept h h') (hx : h.get? x = none) (hxo : h'.get? x = some o) : h'.get? x = some o ∧ x ≠ L ∧ h₀.get? x = none :=
  news_add F (news := []) (fun _ h => nomatch h) k hx hxo _ (.head _)
end Mine
end
section
open PySem PySem.W PySem.Calls PyProof.Rows
namespace Mine
theorem t4 {α : Type} {x a b c d : α} {l : List α} (h : x ∈ l) : x ∈ a :: b :: c :: d :: l := .tail _ (.tail _ (.tail _ (.tail _ h)))
end Mine
end
section
open PySem PySem.W PySem.Calls PyProof.Rows
set_option maxRecDepth 100000
namespace Mine
local macro_rules | `(tactic| walk_at "call ref") => `(tactic| (k_here; (with_reducible refine halt_call ?_)))
local macro_rules | `(tactic| walk_at "pyIter ref") => `(tactic| (k_here; (with_reducible refine HaltW.mk ?_)))
local macro_rules | `(tactic| walk_at "exec For Name Tuple cons nil") => `(tactic| (k_here; (rename Fr _ _ _ _ => lF'); (with_unfolding_all refine' For_invVF lF' ?k1 ?k2 ?_; (case k1 => exact rfl); (case k2 => exact rfl); k_whole)))
local macro_rules | `(tactic| walk_at "call ref") => `(tactic| (k_here; (with_reducible refine halt_call1 ?_)))
set_option maxRecDepth 100000 in
set_option maxHeartbeats 40000000 in
theorem agree_c (w : World) (p : Program) (loose : List Str) (mean : ExcName → Option Value) (mg mb : Str → Option Value) 
   (fr : List Env) (base : Heap) (s : Shared) (m1 m2 : Int) (t1 t2 : Tok) (junk : Bool)
    (Q E : Value → Shared → Prop) 
    (C : Cx (AA 1 fr) fr w (KK w.params) p loose mean mg mb base s.heap [(316, tabObj #[])])
    (hm1 : 0 ≤ m1 ∧ m1 < 65536) (hm2 : 0 ≤ m2 ∧ m2 < 65536)
    (ret : ∀ h' tk' ps, (∀ b o, b ≠ 316 → s.heap.get? b = some o → h'.get? b = some o) → h'.get? 316 = some (tabObj ps) → (junk = false → ps = #[]) → Q (.bool true) { s with heap := h', toks := tk' }) :
    wpAny (model PP w) (AA 1 fr) (call (.ref 321) [.int m1 t1, .int m2 t2, .bool junk]) Q E s := by
  unfold KK at C
  unfold PP
  revert C
  k_fill
  intro C
  obtain ⟨B, X, T, N⟩ := C
  obtain ⟨hh, g, d, t, os⟩ := s
  refine wpAny_call ?_
  refine' enterP ?k1 ?k2 ?k3 ?kN ?k6 ?k7 ?k8 ?k9 ?kB ?_ ?c2 ?c3 ?c4 ?c5; (case k1 => exact B); (case k2 => exact X); (case k3 => exact T); (case kN => exact N); (case k6 => k_is); (case k7 => k_is); (case k8 => exact Nat.le_of_ble_eq_true rfl); (case k9 => first | exact BindsTo.of_eq rfl | exact binds_K (K := Mine.kK w.params) (X.keeps fun b o e => of_hideAll _ e) rfl (by k_is) rfl rfl rfl); (case c5 => decide); (case kB => exact locs rfl); (case c2 => exact rfl); (case c3 => exact rfl); (case c4 => exact rfl); intro g' L' h' hg' F' N' B' X' T' lt'; (try dsimp only); (try k_fold)
  simp only [List.forall_mem_cons, List.not_mem_nil, false_implies, implies_true, and_true] at lt'
  have hcd : CodeHd g' 320 316 := codeHd_of_K X' (by kernel_rfl)
  refine wpAny_execs_cons ?_
  refine ag_cut (w := w) junk m1 m2 F' ?first fun f s' hmid => ?rest
  case first =>
    k_steps
    rename_i a f' c' oc' vs' t' ct' h'_1 tk' F'_1 N'_1 d1' d2' l1 l2
    clear F' N'
    rename Fr _ _ _ _ => F1
    rename News _ _ _ _ => N1
    have hjf : junk = true := by assumption
    subst hjf
    unfold HaltW
    refine any_le (A := AA 3 (_ :: fr)) (fmt_c w p loose mean mg mb _ base _ m1 t1 _ _ (Cx.of B' F1 N1 X' T' (fun _ h => nomatch h) rfl rfl) hm1.1 hm1.2 ?ret_agMade) rfl ?depth_agMade rfl rfl ?units_agMade
    case depth_agMade => (try simp only [depth_under_make, depth_under_kw, depth_in1, depth_deeper, depth_caller]); decide
    case units_agMade => first | k_units | exact Nat.le_of_ble_eq_true rfl
    case ret_agMade =>
      intro k0 h2 tk2 tx hk0 hk
      have F2 := fr_kept F1 hk
      have N2 := news_kept N1 hk
      clear F1 N1
      dsimp only
      k_steps
      unfold HaltW
      refine any_le (A := AA 3 (_ :: fr)) (fmt_c w p loose mean mg mb _ base _ m2 t2 _ _ (Cx.of B' F2 N2 X' T' (fun _ h => nomatch h) rfl rfl) hm2.1 hm2.2 ?ret2_agMade) rfl ?depth_agMade rfl rfl ?units_agMade
      case depth_agMade => (try simp only [depth_under_make, depth_under_kw, depth_in1, depth_deeper, depth_caller]); decide
      case units_agMade => first | k_units | exact Nat.le_of_ble_eq_true rfl
      case ret2_agMade =>
        intro k1 h3 tk3 ty hk1 hkk
        have F3 := fr_kept F2 hkk
        have N3 := news_kept N2 hkk
        clear F2 N2
        dsimp only
        have hx : FmText m1 (Txt.join (Str.ofString "") (k0 :: nineSigns m1)) := ⟨k0, hk0, rfl⟩
        have hy : FmText m2 (Txt.join (Str.ofString "") (k1 :: nineSigns m2)) := ⟨k1, hk1, rfl⟩
        generalize Txt.join (Str.ofString "") (k0 :: nineSigns m1) = x at *
        generalize Txt.join (Str.ofString "") (k1 :: nineSigns m2) = y at *
        k_steps
        unfold HaltW
        refine any_le (A := AA 2 (_ :: fr)) (ctor_c w p loose mean mg mb _ base _ x y tx ty _ _ _ (Cx.of B' F3 N3 X' T' (fun _ h => nomatch h) rfl rfl) (fm_len hy) (fm_len hx) true [(f', _), (c', oc')] (List.forall_mem_cons.mpr ⟨(N3 _ (.head _)).1, List.forall_mem_cons.mpr ⟨(N3 _ (.tail _ (.head _))).1, fun _ h => nomatch h⟩⟩) (.inr ⟨_, _, rfl, rfl, ⟨rfl, _, rfl⟩, .head _, lam_junk w p loose mean mg mb d1' d2'⟩) ?ret3_agMade) rfl ?depth_agMade rfl rfl ?units_agMade
        case depth_agMade => (try simp only [depth_under_make, depth_under_kw, depth_in1, depth_deeper, depth_caller]); decide
        case units_agMade => first | k_units | exact Nat.le_of_ble_eq_true rfl
        case ret3_agMade =>
          intro h4 tk4 self dd bd bj bp od os2 k1 k2 k3 k4 k5 k6 k7 k8 k9 k10 kvs hk4 hfresh n1 n2 n3 n4 n5 gself gdd gbd gbj hod hos hOS hbm hne rows
          have F4 := fr_kept F3 hk4
          obtain ⟨objs, Nobjs, hix⟩ := idx_objs F4 rows
          have N4 := news_cons (new_one F3 hk4 (hfresh self (by simp)) gself) (news_cons (new_one F3 hk4 (hfresh dd (by simp)) gdd) (news_cons (new_one F3 hk4 (hfresh bd (by simp)) gbd) (news_cons (new_one F3 hk4 (hfresh bj (by simp)) gbj) (news_cons (news_kept N3 hk4 _ (.tail _ (.tail _ (.head _)))) Nobjs))))
          clear F3 N3
          dsimp only
          k_steps
          rename Fr _ _ _ _ => FZ
          rename News _ _ _ _ => NZ
          exact ⟨rfl, self, dd, bd, bj, od, os2, x, y, tx, ty, k1, k2, k3, k4, k5, k6, k7, k8, k9, k10, _, .ref bp, kvs, objs, _, _, _, rfl, FZ, NZ, (fun h => nomatch h), hx, hy, hod, hos, hOS, hbm, hix⟩
    rename_i a
    rename Fr _ _ _ _ => F1
    rename News _ _ _ _ => N1
    have hjf : junk = false := by assumption
    subst hjf
    unfold HaltW
    refine any_le (A := AA 3 (_ :: fr)) (fmt_c w p loose mean mg mb _ base _ m1 t1 _ _ (Cx.of B' F1 N1 X' T' (fun _ h => nomatch h) rfl rfl) hm1.1 hm1.2 ?ret_agNone) rfl ?depth_agNone rfl rfl ?units_agNone
    case depth_agNone => (try simp only [depth_under_make, depth_under_kw, depth_in1, depth_deeper, depth_caller]); decide
    case units_agNone => first | k_units | exact Nat.le_of_ble_eq_true rfl
    case ret_agNone =>
      intro k0 h2 tk2 tx hk0 hk
      have F2 := fr_kept F1 hk
      have N2 := news_kept N1 hk
      clear F1 N1
      dsimp only
      k_steps
      unfold HaltW
      refine any_le (A := AA 3 (_ :: fr)) (fmt_c w p loose mean mg mb _ base _ m2 t2 _ _ (Cx.of B' F2 N2 X' T' (fun _ h => nomatch h) rfl rfl) hm2.1 hm2.2 ?ret2_agNone) rfl ?depth_agNone rfl rfl ?units_agNone
      case depth_agNone => (try simp only [depth_under_make, depth_under_kw, depth_in1, depth_deeper, depth_caller]); decide
      case units_agNone => first | k_units | exact Nat.le_of_ble_eq_true rfl
      case ret2_agNone =>
        intro k1 h3 tk3 ty hk1 hkk
        have F3 := fr_kept F2 hkk
        have N3 := news_kept N2 hkk
        clear F2 N2
        dsimp only
        have hx : FmText m1 (Txt.join (Str.ofString "") (k0 :: nineSigns m1)) := ⟨k0, hk0, rfl⟩
        have hy : FmText m2 (Txt.join (Str.ofString "") (k1 :: nineSigns m2)) := ⟨k1, hk1, rfl⟩
        generalize Txt.join (Str.ofString "") (k0 :: nineSigns m1) = x at *
        generalize Txt.join (Str.ofString "") (k1 :: nineSigns m2) = y at *
        k_steps
        unfold HaltW
        refine any_le (A := AA 2 (_ :: fr)) (ctor_c w p loose mean mg mb _ base _ x y tx ty .none _ _ (Cx.of B' F3 N3 X' T' (fun _ h => nomatch h) rfl rfl) (fm_len hy) (fm_len hx) false [] (fun _ h => nomatch h) (.inl ⟨rfl, rfl⟩) ?ret3_agNone) rfl ?depth_agNone rfl rfl ?units_agNone
        case depth_agNone => (try simp only [depth_under_make, depth_under_kw, depth_in1, depth_deeper, depth_caller]); decide
        case units_agNone => first | k_units | exact Nat.le_of_ble_eq_true rfl
        case ret3_agNone =>
          intro h4 tk4 self dd bd bj bp od os2 k1 k2 k3 k4 k5 k6 k7 k8 k9 k10 kvs hk4 hfresh n1 n2 n3 n4 n5 gself gdd gbd gbj hod hos hOS hbm hne rows
          have F4 := fr_kept F3 hk4
          obtain ⟨objs, Nobjs, hix⟩ := idx_objs F4 rows
          have N4 := news_cons (new_one F3 hk4 (hfresh self (by simp)) gself) (news_cons (new_one F3 hk4 (hfresh dd (by simp)) gdd) (news_cons (new_one F3 hk4 (hfresh bd (by simp)) gbd) (news_cons (new_one F3 hk4 (hfresh bj (by simp)) gbj) (news_cons (news_kept N3 hk4 _ (.head _)) Nobjs))))
          clear F3 N3
          dsimp only
          k_steps
          rename Fr _ _ _ _ => FZ
          rename News _ _ _ _ => NZ
          exact ⟨rfl, self, dd, bd, bj, od, os2, x, y, tx, ty, k1, k2, k3, k4, k5, k6, k7, k8, k9, k10, _, .ref bp, kvs, objs, _, _, _, rfl, FZ, NZ, (fun _ => rfl), hx, hy, hod, hos, hOS, hbm, hix⟩
  case rest =>
    obtain ⟨rfl, self, dd, bd, bj, od, os2, x, y, tx, ty, k1, k2, k3, k4, k5, k6, k7, k8, k9, k10, jv, bp, kvs, objs, ps, h2, tk2, rfl, F2, N2, hps, hx, hy, hod, hos, hOS, hbm, hix⟩ := hmid
    dsimp only
    clear F' N'
    unfold en at N2
    k_steps
    unfold HaltW
    rename_i D3 h3 F3 N3 l3
    refine for_tup0 ["q", "told", "i", "j", "size"] rfl F3 N3 (.head _) ?turn ?done
    case turn =>
      intro I v u h4 tk4 oI hv F4 N4
      obtain ⟨pv, tp, rfl, hpv⟩ := two_of hv
      clear F3 N3 hv
      refine opq fun Qm hQm => ?_
      k_steps
      unfold HaltW
      rename_i D5 h5 F5 N5 l5
      refine for_tup0 ["told", "i", "j", "size"] rfl F5 N5 (.head _) ?turn2 ?done2
      case turn2 =>
        intro I2 v2 u2 h6 tk6 oI2 hv F6 N6
        obtain ⟨qv, tq, rfl, hqv⟩ := two_of hv
        clear F5 N5 hv
        refine opq fun Qn hQn => ?_
        have hp0 : 0 ≤ pv := by omega
        have hp3 : pv ≤ 3 := by omega
        have hq0 : 0 ≤ qv := by omega
        have hq3 : qv ≤ 3 := by omega
        k_steps
        unfold HaltW
        rw [show (7 : Int) + pv = 1 + pv + 6 by omega, show (7 : Int) + qv = 1 + qv + 6 by omega]
        refine any_le (A := AA 2 (_ :: fr)) (flm_c w p loose mean mg mb _ base _ x y tx ty self dd bd bj od os2 jv 10 k1 k2 k3 k4 k5 k6 k7 k8 k9 k10 .none bp (1 + pv) (1 + qv) _ _ _ _ kvs _ _ (Cx.of B' F6 N6 X' T' (nl := [(self, instObj 242 dd), (dd, dictOf [en w.params "isjunk" k1 jv, en w.params "a" k2 (.str x tx), en w.params "b" k3 (.str y ty), en w.params "autojunk" k4 (.bool true), en w.params "matching_blocks" k5 .none, en w.params "opcodes" k6 .none, en w.params "fullbcount" k7 .none, en w.params "b2j" k8 (.ref bd), en w.params "bjunk" k9 (.ref bj), en w.params "bpopular" k10 bp] 10), (bd, od), (bj, os2)])
          (List.forall_mem_cons.mpr ⟨t4 (.head _), List.forall_mem_cons.mpr ⟨t4 (.tail _ (.head _)), List.forall_mem_cons.mpr ⟨t4 (.tail _ (.tail _ (.head _))), List.forall_mem_cons.mpr ⟨t4 (.tail _ (.tail _ (.tail _ (.head _)))), fun _ h => nomatch h⟩⟩⟩⟩) rfl rfl) hod (rowsOf junk x y (1 + pv)) (junkOf junk y) hos hOS hbm ?rows_agIn (IsDictOf.obj hod) (fm_len hy) (fm_len hx) (by omega) (by omega) (agree_box hx hy hm1.1 hm2.1 hpv hqv) ?ret_agIn) rfl ?depth_agIn rfl rfl ?units_agIn
        case depth_agIn => (try simp only [depth_under_make, depth_under_kw, depth_in1, depth_deeper, depth_caller]); decide
        case units_agIn => first | k_units | exact Nat.le_of_ble_eq_true rfl
        case rows_agIn =>
          intro i hi
          refine ⟨rowOf_len _ _ _, ?_⟩
          rcases hix (PySem.Txt.item x (1 + pv + (i : Int) * 1)) with h | ⟨z, vs, nn, h1, h2, h3⟩
          · exact .inl h
          · refine .inr ⟨z, vs, nn, h1, ?_, h3⟩
            rcases h2 with h2 | h2
            · exact (N6 _ (t4 (t4 (.tail _ h2)))).1
            · exact F6.keep _ _ h2
        case ret_agIn =>
          intro z dx h7 tk7 i j k ti tj tz hk7 hz hzo hdx hfl
          have F7 := fr_kept F6 hk7
          obtain ⟨oD, hoD, N7⟩ := hide6 (news_add F6 N6 hk7 hz hzo)
          clear F6 N6
          dsimp only
          k_steps
          rename_i h'_1 F' N'
          unfold HaltW
          rename Fr _ _ _ _ => F8
          rename News _ _ _ _ => N8
          refine any_le (A := AA 3 (_ :: fr)) (nine_c w p loose mean mg mb _ base _ m1 t1 _ _ (Cx.of B' F8 N8 X' T' (fun _ h => nomatch h) rfl rfl) hm1.1 hm1.2 ?ret_agNine) rfl ?depth_agNine rfl rfl ?units_agNine
          case depth_agNine => (try simp only [depth_under_make, depth_under_kw, depth_in1, depth_deeper, depth_caller]); decide
          case units_agNine => first | k_units | exact Nat.le_of_ble_eq_true rfl
          case ret_agNine =>
            intro a9 va9 na9 h9 tk9 hk9 ha9 hao9 hi9
            have F9 := fr_kept F8 hk9
            have N9 := news_add F8 N8 hk9 ha9 hao9
            clear F8 N8
            obtain ⟨l9, hl9⟩ : ∃ l, l = nine m1 := ⟨_, rfl⟩
            rw [← hl9] at hi9
            have hl9n : l9.length = 9 := by rw [hl9]; rfl
            dsimp only
            k_steps
            unfold HaltW
            rename_i D10 ws10 h10 F10 N10 hI10 hC10 hL10 l10
            have hw1 : IntsAre ws10 (win m1 pv) := by rw [hl9, win_is hpv] at hI10; exact hI10
            clear hI10 hC10 hL10
            refine any_le (A := AA 3 (_ :: fr)) (nine_c w p loose mean mg mb _ base _ m2 t2 _ _ (Cx.of B' F10 N10 X' T' (fun _ h => nomatch h) rfl rfl) hm2.1 hm2.2 ?ret2_agNine) rfl ?depth_agNine rfl rfl ?units_agNine
            case depth_agNine => (try simp only [depth_under_make, depth_under_kw, depth_in1, depth_deeper, depth_caller]); decide
            case units_agNine => first | k_units | exact Nat.le_of_ble_eq_true rfl
            case ret2_agNine =>
              intro a11 va11 na11 h11 tk11 hk11 ha11 hao11 hi11
              have F11 := fr_kept F10 hk11
              have N11 := news_add F10 N10 hk11 ha11 hao11
              clear F10 N10
              obtain ⟨l11, hl11⟩ : ∃ l, l = nine m2 := ⟨_, rfl⟩
              rw [← hl11] at hi11
              have hl11n : l11.length = 9 := by rw [hl11]; rfl
              dsimp only
              k_steps
              unfold HaltW
              rename_i D12 ws12 h12 F12 N12 hI12 hC12 hL12 l12
              have hw2 : IntsAre ws12 (win m2 qv) := by rw [hl11, win_is hqv] at hI12; exact hI12
              clear hI12 hC12 hL12
              refine any_le (A := AA 2 (_ :: fr)) (longest_c w p loose mean mg mb _ base _ D10 D12 ws10.toArray ws12.toArray 0 0 (win m1 pv) (win m2 qv) junk _ _ (Cx.of B' F12 N12 X' T' (List.forall_mem_cons.mpr ⟨.tail _ (.tail _ (.head _)), List.forall_mem_cons.mpr ⟨.head _, fun _ h => nomatch h⟩⟩) rfl rfl) hw1 hw2 (win_len hpv) (win_len hqv) ?ret3_agNine) rfl ?depth_agNine rfl rfl ?units_agNine
              case depth_agNine => (try simp only [depth_under_make, depth_under_kw, depth_in1, depth_deeper, depth_caller]); decide
              case units_agNine => first | k_units | exact Nat.le_of_ble_eq_true rfl
              case ret3_agNine =>
                intro a13 h13 tk13 il jl kl til tjl tkl tt hk13 ha13 hao13 hFN hext
                have F13 := fr_kept F12 hk13
                have N13 := news_add F12 N12 hk13 ha13 hao13
                clear F12 N12
                dsimp only
                k_steps
                rename Fr _ _ _ _ => F14
                rename News _ _ _ _ => N14
                have e := agree_plain hx hy hm1.1 hm2.1 hpv hqv hFN
                rw [← hext] at e
                rw [e] at hfl
                simp only [Prod.mk.injEq] at hfl
                obtain ⟨rfl, rfl, rfl⟩ := hfl
                refine match_ne (X'.keeps F14.keep) (N14 _ (t4 (.tail _ (.tail _ (.head _))))).1 (N14 _ (.head _)).1 ?units_agNine ?_
                case units_agNine => first | k_units | exact Nat.le_of_ble_eq_true rfl
                k_steps
                subst hoD
                refine hQn _ _ ?_
                show TTEnd _ _ _ _ _ _ _ _
                refine TTEnd.intro F14 N14 (fun p hp => t4 (.tail _ (.tail _ (.tail _ hp)))) ?_
                intro z' h1 h3
                (simp only [List.contains_cons, List.contains_nil, Bool.or_false, Bool.or_eq_false_iff, beq_eq_false_iff_ne, ne_eq] at h3)
                simp [h1, h3]
      case done2 =>
        intro u5 h6 tk6 F6 N6
        show wpAny _ _ _ _ _ _
        clear F5 N5
        k_steps
        refine hQm _ _ ?_
        show TTEnd _ _ _ _ _ _ _ _
        refine TTEnd.intro F6 N6 (fun p hp => .tail _ hp) ?_
        intro z h1 h3
        (simp only [List.contains_cons, List.contains_nil, Bool.or_false, Bool.or_eq_false_iff, beq_eq_false_iff_ne, ne_eq] at h3)
        simp [h1, h3]
    case done =>
      intro u4 h4 tk4 F4 N4
      show wpAny _ _ _ _ _ _
      clear F3 N3
      k_steps
      show Q (.bool true) _
      refine ret _ _ ps (fun b o hb e => F4.keep b o ?_) (N4 (316, tabObj ps) (t4 (.tail _ (.head _)))).1 hps
      rw [hg']
      exact hideAll_get _ e (by simpa using hb)
end Mine
end
section
open PySem PySem.W PySem.Calls PyProof.Rows
namespace Mine
theorem wpAny_halt {α : Type} {M : Model} {A : Around} {E : Value → Shared → Prop} {s : Shared} {t : Sem α} {Q : α → Shared → Prop} (h : wpAny M A t (fun a s' => HaltW (Q a s')) E s) : wpAny M A t Q E s := h
/-- a comprehension over a list, the frame told -/
theorem lc_own {prog : Program} {w : World} {A : Around} {E : Value → Shared → Prop} {s : Shared} {env : Env} {h₀ : Heap} {L : Addr} {m : Str → Option Value} {α : Type} {K : ItemKind α} {elt iter : Expr} {x : Str} {px : Pos} {ifs : List Expr} {scope : Scope} {cl : List (Str × Addr)} {pos : Pos} {Q : Value → Shared → Prop} {d : α → PyData}
    (_ : Fr h₀ L s.heap m) (hh : A.handled = none) (hclos : closureFor scope env = pure cl) (hcell : ∀ y ∈ scope.names, y.2 ≠ .cell) (hkind : scope.kind = .function)
    (hnames : ∀ y ∈ scope.names, y.2 = .local → scope.names.lookup y.1 = some .local) (hx : scope.names.lookup x = some .local)
    (h : wpAny (model prog w) A (eval iter env) (fun xv s₁ => HaltW (∃ news : List (Addr × Obj), ∃ ax vs as, xv = .ref ax ∧ s₁.heap.IsList ax vs.toArray ∧ AreOf K vs as ∧ as.length ≤ sizeLine ∧ Fr h₀ L s₁.heap m ∧ News h₀ L s₁.heap news ∧
      (∀ C a v s₂ m₂ E', s₁.heap.objs.size ≤ C → a ∈ as → K.is a v → s₂.heap.Ns (compEnvC scope cl C env).locals m₂ → m₂ x = some v → (∀ b o, s₁.heap.get? b = some o → s₂.heap.get? b = some o) →
        wpAny (model prog w) A (forIn ifs true fun c r => if r = true then do let ok ← isTrue c (compEnvC scope cl C env) (eval c (compEnvC scope cl C env)); pure (ForInStep.yield ok) else pure (ForInStep.yield r))
          (fun ok s₃ => ok = true ∧ Keeps s₂ s₃) E' s₂) ∧
      (∀ C a v s₂ m₂ E', s₁.heap.objs.size ≤ C → a ∈ as → K.is a v → s₂.heap.Ns (compEnvC scope cl C env).locals m₂ → m₂ x = some v → (∀ b o, s₁.heap.get? b = some o → s₂.heap.get? b = some o) →
        wpAny (model prog w) A (eval elt (compEnvC scope cl C env)) (fun y s₃ => Carried y (d a) ∧ Keeps s₂ s₃) E' s₂) ∧
      (∀ D (ys : List Value) n h' tk, Fr h₀ L h' m → News h₀ L h' ((D, listOf ys.toArray n) :: news) → CarriedAll ys (as.map d) → Q (.ref D) { s₁ with heap := h', toks := tk }))) E s)
    (hs : ∀ x, foldedSetIterable iter env x = pure x) : wpAny (model prog w) A (eval (.ListComp elt [⟨.Name x px, iter, ifs, 0⟩] scope pos) env) Q E s := by
  refine ListComp_DCn (K := K) (pz := fun _ => true) (d := d) (h₀ := h₀) (L := L) (m := m) hh hclos hcell hkind hnames hx (wpAny_mono h (fun xv s₁ h₁ => ?_) fun _ _ e => e) hs
  obtain ⟨news, ax, vs, as, e, hl, hi, hsz, F, N, ht, he, hq⟩ := h₁
  refine ⟨news, ax, vs, as, e, hl, hi, hsz, F, N, ht, fun C a v s₂ m₂ E' h1 h2 h3 _ => he C a v s₂ m₂ E' h1 h2 h3, fun D ys h' tk F' N' hn hl' hp hc => ?_⟩
  obtain ⟨n, NX⟩ := made_enters hp F' N' hn
  refine hq D ys n h' tk F' NX ?_
  rw [List.filter_eq_self.mpr (fun _ _ => rfl)] at hc
  exact hc
/-- law, its two modes told -/
noncomputable def LwMid (g' : Heap) (L' : Addr) (m0 : Str → Option Value) (s₀ : Shared) (f : Flow) (s' : Shared) : Prop :=
  f = .next ∧ ∃ (ma : Addr) (vs : List Value) (n : Nat) (a b : Int) (h2 : Heap) (tk2 : Nat),
    s' = { s₀ with heap := h2, toks := tk2 } ∧ Fr g' L' h2 (fun z => if z = Str.ofString "modes" then some (.ref ma) else m0 z) ∧
    News g' L' h2 [(ma, listOf vs.toArray n), (316, tabObj #[])] ∧ IntsAre vs [a, b] ∧ (0 ≤ a ∧ a < 65536) ∧ (0 ≤ b ∧ b < 65536)
theorem lw_cut {M : Model} {A : Around} {t : Sem Flow} {Q : Flow → Shared → Prop} {E : Value → Shared → Prop} {s : Shared} {g' : Heap} {L' : Addr} {m0 : Str → Option Value} (_ : Fr g' L' s.heap m0)
    (first : wpAny M A t (LwMid g' L' m0 s) E s) (rest : ∀ f s', LwMid g' L' m0 s f s' → Q f s') : wpAny M A t Q E s := wpAny_mono first rest fun _ _ x => x
end Mine
end
section
open PySem PySem.W PySem.Calls PyProof.Rows
namespace Mine
theorem two_modes : ∀ w : List Int, ∃ a b : Int, ((List.take 2 w).map (fun a : Int => a.fmod 65536) ++ [34284, 17207]).take (2 : Int).toNat = [a, b] ∧ (0 ≤ a ∧ a < 65536) ∧ (0 ≤ b ∧ b < 65536)
  | [] => ⟨34284, 17207, rfl, by decide, by decide⟩
  | [x] => ⟨x.fmod 65536, 34284, rfl, ⟨Int.fmod_nonneg_of_pos _ (by decide), Int.fmod_lt_of_pos _ (by decide)⟩, by decide⟩
  | x :: y :: _ => ⟨x.fmod 65536, y.fmod 65536, rfl, ⟨Int.fmod_nonneg_of_pos _ (by decide), Int.fmod_lt_of_pos _ (by decide)⟩, ⟨Int.fmod_nonneg_of_pos _ (by decide), Int.fmod_lt_of_pos _ (by decide)⟩⟩
end Mine
end
section
open PySem PySem.W PySem.Calls PyProof.Rows
namespace Mine
section
variable {prog : Program} {w : World} {A : Around} {E : Value → Shared → Prop} {s : Shared} {env : Env} {h₀ : Heap} {x : Str} {body : List Stmt} {Q : Flow → Shared → Prop}
theorem for_lst0 {l : Addr} {vs : Array Value} {n : Nat} {m₀ : Str → Option Value} {Led : List (Addr × Obj)} (stored : List Str)
    (hh : A.handled = none) (F : Fr h₀ env.locals s.heap m₀) (N : News h₀ env.locals s.heap Led) (src : (l, listOf vs n) ∈ Led)
    (turn : ∀ I v (u : Str → Option Value) h tk oI, v ∈ vs → Fr h₀ env.locals h (fun y => if y = x then some v else if stored.contains y then u y else m₀ y) → News h₀ env.locals h ((I, oI) :: Led) →
      wpAny (model prog w) A (execs body env) (TTPost h₀ env.locals x ((I, oI) :: Led) stored m₀ { s with heap := h, toks := tk } Q) E { s with heap := h, toks := tk })
    (done : ∀ (u : Str → Option Value) h tk, Fr h₀ env.locals h (fun y => if y = x then u y else if stored.contains y then u y else m₀ y) → News h₀ env.locals h Led → Q .next { s with heap := h, toks := tk }) :
    wpAny (model prog w) A (pyIter (.ref l)) (fun it s₂ => LoopAtV prog w A h₀ env x body Q E it s₂) E s := by
  refine for_src (σ := Unit) (fun _ => Led) (fun _ => []) stored (fun _ _ => True) (fun _ => True) () hh ⟨_, (N _ src).1, rfl, _, rfl⟩ (N _ src).2.1 (.inr ⟨_, fun _ => src⟩) rfl F N (fun _ h => nomatch h) trivial ?_ (fun _ _ => trivial) (fun _ u h tk _ F₁ N₁ => done u h tk F₁ N₁)
  rintro I i v ⟨⟩ u h tk oI hi hv _ hoff F₁ N₁
  refine wpAny_mono (turn I v u h tk oI (Array.mem_of_getElem? hv) F₁ fun p hp => ?_) (fun f s₂ hp => ?_) fun _ _ x => x
  · rcases List.mem_cons.mp hp with rfl | hp
    · exact N₁ _ (List.mem_append_right _ (.head _))
    · exact N₁ p (List.mem_append_left _ hp)
  · have up : TTEnd h₀ env.locals x ((I, oI) :: Led) stored m₀ { s with heap := h, toks := tk } s₂ → TEnd h₀ env.locals I x (fun _ => Led) (fun _ => []) stored m₀ (fun _ : Unit => True) [(I, oI)] { s with heap := h, toks := tk } s₂ := by
      rintro ⟨h', tk', m', news', rfl, F', N', hs, hm⟩
      refine TEnd.intro () F' N' (fun p hp => hs p ?_) hoff (fun _ h => nomatch h) (fun z h1 _ h3 => hm z h1 h3) trivial
      rcases List.mem_append.mp hp with hp | hp
      · exact .tail _ hp
      · rw [List.mem_singleton.mp hp]; exact .head _
    cases f with
    | ret v => exact hp
    | brk => exact hp.elim
    | next => exact up hp
    | cont => exact up hp
end
theorem ints_mem {a b : Int} {vs : List Value} (h : IntsAre vs [a, b]) (ha : 0 ≤ a ∧ a < 65536) (hb : 0 ≤ b ∧ b < 65536) {v : Value} (hv : v ∈ vs.toArray) : ∃ m t, v = .int m t ∧ 0 ≤ m ∧ m < 65536 := by
  cases h with
  | cons _ t h2 =>
    cases h2 with
    | cons _ t2 h3 =>
      cases h3
      have hv := List.mem_toArray.mp hv
      rcases List.mem_cons.mp hv with rfl | hv
      · exact ⟨a, t, rfl, ha⟩
      · rw [List.mem_singleton.mp hv]; exact ⟨b, t2, rfl, hb⟩
end Mine
end
section
open PySem PySem.W PySem.Calls PyProof.Rows
namespace Mine
theorem fm_slice {m : Int} {x : Str} (h : FmText m x) (h0 : 0 ≤ m) : PySem.Txt.slice x (some 1) none = PySem.Txt.join (Str.ofString "") ((nine m).map codeSign) := by
  obtain ⟨n, rfl⟩ : ∃ n : Nat, m = n := ⟨m.toNat, by omega⟩
  have hl := fm_len h
  rw [PyProof.Rows.slice_from_eq (b := 10) (by decide) (by omega) (by omega), ← signs_codes, join_cps _ nine_one]
  obtain ⟨c0, rfl⟩ := fm_cps h
  have hl9 : ((nineSigns (n : Int)).map fun s => s.cps.getD 0 0).length = 9 := by rw [List.length_map, nineSigns_len]
  show (⟨(((c0 :: (nineSigns (n : Int)).map fun s => s.cps.getD 0 0).drop 1).take 9).toArray⟩ : Str) = _
  rw [List.drop_one, List.tail_cons, List.take_of_length_le (by omega)]
end Mine
end
section
open PySem PySem.W PySem.Calls PyProof.Rows
namespace Mine
local macro_rules | `(tactic| walk_at "call ref") => `(tactic| (k_here; (with_reducible refine halt_call ?_)))
theorem fr_but {h₀ h h' : Heap} {L P : Addr} {m : Str → Option Value} {o : Obj} (F : Fr h₀ L h m) (n : h.get? P = some o ∧ P ≠ L ∧ h₀.get? P = none) (k : ∀ b o, b ≠ P → h.get? b = some o → h'.get? b = some o) : Fr h₀ L h' m :=
  ⟨F.ns.at' fun o e => k _ o (fun q => n.2.1 q.symm) e, fun b o e => k b o (fun q => by rw [q, n.2.2] at e; cases e) (F.keep b o e), F.above⟩
theorem tab_ne {h : Heap} {a P : Addr} {vs ps : Array Value} {n : Nat} (h1 : h.get? a = some (listOf vs n)) (h2 : h.get? P = some (tabObj ps)) : a ≠ P := fun q => by
  rw [q, h2] at h1; cases h1
end Mine
end
section
open PySem PySem.W PyProof.Rows
open PySem PySem.W PySem.Calls PyProof.Rows
set_option maxRecDepth 100000
namespace Mine
local macro_rules | `(tactic| walk_at "call ref") => `(tactic| (k_here; (with_reducible refine halt_call ?_)))
local macro_rules | `(tactic| walk_at "eval ListComp") => `(tactic| ((with_reducible show wpAny _ _ (eval (Expr.ListComp (Expr.BinOp _ _ _ _) _ _ _) _) _ _ _); (rename Fr _ _ _ _ => lF'); (with_reducible refine' lc_own (K := ItemKind.int) (d := fun a => PyData.int (a.fmod 65536)) lF' ?hh ?hclos ?hcell ?hkind ?hnames ?hx ?h ?hs); (case hh => with_unfolding_all rfl); (case hclos => with_unfolding_all rfl); (case hcell => decide); (case hkind => with_unfolding_all rfl); (case hnames => decide); (case hx => with_unfolding_all rfl); (case hs => intro _; with_unfolding_all rfl)))
local macro_rules | `(tactic| walk_at "binaryOp Add ref ref") => `(tactic| (refine HaltW.mk ?_))
local macro_rules | `(tactic| walk_at "subscriptTail BinOp Slice ref ref") => `(tactic| (refine HaltW.mk ?_))
local macro_rules | `(tactic| walk_at "pyIter ref") => `(tactic| (k_here; (with_reducible refine HaltW.mk ?_)))
local macro_rules | `(tactic| walk_at "exec For Name Name cons nil") => `(tactic| (k_here; (rename Fr _ _ _ _ => lF'); (with_unfolding_all refine' For_invVF lF' ?k1 ?k2 ?_; (case k1 => exact rfl); (case k2 => exact rfl); k_whole)))
local macro_rules | `(tactic| walk_at "call builtin:str.join") => `(tactic| (refine HaltW.mk ?_))
local macro_rules | `(tactic| walk_at "eval ListComp") => `(tactic| ((with_reducible show wpAny _ _ (eval (Expr.ListComp (Expr.Subscript _ _ _) _ _ _) _) _ _ _); (refine HaltW.mk ?_)))
set_option maxHeartbeats 40000000 in
theorem cwJ : PySem.Challenge.rw_oy0507_01.Holds := by
  w_on
  refine holds_law (by kernel_rfl) fun said => ?_
  refine holds_open (q := viewP) (loose := looseL) (Xt := xtM) (XP := XL viewP lvL) (Yf := Hook.obs hookM) (Ya := Hook.val hookM) (N := 5458) leftM (Hook.of hookM) (Hook.keeps hookM) (fun s e => xl_of s (Bool.and_eq_true_iff.mp e).1) XL.keeps (by rfl) (by rfl) (by rfl) (fun s e => recFacts_of (Bool.and_eq_true_iff.mp e).2) (by rfl) (by first | assumption | decide +kernel) (by decide +kernel) ⟨rfl, rfl, rfl, rfl, rfl, by decide +kernel⟩ ?hw ?hc
  case hw => w_witness2
  case hc =>
    unfold hookM
    k_go0
    (all_goals try k_fold)
    w_top off
    refine wpAny_execs_cons ?_
    rename Fr _ _ _ _ => F1
    refine lw_cut F1 ?first_hcG fun f s' hmid => ?rest_hcG
    case first_hcG =>
      rename_i w s₀ s₁ mg mb G Y fa o pm cd doc kV ho hcd hg X V T B TE TW w_1 hs hlay0 hL hr hl2 w_2 w_3 w_4 w_5 w_6 hL_1 ra w1 r0 hI hr_1 hcond' hcond'_1 hD h₁ X' T' K' N' l0
      k_steps
      unfold HaltW
      rename Fr _ _ _ _ => F2
      rename News _ _ _ _ => N2
      rename IntsAre _ (List.take 2 _) => I2
      have hle2 : (List.take 2 w_1).length ≤ 2 := List.length_take_le 2 _
      refine ⟨_, _, _, _, rfl, News.isList N2 (.head _), I2.areOf, Nat.le_trans hle2 (by decide), F2, N2, ?tests_lwFirst, ?elt_lwFirst, ?cont_lwFirst⟩
      case tests_lwFirst => exact fun C a v s₂ m₂ E' _ _ _ _ _ _ => wpAny_pure ⟨rfl, _, _, rfl, fun _ _ e => e⟩
      case elt_lwFirst =>
        intro C a v s₂ m₂ E' hC ha hv hns hm hk
        obtain ⟨t, rfl⟩ := ItemKind.int_is hv
        rename_i D' ws' h' hC' hL' l1
        refine wpAny_halt ?_
        k_steps
        unfold HaltW
        exact ⟨.int _ _, _, _, rfl, fun _ _ e => e⟩
      case cont_lwFirst =>
        intro D ys n3 h3 tk3 F3 N3 hca
        rename_i D' ws' h' hC' hL' l1
        have hci := hca.intsOf
        clear hca
        obtain ⟨ma, mb', hab, ha, hb⟩ := two_modes w_1
        generalize hys : List.map (fun a : Int => a.fmod 65536) (List.take 2 w_1) = l2 at hci hab
        have hl2 : l2.length ≤ 2 := by rw [← hys, List.length_map]; exact hle2
        k_steps
        unfold HaltW
        rename Fr _ _ _ _ => F4
        rename News _ _ _ _ => N4
        refine kmk_add_ints (ws := [_, _]) (ms := [34284, 17207]) F4 N4 (News.isList N4 (.tail _ (.head _))) (News.isList N4 (.head _)) hci (.cons _ _ (.cons _ _ .nil)) ?_ ?z_lwCont
        case z_lwCont => exact Nat.le_trans (Nat.add_le_add_right hl2 _) (by decide)
        intro D5 us h5 F5 N5 l5 hI5
        have hus : us.length ≤ 4 := by rw [hI5.length, List.length_append]; exact Nat.add_le_add_right hl2 2
        clear hci
        dsimp only
        walk1
        walk1
        walk1
        walk1
        walk1
        refine kba_turn (value' := PySem.Expr.Name (PySem.Str.ofString "_") ⟨0, 0, 0, 0⟩) (fun _ => rfl) ?_
        refine' kmk_slice_ints ?slF_lwCont ?slN_lwCont ?sll_lwCont ?slp_lwCont ?slq_lwCont ?sli_lwCont ?slm_lwCont ?slc_lwCont ?_ ?sls_lwCont ?slt_lwCont ?slz_lwCont
        case slF_lwCont => exact F5
        case slN_lwCont => exact N5
        case sll_lwCont => exact News.isList N5 (.head _)
        case slp_lwCont => exact IsPart.none
        case slq_lwCont => exact IsPart.int _ _
        case sli_lwCont => exact hI5
        case slm_lwCont => exact slice_ints_uptoW hI5 (by decide)
        case slc_lwCont => exact rfl
        case sls_lwCont => with_unfolding_all rfl
        case slt_lwCont => intro _; with_unfolding_all rfl
        case slz_lwCont => exact Nat.le_trans hus (by decide)
        intro D6 ws6 h6 F6 N6 l6 IZ hC6 hL6
        clear F5 N5
        rw [hab] at IZ
        k_steps
        rename Fr _ _ _ _ => FZ
        rename News _ _ _ _ => NZ
        refine ⟨rfl, _, _, _, ma, mb', _, _, rfl, FZ, List.forall_mem_cons.mpr ⟨NZ _ (.head _), List.forall_mem_cons.mpr ⟨NZ (316, tabObj #[]) (by simp), fun _ h => nomatch h⟩⟩, IZ, ha, hb⟩
    case rest_hcG =>
      rename_i w s₀ s₁ mg mb G Y fa o pm cd doc kV ho hcd hg X V T B TE TW w_1 hs hlay0 hL hr hl2 w_2 w_3 w_4 w_5 w_6 hL_1 ra w1 r0 hI hr_1 hcond' hcond'_1 hD h₁ X' T' K' N' l0
      obtain ⟨rfl, ma, vs, n, a, b, h2, tk2, rfl, F2, N2, hI, ha, hb⟩ := hmid
      dsimp only
      clear F1 N'
      k_steps
      unfold HaltW
      rename Fr _ _ _ _ => F3
      rename News _ _ _ _ => N3
      refine for_lst0 [] rfl F3 N3 (.head _) ?turn_lwRest ?done_lwRest
      case turn_lwRest =>
        intro I v u h4 tk4 oI hv F4 N4
        obtain ⟨mv, tm, rfl, hmv⟩ := ints_mem hI ha hb hv
        clear F3 N3 hv
        rename_i hIz15
        k_steps
        unfold HaltW
        refine any_le (A := AA 3 (_ :: [])) (fmt_c w _ _ _ _ _ _ _ _ mv tm _ _ (Cx.of K' F4 N4 X' T' (fun _ h => nomatch h) rfl rfl) hmv.1 hmv.2 ?ret_lwTurn) rfl ?depth_lwTurn rfl rfl ?units_lwTurn
        case depth_lwTurn => (try simp only [depth_under_make, depth_under_kw, depth_in1, depth_deeper, depth_caller]); decide
        case units_lwTurn => first | k_units | exact Nat.le_of_ble_eq_true rfl
        case ret_lwTurn =>
          intro k0 h5 tk5 tx hk0 hk5
          have F5 := fr_kept F4 hk5
          have N5 := news_kept N4 hk5
          clear F4 N4
          have hx : FmText mv (Txt.join (Str.ofString "") (k0 :: nineSigns mv)) := ⟨k0, hk0, rfl⟩
          generalize Txt.join (Str.ofString "") (k0 :: nineSigns mv) = x at *
          have hxl := fm_len hx
          dsimp only
          k_steps
          unfold HaltW
          rename Fr _ _ _ _ => F5
          refine' lc_own (K := ItemKind.within ItemKind.int (fun c => 0 ≤ c ∧ c < 8)) (d := fun c => PyData.str (codeSign c)) F5 ?lcA_lwTurn ?lcB_lwTurn ?lcC_lwTurn ?lcD_lwTurn ?lcE_lwTurn ?lcF_lwTurn ?lcG ?lcH_lwTurn
          case lcA_lwTurn => with_unfolding_all rfl
          case lcB_lwTurn => with_unfolding_all rfl
          case lcC_lwTurn => decide
          case lcD_lwTurn => with_unfolding_all rfl
          case lcE_lwTurn => decide
          case lcF_lwTurn => with_unfolding_all rfl
          case lcH_lwTurn => intro _; with_unfolding_all rfl
          k_steps
          unfold HaltW
          rename Fr _ _ _ _ => F6
          rename News _ _ _ _ => N6
          refine any_le (A := AA 3 (_ :: [])) (nine_c w _ _ _ _ _ _ _ _ mv tm _ _ (Cx.of K' F6 N6 X' T' (fun _ h => nomatch h) rfl rfl) hmv.1 hmv.2 ?ret2_lwTurn) rfl ?depth_lwTurn rfl rfl ?units_lwTurn
          case depth_lwTurn => (try simp only [depth_under_make, depth_under_kw, depth_in1, depth_deeper, depth_caller]); decide
          case units_lwTurn => first | k_units | exact Nat.le_of_ble_eq_true rfl
          case ret2_lwTurn =>
            intro a7 va7 na7 h7 tk7 hk7 ha7 hao7 hi7
            have F7 := fr_kept F6 hk7
            have N7 := news_add F6 N6 hk7 ha7 hao7
            clear F6 N6
            obtain ⟨nv, hnv⟩ : ∃ n : Nat, mv = n := ⟨mv.toNat, by omega⟩
            have hr : ∀ c ∈ nine mv, 0 ≤ c ∧ c < 8 := by rw [hnv]; exact nine_range nv
            refine ⟨_, a7, va7.toList, nine mv, rfl, ⟨_, hao7, rfl, _, rfl⟩, hi7.areOf.withinP hr, by rw [nine_len]; decide, F7, N7, ?tests_lwTurn, ?elt_lwTurn, ?cont_lwTurn⟩
            case tests_lwTurn => exact fun C a v s₂ m₂ E' _ _ _ _ _ _ => wpAny_pure ⟨rfl, _, _, rfl, fun _ _ e => e⟩
            case elt_lwTurn =>
              intro C a v s₂ m₂ E' hC haa hv hns hm hk
              obtain ⟨hv, hc0, hc8⟩ := hv
              obtain ⟨t, rfl⟩ := ItemKind.int_is hv
              rename_i hrz16 az17 h' t' k
              refine wpAny_halt ?_
              k_steps
              unfold HaltW
              exact ⟨.str _ _, _, _, rfl, fun _ _ e => e⟩
            case cont_lwTurn =>
              intro D ys n8 h8 tk8 F8 N8 hca
              rename_i hrz18 h' t' k
              k_steps
              unfold HaltW
              rw [fm_slice hx hmv.1]
              refine KT.join_1 (News.isList N8 (.head _)) hca (fun _ _ => rfl) (by rw [nine_len]; decide) ?_
              intro tt kk hlen
              dsimp only
              refine ne_str ?_
              rw [bne_self_eq_false]
              k_steps
              show TTEnd _ _ _ _ _ _ _ _
              refine TTEnd.intro F8 N8 (fun p hp => .tail _ (.tail _ hp)) ?_
              intro z h1 h3
              simp [h1]
      case done_lwRest =>
        intro u h4 tk4 F4 N4
        show wpAny _ _ _ _ _ _
        clear F3 N3
        rename_i hIz19
        k_steps
        unfold HaltW
        rw [show [a, b].getD (Int.toNat 0) 0 = a from rfl, show [a, b].getD (Int.toNat 1) 0 = b from rfl]
        refine any_le (A := AA 1 (_ :: [])) (agree_c w _ _ _ _ _ _ _ _ a b _ _ false _ _ (Cx.of K' F4 N4 X' T' (fun p hp => .tail _ hp) rfl rfl) ha hb ?ret_lwEnd) rfl ?depth_lwEnd rfl rfl ?units_lwEnd
        case depth_lwEnd => (try simp only [depth_under_make, depth_under_kw, depth_in1, depth_deeper, depth_caller]); decide
        case units_lwEnd => first | k_units | exact Nat.le_of_ble_eq_true rfl
        case ret_lwEnd =>
          intro h5 tk5 ps hk5 hg5 hps
          obtain rfl := hps rfl
          have n4 := N4 (316, tabObj #[]) (.tail _ (.head _))
          have m4 := N4 (ma, listOf vs.toArray n) (.head _)
          have F5 := fr_but F4 n4 hk5
          have N5 : News _ _ h5 [(ma, listOf vs.toArray n), (316, tabObj #[])] := List.forall_mem_cons.mpr ⟨⟨hk5 _ _ (tab_ne m4.1 n4.1) m4.1, m4.2⟩, List.forall_mem_cons.mpr ⟨⟨hg5, n4.2⟩, fun _ h => nomatch h⟩⟩
          clear F4 N4
          dsimp only
          k_steps
          unfold HaltW
          rw [show [a, b].getD (Int.toNat 0) 0 = a from rfl, show [a, b].getD (Int.toNat 1) 0 = b from rfl]
          refine any_le (A := AA 1 (_ :: [])) (agree_c w _ _ _ _ _ _ _ _ a b _ _ true _ _ (Cx.of K' F5 N5 X' T' (fun p hp => .tail _ hp) rfl rfl) ha hb ?ret2_lwEnd) rfl ?depth_lwEnd rfl rfl ?units_lwEnd
          case depth_lwEnd => (try simp only [depth_under_make, depth_under_kw, depth_in1, depth_deeper, depth_caller]); decide
          case units_lwEnd => first | k_units | exact Nat.le_of_ble_eq_true rfl
          case ret2_lwEnd =>
            intro h6 tk6 ps hk6 hg6 hps
            have n5 := N5 (316, tabObj #[]) (.tail _ (.head _))
            have m5 := N5 (ma, listOf vs.toArray n) (.head _)
            have F6 := fr_but F5 n5 hk6
            have N6 : News _ _ h6 [(ma, listOf vs.toArray n), (316, tabObj ps)] := List.forall_mem_cons.mpr ⟨⟨hk6 _ _ (tab_ne m5.1 n5.1) m5.1, m5.2⟩, List.forall_mem_cons.mpr ⟨⟨hg6, n5.2⟩, fun _ h => nomatch h⟩⟩
            clear F5 N5 n5 m5 n4 m4
            dsimp only
            k_steps
            all_goals (try k_data)
            all_goals trace_state
end Mine
end
theorem PySem.Challenge.cw_oy0507_01_holds : PySem.Challenge.rw_oy0507_01.Holds := by
  exact Mine.cwJ
