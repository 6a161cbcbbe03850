import PyProof.Rows.All
import Wide.All
import OpenK.AllK
import Wide.FinOn
import Lean
import PySem.Challenge.RW_ij0069_01
open PySem PySem.W PyProof.Rows
set_option Elab.async false
namespace Mine
section
set_option maxRecDepth 100000 in
set_option maxHeartbeats 8000000 in
open_top hd for PySem.Challenge.rw_ij0069_01

end
section
def dec (n : Int) : PySem.Str := PySem.Str.ofString (toString n)
def dotS : PySem.Str := PySem.Str.ofString "."
def txt (p : Int × Int) : PySem.Str := dec p.1 ++ dotS ++ dec p.2
def Sm (n : Int) : Prop := n.natAbs < 10 ^ 40
theorem dot_is : dotS = ⟨#[46]⟩ := by decide +kernel
theorem dec_free (n : Int) : 46 ∉ (dec n).cps.toList := shown_int_free' (k := 46) (by decide) n
theorem dec_len {n : Int} (h : Sm n) : (dec n).length ≤ 41 := by
  have e := int_text_length_le10 (k := 40) (by decide) h
  unfold dec
  rw [PySem.ofString_length]
  simpa using e
theorem sm_log {n : Int} (h : Sm n) : n.natAbs.log2 < 1920 := by
  have h' : n.natAbs < 2 ^ 1920 := Nat.lt_trans h (by decide +kernel)
  by_cases h0 : n.natAbs = 0
  · rw [h0]; decide
  · exact (Nat.log2_lt h0).mpr h'
theorem sm_txt {p : Int × Int} (h1 : Sm p.1) (h2 : Sm p.2) : (txt p).length ≤ 83 := by
  unfold txt
  rw [PySem.Str.length_append, PySem.Str.length_append]
  have a := dec_len h1
  have b := dec_len h2
  have c : dotS.length = 1 := by decide +kernel
  omega
theorem cut_one {a b c d : List Nat} (ha : 46 ∉ a) (hb : 46 ∉ b) (h : a ++ 46 :: c = b ++ 46 :: d) : a = b ∧ c = d := by
  induction a generalizing b with
  | nil =>
    cases b with
    | nil => simpa using h
    | cons x b =>
      simp only [List.nil_append, List.cons_append, List.cons.injEq] at h
      exact absurd (by rw [← h.1]; exact List.mem_cons_self) hb
  | cons x a ih =>
    cases b with
    | nil =>
      simp only [List.nil_append, List.cons_append, List.cons.injEq] at h
      exact absurd (by rw [h.1]; exact List.mem_cons_self) ha
    | cons y b =>
      simp only [List.cons_append, List.cons.injEq] at h
      obtain ⟨e, r⟩ := ih (fun hm => ha (List.mem_cons_of_mem _ hm)) (fun hm => hb (List.mem_cons_of_mem _ hm)) h.2
      exact ⟨by rw [h.1, e], r⟩
theorem txt_signs (p : Int × Int) : (txt p).cps.toList = (dec p.1).cps.toList ++ 46 :: (dec p.2).cps.toList := by
  unfold txt
  rw [PySem.Str.cps_append, PySem.Str.cps_append, dot_is]
  simp
theorem txt_split (p : Int × Int) : Txt.split (txt p) dotS = [dec p.1, dec p.2] := by
  have hj := StrLaws.join_split (txt p) dotS
  have hf := StrLaws.split_free (txt p) 46
  have hl := split_len (txt p) 46
  rw [← dot_is] at hf hl
  generalize Txt.split (txt p) dotS = l at *
  have hc : cnt 46 (txt p).cps.toList = 1 := by
    have e1 : cnt 46 (dec p.1).cps.toList = 0 := cnt_none _ _ (dec_free _)
    have e2 : cnt 46 (dec p.2).cps.toList = 0 := cnt_none _ _ (dec_free _)
    have h3 : ∀ (a b : List Nat), cnt 46 (a ++ b) = cnt 46 a + cnt 46 b := by
      intro a b
      induction a with
      | nil => rw [List.nil_append, cnt_none 46 [] (by simp)]; omega
      | cons x a ih => rw [List.cons_append, cnt_cons, cnt_cons, ih]; omega
    rw [txt_signs, h3, cnt_cons, e1, e2]; simp
  rw [hc] at hl
  match l, hl, hj, hf with
  | [], hl, _, _ => simp at hl
  | [a], hl, _, _ => simp at hl
  | a :: b :: c :: r, hl, _, _ => simp only [List.length_cons] at hl; omega
  | [a, b], _, hj, hf =>
    have e : a.cps.toList ++ 46 :: b.cps.toList = (dec p.1).cps.toList ++ 46 :: (dec p.2).cps.toList := by
      rw [← txt_signs, ← hj]
      show _ = (a ++ dotS ++ b).cps.toList
      rw [PySem.Str.cps_append, PySem.Str.cps_append, dot_is]
      simp
    obtain ⟨e1, e2⟩ := cut_one (hf a (by simp)) (dec_free _) e
    have q : ∀ x y : PySem.Str, x.cps.toList = y.cps.toList → x = y := fun x y h => PySem.Str.ext' (Array.toList_inj.mp h)
    rw [q _ _ e1, q _ _ e2]
open PySem.NumText in
theorem dec_reads {n : Int} (h : Sm n) : PySem.intText? (dec n) = some n := by
  have hlen : (dec n).length ≤ 4300 := Nat.le_trans (dec_len h) (by decide)
  have hd : ∀ m : Nat, AllDigits ((Nat.toDigits 10 m).map Char.toNat) := by
    intro m c hc
    obtain ⟨ch, hch, e⟩ := List.mem_map.mp hc
    have r := PyProof.Rows.digit_range (Nat.isDigit_of_mem_toDigits (by decide) (by decide) hch)
    rw [← e]
    exact r
  have hne : ∀ m : Nat, (Nat.toDigits 10 m).map Char.toNat ≠ [] := by
    intro m e
    have h := toDigits_len_ge 10 m
    rw [List.map_eq_nil_iff.mp e] at h
    exact absurd h (by decide)
  cases n with
  | ofNat m =>
    have es : (dec (Int.ofNat m)).cps.toList = (Nat.toDigits 10 m).map Char.toNat := KIN.signs_num m
    have e := intText_digits (x := dec (Int.ofNat m)) (by rw [es]; exact hd m) (by rw [es]; exact hne m) hlen
    rw [es, KIN.val_back] at e
    exact e
  | negSucc m =>
    have es : (dec (Int.negSucc m)).cps.toList = 45 :: (Nat.toDigits 10 (m + 1)).map Char.toNat := by
      unfold dec
      rw [signs_ofString]
      show ("-" ++ Nat.repr (m + 1)).toList.map Char.toNat = _
      rw [String.toList_append, List.map_append, Nat.toList_repr]
      rfl
    have e := intText_neg es (hd (m + 1)) (hne (m + 1)) hlen
    rw [KIN.val_back] at e
    exact e
theorem txt_inj {p q : Int × Int} (h1 : Sm p.1) (h2 : Sm p.2) (k1 : Sm q.1) (k2 : Sm q.2) (h : txt p = txt q) : p = q := by
  have e := txt_split p
  rw [h, txt_split q] at e
  obtain ⟨e1, e2⟩ : dec q.1 = dec p.1 ∧ dec q.2 = dec p.2 := by simpa using e
  have a := dec_reads h1
  rw [← e1, dec_reads k1] at a
  have b := dec_reads h2
  rw [← e2, dec_reads k2] at b
  exact Prod.ext (Option.some.inj a).symm (Option.some.inj b).symm

end
section
open PySem.Builtin PySem.Builtin.Str in
theorem after_any {M : Model} {A : Around} {E : Value → Shared → Prop} {s : Shared} {l : List Nat} {p : List Value} {r : List Nat}
    {f : Nat → List Value × Writer × List Nat → Sem (ForInStep (List Value × Writer × List Nat))} {Q : List Value × Writer × List Nat → Shared → Prop}
    {w : Writer} {T : PySem.Str} {N : Nat} {o : Option Value} {c : Percent} {n : Int} {d : List Nat} (g : KPc.Good w T N) (h1 : c.alt = false) (h2 : c.type = 100) (h3 : c.prec = none) (hm : Sm n)
    (hd : d = (PySem.Str.ofString (toString ((n.natAbs : Nat) : Int))).cps.toList) (ho : o = none) (h : ∀ w', KPc.Good w' (T ++ dec n) (N + 41) → wpAny M A (forIn l (p, w', r) f) Q E s) :
    wpAny M A (forIn l (p, w.add ⟨(percentInt c (decide (n < 0)) d).toArray⟩ o, r) f) Q E s := by
  have e : (⟨(percentInt c (decide (n < 0)) d).toArray⟩ : PySem.Str) = ⟨(dec n).cps.toList.toArray⟩ := by
    congr 2
    rw [hd]
    unfold percentInt dec
    cases n with
    | ofNat m =>
      have : decide (Int.ofNat m < 0) = false := decide_eq_false (Int.not_lt.mpr (Int.natCast_nonneg m))
      rw [this]
      simp [h1, h2, h3]
    | negSucc m =>
      have : decide (Int.negSucc m < 0) = true := decide_eq_true (Int.negSucc_lt_zero m)
      rw [this]
      have e2 : (PySem.Str.ofString (toString (Int.negSucc m))).cps.toList = 45 :: (PySem.Str.ofString (toString (((Int.negSucc m).natAbs : Nat) : Int))).cps.toList := by
        rw [signs_ofString, signs_ofString]
        show ("-" ++ Nat.repr (m + 1)).toList.map Char.toNat = 45 :: (Nat.repr (m + 1)).toList.map Char.toNat
        rw [String.toList_append, List.map_append]
        rfl
      rw [e2]
      simp [h1, h2, h3]
  rw [e]
  exact KPc.after_str g (dec_len hm) (KPc.obj_none ho) h
open PySem.Builtin PySem.Builtin.Str in
theorem after_any0 {M : Model} {A : Around} {E : Value → Shared → Prop} {s : Shared} {l : List Nat} {p : List Value} {r : List Nat}
    {f : Nat → List Value × Writer × List Nat → Sem (ForInStep (List Value × Writer × List Nat))} {Q : List Value × Writer × List Nat → Shared → Prop}
    {w : Writer} {N : Nat} {o : Option Value} {c : Percent} {n : Int} {d : List Nat} (g : KPc.Good w PySem.Str.empty N) (h1 : c.alt = false) (h2 : c.type = 100) (h3 : c.prec = none) (hm : Sm n)
    (hd : d = (PySem.Str.ofString (toString ((n.natAbs : Nat) : Int))).cps.toList) (ho : o = none) (h : ∀ w', KPc.Good w' (dec n) (N + 41) → wpAny M A (forIn l (p, w', r) f) Q E s) :
    wpAny M A (forIn l (p, w.add ⟨(percentInt c (decide (n < 0)) d).toArray⟩ o, r) f) Q E s :=
  after_any g h1 h2 h3 hm hd ho fun w' g' => h w' (by rw [KPc.empty_app] at g'; exact g')
local macro_rules | `(tactic| kpt_piece) => `(tactic| first
  | (refine after_any0 (by kpc_g) rfl rfl rfl (by with_reducible assumption) rfl (by kpc_none) ?_; intro _ _)
  | (refine after_any (by kpc_g) rfl rfl rfl (by with_reducible assumption) rfl (by kpc_none) ?_; intro _ _))
local macro_rules | `(tactic| kpt_hd) => `(tactic| exact sm_log (by with_reducible assumption))
set_option maxRecDepth 100000 in
set_option maxHeartbeats 4000000 in
theorem fmt_meets {x y : Int} {tx ty t : Tok} {b : Addr} (hx : Sm x) (hy : Sm y) : Meets (Builtin.«str.__mod__» ⟨[.str ⟨#[37, 100, 46, 37, 100]⟩ t, .ref b], []⟩) (fun _ R s => IsTup s.heap b #[.int x tx, .int y ty] ∧ ∀ t' k, R (.ok (.ret (.str (txt (x, y)) t'))) { s with toks := k }) := by
  with_unfolding_all kpt_run
theorem fmt_mod {prog : Program} {w : World} {A : Around} {E : Value → Shared → Prop} {s : Shared} {t : Tok} {Q : Value → Shared → Prop} {b : Addr} {x y : Int} {tx ty : Tok} {n : Nat} {L : Addr} {h₀ : Heap} {news : List (Addr × Obj)}
    (N : News h₀ L s.heap news) (hb : (b, ({ cls := .type "tuple", data := .seq #[.int x tx, .int y ty] n } : Obj)) ∈ news) (hx : Sm x) (hy : Sm y)
    (h : ∀ t' k, Q (.str (txt (x, y)) t') { s with toks := k }) : wpAny (model prog w) A (binaryOp .Mod (.str (PySem.Str.ofString "%d.%d") t) (.ref b)) Q E s :=
  KPt.mod_tuple N hb (by decide +kernel) (fmt_meets hx hy) h

end
section
open AutoSeq1 (wpAny_loadPart')
set_option maxRecDepth 100000
theorem slot_map_init : Slot "map" "__init__" "object.__init__" :=
  .of (owner := "object") (n := "__init__") (by rw [typeLookup_type, builtinLookup_eq_fast]; kernel_rfl) (by decide +kernel) (by decide +kernel) (by decide +kernel)
    (by first | exact .inl (by decide +kernel) | exact .inr (by decide +kernel)) (by rw [isSubtype_type]; kernel_rfl)
theorem slot_map_iter : Slot "map" "__iter__" "map.__iter__" :=
  .of (owner := "map") (n := "__iter__") (by rw [typeLookup_type, builtinLookup_eq_fast]; kernel_rfl) (by decide +kernel) (by decide +kernel) (by decide +kernel)
    (by first | exact .inl (by decide +kernel) | exact .inr (by decide +kernel)) (by rw [isSubtype_type]; kernel_rfl)
theorem slot_map_next : Slot "map" "__next__" "map.__next__" :=
  .of (owner := "map") (n := "__next__") (by rw [typeLookup_type, builtinLookup_eq_fast]; kernel_rfl) (by decide +kernel) (by decide +kernel) (by decide +kernel)
    (by first | exact .inl (by decide +kernel) | exact .inr (by decide +kernel)) (by rw [isSubtype_type]; kernel_rfl)
theorem owner_map : Manifest.owners.lookup (String.ofList ['p', 'a', 'm'].reverse) = some Manifest.sig_map := by kernel_rfl
theorem args_map_iter_1 (a : Value) : argsOk "map.__iter__" ⟨[a], []⟩ := by
  unfold argsOk; rw [signature?_of (id := "map.__iter__") (n := ['_', '_', 'r', 'e', 't', 'i', '_', '_']) (o := ['p', 'a', 'm']) (by kernel_rfl) owner_map]; kernel_rfl
theorem args_map_next_1 (a : Value) : argsOk "map.__next__" ⟨[a], []⟩ := by
  unfold argsOk; rw [signature?_of (id := "map.__next__") (n := ['_', '_', 't', 'x', 'e', 'n', '_', '_']) (o := ['p', 'a', 'm']) (by kernel_rfl) owner_map]; kernel_rfl
theorem entry_map_next : entryFor table "map.__next__" = some Builtin.«map.__next__» := entryFor_of_tree (by kernel_rfl)
theorem entry_map_new : entryFor table "map.__new__" = some Builtin.«map.__new__» := entryFor_of_tree (by kernel_rfl)
theorem entry_map_iter : entryFor table "map.__iter__" = some Builtin.«dict_keyiterator.__iter__» :=
  entryFor_alias (id' := "dict_keyiterator.__iter__") (by kernel_rfl) (by first | rfl | decide +kernel | (unfold String.splitOn; simp +decide [String.splitOnAux])) (by decide +kernel) (by kernel_rfl)
theorem mro_map : mroOf (.type "map") = pure [.type "map", .type "object"] := by rw [mroOf_type]; kernel_rfl
theorem lookup_map_new : typeLookup (.type "map") "__new__" = pure (some (.builtin "map.__new__")) := by rw [typeLookup_type, builtinLookup_eq_fast]; kernel_rfl
theorem sub_map : isSubtype (.type "map") (.type "map") = pure true := by rw [isSubtype_type]; kernel_rfl
theorem called_map : TypeCalled "map" "map.__new__" "object.__init__" :=
  ⟨by decide +kernel, by decide +kernel, ⟨_, _, mro_map⟩, madeBy_type mro_map lookup_map_new (by decide +kernel), by decide +kernel, by rw [isSubtype_type]; kernel_rfl, slot_map_init⟩
theorem typeCall_map_2 (a b : Value) : checkTypeCall "map" ⟨[a, b], []⟩ = pure () := by kernel_rfl
theorem newCall_map_2 (a b : Value) : checkBuiltinCall "map.__new__" ⟨[.type "map", a, b], []⟩ = pure () := by kernel_rfl

theorem meets_map_new (l : Addr) (items : Array Value) (n : Nat) (dct : Option Addr) (sl : Array (Option Value)) :
    Meets (Builtin.«map.__new__» ⟨[.type "map", .type "int", .ref l], []⟩) (fun _ R s => s.heap.get? l = some { cls := .type "list", dict := dct, data := .seq items n, slots := sl } ∧
      R (.ok (.ret (.ref (s.heap.objs.size + 2))))
        { s with heap := ((s.heap.push { cls := .type "list_iterator", data := .fields #[.ref l, .int 0 0] }).push { cls := .type "tuple", data := .seq #[.ref s.heap.objs.size] }).push { cls := .type "map", data := .fields #[.ref (s.heap.objs.size + 1), .type "int"] } }) :=
  .of_wp fun prog w A R s h => by
    obtain ⟨hp, g, d, tk, os⟩ := s; obtain ⟨hl, h⟩ := h
    have hsub := sub_map
    have hL : Heap.IsList (Shared.heap ⟨hp, g, d, tk, os⟩) l items := ⟨_, hl, rfl, n, rfl⟩
    wp_walk using wpAny_loadPart' hl, wpAny_pyIter_list hL
    refine ⟨_, rfl, ?_⟩
    simpa [Heap.size_push] using h

structure IsMap (h : Heap) (mp tp it : Addr) : Prop where
  m : h.get? mp = some { cls := .type "map", data := .fields #[.ref tp, .type "int"] }
  t : h.get? tp = some { cls := .type "tuple", data := .seq #[.ref it] }
theorem IsMap.ext {h h' : Heap} {mp tp it : Addr} (x : IsMap h mp tp it) (hk : ∀ b o, b ≠ it → h.get? b = some o → h'.get? b = some o) (h1 : mp ≠ it) (h2 : tp ≠ it) : IsMap h' mp tp it :=
  ⟨hk _ _ h1 x.m, hk _ _ h2 x.t⟩
section
variable {prog : Program} {w : World} {A : Around} {E : Value → Shared → Prop} {s : Shared}
theorem call_map_int {l : Addr} {items : Array Value} {Q : Value → Shared → Prop} (hL : s.heap.IsList l items)
    (h : ∀ h', IsMap h' (s.heap.objs.size + 2) (s.heap.objs.size + 1) s.heap.objs.size → h'.IsListIter s.heap.objs.size l 0 →
      (∀ b o, s.heap.get? b = some o → h'.get? b = some o) → Q (.ref (s.heap.objs.size + 2)) { s with heap := h' }) :
    wpAny (model prog w) A (call (.type "map") [.type "int", .ref l]) Q E s := by
  obtain ⟨⟨c, dct, dt, sl⟩, hl, hc, n, hd⟩ := hL
  replace hc : c = .type "list" := hc
  replace hd : dt = .seq items n := hd
  subst hc hd
  refine callType_new called_map (by decide) (typeCall_map_2 _ _) (newCall_map_2 _ _) (fun obj => F.args_object_init_3 obj _ _) entry_map_new
    (meets_map_new l items n dct sl) ⟨hl, ?_⟩
  generalize hH1 : s.heap.push { cls := .type "list_iterator", data := .fields #[.ref l, .int 0 0] } = H1
  have z1 : H1.objs.size = s.heap.objs.size + 1 := by rw [← hH1, Heap.size_push]
  generalize hH2 : H1.push { cls := .type "tuple", data := .seq #[.ref s.heap.objs.size] } = H2
  have z2 : H2.objs.size = s.heap.objs.size + 2 := by rw [← hH2, Heap.size_push, z1]
  have e3 := Heap.get?_push_size H2 (o := { cls := .type "map", data := .fields #[.ref (s.heap.objs.size + 1), .type "int"] }) rfl
  rw [z2] at e3
  have e2 := Heap.get?_push_size H1 (o := { cls := .type "tuple", data := .seq #[.ref s.heap.objs.size] }) rfl
  rw [z1, hH2] at e2
  have e1 := Heap.get?_push_size s.heap (o := { cls := .type "list_iterator", data := .fields #[.ref l, .int 0 0] }) rfl
  rw [hH1] at e1
  refine ⟨⟨_, e3, rfl⟩, h _ ⟨e3, Heap.get?_push_of_some _ e2⟩ ⟨_, Heap.get?_push_of_some _ (by rw [← hH2]; exact Heap.get?_push_of_some _ e1), rfl, rfl⟩ fun b o x => Heap.get?_push_of_some _ (by rw [← hH2]; exact Heap.get?_push_of_some _ (by rw [← hH1]; exact Heap.get?_push_of_some _ x))⟩

end

end
section
open AutoSeq1 (wpAny_loadPart')
set_option maxRecDepth 100000
section
variable {prog : Program} {w : World} {A : Around} {E : Value → Shared → Prop} {s : Shared}
theorem map_self {mp tp it : Addr} {Q : Value → Shared → Prop} (hm : IsMap s.heap mp tp it) (h : Q (.ref mp) s) : wpAny (model prog w) A (pyIter (.ref mp)) Q E s := by
  have hT : s.TypeIs (.ref mp) "map" := ⟨_, hm.m, rfl⟩
  refine wpAny_pyIter_slot hT slot_map_iter (wpAny_call_entry slot_map_iter hT entry_map_iter ?_ (args_map_iter_1 _))
  show wpAny _ _ (ret (.ref mp)) _ _ s
  exact wpAny_pure ⟨_, rfl, "map", _, hT, slot_map_next.lookup, h⟩

theorem map_next_item {mp tp it l : Addr} {i : Nat} {items : Array Value} {n : Int} {t : Tok} {Q : Option Value → Shared → Prop}
    (hm : IsMap s.heap mp tp it) (hit : s.heap.IsListIter it l i) (hl : s.heap.IsList l items) (hx : items[i]? = some (.str (dec n) t)) (hn : Sm n) (h1 : mp ≠ it) (h2 : tp ≠ it)
    (hQ : ∀ h', h'.IsListIter it l (i + 1) → Heap.SameBut it s.heap h' → Q (some (.int n s.toks)) { s with heap := h', toks := s.toks + 1 }) :
    wpAny (model prog w) A (pyNext (.ref mp)) Q E s := by
  have hT : s.TypeIs (.ref mp) "map" := ⟨_, hm.m, rfl⟩
  unfold pyNext
  refine wpAny_bind (wpAny_attempt (wpAny_callSpecial?_slot (name := PySem.Str.ofString "__next__") hT slot_map_next
    (wpAny_call_entry slot_map_next hT entry_map_next ?_ (args_map_next_1 _))))
  show wpAny _ _ (field (.ref mp) 0 >>= _) _ _ _
  refine wpAny_bind (wpAny_field hm.m rfl (x := .ref tp) rfl ?_)
  show wpAny _ _ (seqItems? (.ref tp) >>= _) _ _ s
  refine wpAny_bind (wpAny_seqItems hm.t rfl ?_)
  show wpAny _ _ (forIn #[Value.ref it] (#[] : Array Value) _ >>= _) _ _ s
  refine wpAny_bind ?_
  simp only [List.forIn_toArray, List.forIn_cons, List.forIn_nil]
  refine wpAny_bind (wpAny_bind (wpAny_holding (wpAny_nextOf_list_item hit hl hx fun h₁ hit₁ hs₁ => wpAny_pure ?_)))
  refine wpAny_pure ?_
  show wpAny _ _ (field (.ref mp) 1 >>= _) _ _ ⟨h₁, s.gens, s.drawn, s.toks, s.os⟩
  have hm₁ := hm.ext hs₁.extBut h1 h2
  refine wpAny_bind (wpAny_field hm₁.m rfl (x := .type "int") rfl ?_)
  show wpAny _ _ (holding [.str (dec n) t] (call (.type "int") [.str (dec n) t]) >>= _) _ _ _
  refine wpAny_bind (wpAny_holding (KIN.call_text (dec_reads hn) (Nat.le_trans (dec_len hn) (by decide)) ?_))
  refine wpAny_bind (wpAny_letGo (wpAny_pure ⟨_, rfl, wpAny_pure (hQ h₁ hit₁ hs₁)⟩))

theorem map_next_end {mp tp it l : Addr} {i : Nat} {items : Array Value} {Q : Option Value → Shared → Prop} (hh : A.handled = none)
    (hm : IsMap s.heap mp tp it) (hit : s.heap.IsListIter it l i) (hl : s.heap.IsList l items) (hx : items[i]? = none)
    (hQ : ∀ h', Heap.ExtBut it s.heap h' → Q none { s with heap := h' }) :
    wpAny (model prog w) A (pyNext (.ref mp)) Q E s := by
  have hT : s.TypeIs (.ref mp) "map" := ⟨_, hm.m, rfl⟩
  unfold pyNext
  refine wpAny_bind (wpAny_attempt (wpAny_callSpecial?_slot (name := PySem.Str.ofString "__next__") hT slot_map_next
    (wpAny_call_entry slot_map_next hT entry_map_next ?_ (args_map_next_1 _))))
  show wpAny _ _ (field (.ref mp) 0 >>= _) _ _ _
  refine wpAny_bind (wpAny_field hm.m rfl (x := .ref tp) rfl ?_)
  show wpAny _ _ (seqItems? (.ref tp) >>= _) _ _ s
  refine wpAny_bind (wpAny_seqItems hm.t rfl ?_)
  show wpAny _ _ (forIn #[Value.ref it] (#[] : Array Value) _ >>= _) _ _ s
  refine wpAny_bind ?_
  simp only [List.forIn_toArray, List.forIn_cons, List.forIn_nil]
  refine wpAny_bind (wpAny_bind (wpAny_holding (wpAny_nextOf_list_end hh hit hl hx fun h' x he' hx' => ?_)))
  obtain ⟨o, ho, hc⟩ := hx'
  refine wpAny_bind (wpAny_isInstance (T := "StopIteration") (b := true) ⟨o, ho, hc⟩ isSubtype_stop ?_)
  exact wpAny_pure (hQ _ he')

/-- two targets out of map(int, [two numerals]) -/
theorem map_unpack {h₀ : Heap} {L l mp tp it : Addr} {m : PySem.Str → Option Value} {news : List (Addr × Obj)} {x y : Int} {t u : Tok} {Q : List Value → Shared → Prop}
    (F : Fr h₀ L s.heap m) (N : News h₀ L s.heap news) (hit0 : h₀.get? it = none) (hitL : it ≠ L) (off : ∀ p ∈ news, p.1 ≠ it)
    (hm : IsMap s.heap mp tp it) (hit : s.heap.IsListIter it l 0) (hl : s.heap.IsList l #[.str (dec x) t, .str (dec y) u]) (hh : A.handled = none) (hx : Sm x) (hy : Sm y) (h1 : mp ≠ it) (h2 : tp ≠ it) (h3 : l ≠ it)
    (h : ∀ h' t1 t2 tk, Fr h₀ L h' m → News h₀ L h' news → Q [.int x t1, .int y t2] { s with heap := h', toks := tk }) : wpAny (model prog w) A (unpackItems (.ref mp) 2 none) Q E s := by
  have hT : s.TypeIs (.ref mp) "map" := ⟨_, hm.m, rfl⟩
  unfold unpackItems
  refine wpAny_bind ?_
  · unfold notIterableAtAll
    refine wpAny_bind (wpAny_specialOf hT slot_map_iter.lookup ?_)
    refine wpAny_pure ?_
    simp only [Bool.false_eq_true, if_false]
    refine wpAny_bind (wpAny_holding (map_self hm ?_))
    refine wpAny_bind (wpAny_holding ?_)
    show wpAny _ _ (pyNext (.ref mp) >>= _) _ _ s
    refine wpAny_bind (map_next_item hm hit hl (i := 0) (n := x) (t := t) rfl hx h1 h2 fun ha hita hsa => ?_)
    have hma := hm.ext hsa.extBut h1 h2
    have hla := hl.extBut hsa.extBut h3
    dsimp only
    refine wpAny_bind (wpAny_holding ?_)
    show wpAny _ _ (pyNext (.ref mp) >>= _) _ _ _
    refine wpAny_bind (map_next_item hma hita hla (i := 1) (n := y) (t := u) rfl hy h1 h2 fun hb hitb hsb => ?_)
    have hmb := hma.ext hsb.extBut h1 h2
    have hlb := hla.extBut hsb.extBut h3
    dsimp only
    refine wpAny_bind (wpAny_holding ?_)
    show wpAny _ _ (pure []) _ _ _
    refine wpAny_pure (wpAny_pure (wpAny_pure ?_))
    rw [if_neg (by simp)]
    refine wpAny_bind (wpAny_holding (map_next_end hh hmb hitb hlb rfl fun hc hsc => ?_))
    simp only [Option.isSome_none, Bool.false_eq_true, if_false]
    have keep : ∀ b o, b ∉ [it] → s.heap.get? b = some o → hc.get? b = some o := fun b o hb e => by
      have hb' : b ≠ it := by simpa using hb
      exact hsc b o hb' (hsb.extBut b o hb' (hsa.extBut b o hb' e))
    exact wpAny_pure (h hc _ _ _ (LCg.fr_but F keep (Ne.symm hitL) hit0) (LCg.news_but N keep off))
end

end
section
open LCg
set_option maxRecDepth 100000
section
variable {prog : Program} {w : World} {A : Around} {R : Result → Shared → Prop} {s : Shared}

/-- one clause, its tests, any target -/
theorem cl_one {elt target iter : PySem.Expr} {ifs : List PySem.Expr} {scope : Scope} {pos : Pos} {it acc : Value} {env : Env} (I : Nat → Shared → Prop)
    (turn : ∀ n s, I n s → wpAny (model prog w) A (pyNext it) (fun r s₁ => match r with
      | none => R (.ok .next) s₁
      | some v => wpAny (model prog w) A (letOwnedTupleGo target it v) (fun _ s₀ => wpAny (model prog w) A (assign target env v) (fun _ s₂ =>
          wpAny (model prog w) A (forIn ifs true fun c r => if r = true then do let ok ← isTrue c env (eval c env); pure (ForInStep.yield ok) else pure (ForInStep.yield r)) (fun ok s₃ =>
            if ok = true then wpAny (model prog w) A (eval elt env) (fun x s₄ =>
              wpAny (model prog w) A (call (.builtin "list.append") [acc, x]) (fun _ s₅ => ∃ m, m < n ∧ I m s₅) (notedBy (model prog w) A env fun e s' => R (.error e) s') s₄) (notedBy (model prog w) A env fun e s' => R (.error e) s') s₃
            else ∃ m, m < n ∧ I m s₃) (notedBy (model prog w) A env fun e s' => R (.error e) s') s₂)
          (notedBy (model prog w) A env fun e s' => R (.error e) s') s₀) (notedBy (model prog w) A env fun e s' => R (.error e) s') s₁) (notedBy (model prog w) A env fun e s' => R (.error e) s') s)
    (n : Nat) (h : I n s) : codeAny (model prog w) A (.compLoop (.ListComp elt [⟨target, iter, ifs, 0⟩] scope pos) 0 it acc env) R s := by
  refine codeAny_loop rfl I (fun n s hI => ?_) n h
  show wpAny _ A ((compTurn (.ListComp elt [⟨target, iter, ifs, 0⟩] scope pos) 0 it acc env).onRaise (fun x => do noteFrame x env; theTreesLotGoes x)) _ _ s
  refine wpAny_noted ?_
  rw [compTurn_list]
  refine wpAny_bind (wpAny_standAt (wpAny_bind (wpAny_mono (turn n s hI) (fun r s₁ h₁ => ?_) fun _ _ h' => h')))
  cases r with
  | none => exact wpAny_pure h₁
  | some v =>
    refine wpAny_bind (wpAny_mono h₁ (fun _ s₀ h₀' => ?_) fun _ _ h' => h')
    refine wpAny_bind (wpAny_mono h₀' (fun _ s₂ h₂ => ?_) fun _ _ h' => h')
    refine wpAny_bind (wpAny_mono h₂ (fun ok s₃ h₃ => ?_) fun _ _ h' => h')
    cases ok with
    | true =>
      simp only [if_true] at h₃ ⊢
      exact wpAny_bind (wpAny_bind (wpAny_mono h₃ (fun x s₄ h₄ => wpAny_bind (wpAny_mono h₄ (fun _ s₅ h₅ => wpAny_pure (wpAny_pure ⟨rfl, h₅⟩)) fun _ _ h' => h')) fun _ _ h' => h'))
    | false =>
      simp only [Bool.false_eq_true, if_false] at h₃ ⊢
      exact wpAny_pure ⟨rfl, h₃⟩

theorem turn_two0 (elt t1 i1 t2 i2 : PySem.Expr) (scope : Scope) (pos : Pos) (it acc : Value) (env : Env) :
    compTurn (.ListComp elt [⟨t1, i1, [], 0⟩, ⟨t2, i2, [], 0⟩] scope pos) 0 it acc env = (do
      standAt i1.pos
      match ← pyNext it with
      | none => pure (.done .next)
      | some v =>
        letOwnedTupleGo t1 it v
        assign t1 env v
        (do
          let x ← eval i2 env
          standAt i2.pos
          let x ← foldedSetIterable i2 env x
          let j ← holding [x] (pyIter x)
          let _ ← runOwn (.compStart (.ListComp elt [⟨t1, i1, [], 0⟩, ⟨t2, i2, [], 0⟩] scope pos) 1 j acc env) env
          again (.compLoop (.ListComp elt [⟨t1, i1, [], 0⟩, ⟨t2, i2, [], 0⟩] scope pos) 0 it acc env))) := by rfl
theorem turn_two1 (elt t1 i1 t2 i2 : PySem.Expr) (scope : Scope) (pos : Pos) (it acc : Value) (env : Env) :
    compTurn (.ListComp elt [⟨t1, i1, [], 0⟩, ⟨t2, i2, [], 0⟩] scope pos) 1 it acc env = (standAt i2.pos >>= fun _ => pyNext it >>= fun r => match r with
      | none => pure (.done .next)
      | some v => letOwnedTupleGo t2 it v >>= fun _ => assign t2 env v >>= fun _ =>
        (eval elt env >>= fun x => call (.builtin "list.append") [acc, x] >>= fun _ => pure ()) >>= fun _ =>
          again (.compLoop (.ListComp elt [⟨t1, i1, [], 0⟩, ⟨t2, i2, [], 0⟩] scope pos) 1 it acc env)) := by rfl

/-- the rule of a loop's code: a turn's body as a transformer -/
def LoopRule (prog : Program) (w : World) (A : Around) (target : PySem.Expr) (env : Env) (it : Value) (B : (Shared → Prop) → (Value → Shared → Prop) → Shared → Prop) (R : Result → Shared → Prop) (c : Code) : Prop :=
  ∀ (I : Nat → Shared → Prop), (∀ n s, I n s → wpAny (model prog w) A (pyNext it) (fun r s₁ => match r with
      | none => R (.ok .next) s₁
      | some v => wpAny (model prog w) A (letOwnedTupleGo target it v) (fun _ s₀ => wpAny (model prog w) A (assign target env v) (fun _ s₂ =>
          B (fun s₅ => ∃ m, m < n ∧ I m s₅) (notedBy (model prog w) A env fun e s' => R (.error e) s') s₂)
          (notedBy (model prog w) A env fun e s' => R (.error e) s') s₀) (notedBy (model prog w) A env fun e s' => R (.error e) s') s₁) (notedBy (model prog w) A env fun e s' => R (.error e) s') s) →
    ∀ n s, I n s → codeAny (model prog w) A c R s

def bodyE (prog : Program) (w : World) (A : Around) (elt : PySem.Expr) (env : Env) (acc : Value) (P : Shared → Prop) (E : Value → Shared → Prop) (s : Shared) : Prop :=
  wpAny (model prog w) A (eval elt env) (fun x s₄ => wpAny (model prog w) A (call (.builtin "list.append") [acc, x]) (fun _ s₅ => P s₅) E s₄) E s
def bodyT (prog : Program) (w : World) (A : Around) (ct elt : PySem.Expr) (env : Env) (acc : Value) (P : Shared → Prop) (E : Value → Shared → Prop) (s : Shared) : Prop :=
  wpAny (model prog w) A (isTrue ct env (eval ct env)) (fun ok s₃ => if ok = true then bodyE prog w A elt env acc P E s₃ else P s₃) E s
def bodyN (prog : Program) (w : World) (A : Around) (i2 : PySem.Expr) (e : PySem.Expr) (env : Env) (acc : Value) (P : Shared → Prop) (E : Value → Shared → Prop) (s : Shared) : Prop :=
  wpAny (model prog w) A (eval i2 env) (fun x s₁ => wpAny (model prog w) A (pyIter x) (fun j s₂ =>
    codeAny (model prog w) A (.compStart e 1 j acc env) (fun r s' => match r with | .ok _ => P s' | .error y => cameBackBy (model prog w) A env E y s') s₂) E s₁) E s

theorem rule_one {elt target iter : PySem.Expr} {scope : Scope} {pos : Pos} {it acc : Value} {env : Env} : LoopRule prog w A target env it (bodyE prog w A elt env acc) R (.compLoop (.ListComp elt [⟨target, iter, [], 0⟩] scope pos) 0 it acc env) := by
  intro I turn n s hI
  refine cl_one I (fun n s hI => wpAny_mono (turn n s hI) (fun r s₁ h₁ => ?_) fun _ _ x => x) n hI
  cases r with
  | none => exact h₁
  | some v =>
    exact wpAny_mono h₁ (fun _ s₀ h₀ => wpAny_mono h₀ (fun _ s₂ h₂ => wpAny_tests_nil (by simp only [if_true]; exact h₂)) fun _ _ x => x) fun _ _ x => x
theorem rule_test {ct elt target iter : PySem.Expr} {scope : Scope} {pos : Pos} {it acc : Value} {env : Env} : LoopRule prog w A target env it (bodyT prog w A ct elt env acc) R (.compLoop (.ListComp elt [⟨target, iter, [ct], 0⟩] scope pos) 0 it acc env) := by
  intro I turn n s hI
  refine cl_one I (fun n s hI => wpAny_mono (turn n s hI) (fun r s₁ h₁ => ?_) fun _ _ x => x) n hI
  cases r with
  | none => exact h₁
  | some v =>
    exact wpAny_mono h₁ (fun _ s₀ h₀ => wpAny_mono h₀ (fun _ s₂ h₂ => wpAny_tests_one h₂) fun _ _ x => x) fun _ _ x => x
theorem rule_inner {elt t1 i1 t2 i2 : PySem.Expr} {scope : Scope} {pos : Pos} {it acc : Value} {env : Env} : LoopRule prog w A t2 env it (bodyE prog w A elt env acc) R (.compLoop (.ListComp elt [⟨t1, i1, [], 0⟩, ⟨t2, i2, [], 0⟩] scope pos) 1 it acc env) := by
  intro I turn n s hI
  refine codeAny_loop rfl I (fun n s hI => ?_) n hI
  show wpAny _ A ((compTurn (.ListComp elt [⟨t1, i1, [], 0⟩, ⟨t2, i2, [], 0⟩] scope pos) 1 it acc env).onRaise (fun x => do noteFrame x env; theTreesLotGoes x)) _ _ s
  refine wpAny_noted ?_
  rw [turn_two1]
  refine wpAny_bind (wpAny_standAt (wpAny_bind (wpAny_mono (turn n s hI) (fun r s₁ h₁ => ?_) fun _ _ h' => h')))
  cases r with
  | none => exact wpAny_pure h₁
  | some v =>
    refine wpAny_bind (wpAny_mono h₁ (fun _ s₀ h₀' => ?_) fun _ _ h' => h')
    refine wpAny_bind (wpAny_mono h₀' (fun _ s₂ h₂ => ?_) fun _ _ h' => h')
    exact wpAny_bind (wpAny_bind (wpAny_mono h₂ (fun x s₄ h₄ => wpAny_bind (wpAny_mono h₄ (fun _ s₅ h₅ => wpAny_pure (wpAny_pure ⟨rfl, h₅⟩)) fun _ _ h' => h')) fun _ _ h' => h'))
theorem rule_outer {elt t1 i1 t2 i2 : PySem.Expr} {scope : Scope} {pos : Pos} {it acc : Value} {env : Env} (hs : ∀ x, foldedSetIterable i2 env x = pure x) (hh : A.handled = none) :
    LoopRule prog w A t1 env it (bodyN prog w A i2 (.ListComp elt [⟨t1, i1, [], 0⟩, ⟨t2, i2, [], 0⟩] scope pos) env acc) R (.compLoop (.ListComp elt [⟨t1, i1, [], 0⟩, ⟨t2, i2, [], 0⟩] scope pos) 0 it acc env) := by
  intro I turn n s hI
  refine codeAny_loop rfl I (fun n s hI => ?_) n hI
  show wpAny _ A ((compTurn (.ListComp elt [⟨t1, i1, [], 0⟩, ⟨t2, i2, [], 0⟩] scope pos) 0 it acc env).onRaise (fun x => do noteFrame x env; theTreesLotGoes x)) _ _ s
  refine wpAny_noted ?_
  rw [turn_two0]
  refine wpAny_bind (wpAny_standAt (wpAny_bind (wpAny_mono (turn n s hI) (fun r s₁ h₁ => ?_) fun _ _ h' => h')))
  cases r with
  | none => exact wpAny_pure h₁
  | some v =>
    refine wpAny_bind (wpAny_mono h₁ (fun _ s₀ h₀' => ?_) fun _ _ h' => h')
    refine wpAny_bind (wpAny_mono h₀' (fun _ s₂ h₂ => ?_) fun _ _ h' => h')
    refine wpAny_bind (wpAny_mono h₂ (fun x s₃ h₃ => ?_) fun _ _ h' => h')
    refine wpAny_bind (wpAny_standAt (wpAny_bind (wpAny_of_eq (hs x) (wpAny_bind (wpAny_holding (wpAny_mono h₃ (fun j s₄ h₄ => ?_) fun _ _ h' => h'))))))
    refine wpAny_bind (wpAny_runOwn ?_)
    have eA : A.mark none = A := by cases A; rfl
    rw [eA]
    refine codeAny_mono h₄ fun r s' hr => ?_
    cases r with
    | ok f => exact wpAny_pure ⟨rfl, hr⟩
    | error y => exact hr
theorem start_inner {elt t1 i1 t2 i2 : PySem.Expr} {scope : Scope} {pos : Pos} {it acc : Value} {env : Env}
    (h0 : codeAny (model prog w) A (.compLoop (.ListComp elt [⟨t1, i1, [], 0⟩, ⟨t2, i2, [], 0⟩] scope pos) 1 it acc env) R s)
    (h : wpAny (model prog w) A (pyIter it) (fun it' s' => codeAny (model prog w) A (.compLoop (.ListComp elt [⟨t1, i1, [], 0⟩, ⟨t2, i2, [], 0⟩] scope pos) 1 it' acc env) R s')
      (notedBy (model prog w) A env fun x s' => R (.error x) s') s) :
    codeAny (model prog w) A (.compStart (.ListComp elt [⟨t1, i1, [], 0⟩, ⟨t2, i2, [], 0⟩] scope pos) 1 it acc env) R s := by
  refine codeAny_of_tree ?_
  show wpAny _ _ ((compStart (.ListComp elt [⟨t1, i1, [], 0⟩, ⟨t2, i2, [], 0⟩] scope pos) 1 it acc env).onRaise (fun x => do noteFrame x env; standAt theWindowsPlace)) _ _ s
  refine wpAny_notedAt ?_
  unfold compStart
  show wpAny _ _ (ask >>= _) _ _ s
  refine wpAny_bind (wpAny_askSetting (wpAny_ite ?_))
  split
  · first
      | exact wpAny_bind (wpAny_pure (wpAny_pure (And.intro rfl h0)))
      | exact wpAny_pure (And.intro rfl h0)
  · first
      | exact wpAny_bind (wpAny_rule (wpAny_bind (wpAny_standAt (wpAny_bind (wpAny_mono h (fun it' s' h' => wpAny_pure (And.intro rfl h')) fun _ _ x => x)))))
      | (refine wpAny_bind (wpAny_rule ?_); show wpAny _ _ (standAt i2.pos >>= _) _ _ s; exact wpAny_bind (wpAny_standAt (wpAny_bind (wpAny_mono h (fun it' s' h' => wpAny_pure (And.intro rfl h')) fun _ _ x => x))))
end

end
section
open LCg
set_option maxRecDepth 100000

structure CInv (h₀ : Heap) (L : Addr) (m : PySem.Str → Option Value) (C D : Addr) (wr : List Addr) (fz : List (Addr × Obj)) (h : Heap) (mc : PySem.Str → Option Value) (ys : List Value) (nw : List (Addr × Obj)) : Prop where
  F : Fr h₀ L h m
  ns : h.Ns C mc
  d : h.get? D = some (lst ys)
  N : News h₀ L h nw
  z : News h₀ L h fz
  off : ∀ p ∈ nw, p.1 ≠ C ∧ p.1 ≠ D ∧ p.1 ∉ wr

structure CSep (h₀ : Heap) (L C D : Addr) (fp wr : List Addr) (fz : List (Addr × Obj)) : Prop where
  C0 : h₀.get? C = none
  CL : C ≠ L
  D0 : h₀.get? D = none
  DL : D ≠ L
  CD : C ≠ D
  Cf : C ∉ fp
  Df : D ∉ fp
  wf : ∀ b ∈ wr, b ∈ fp
  w0 : ∀ b ∈ wr, h₀.get? b = none
  Lf : L ∉ fp
  z : ∀ p ∈ fz, p.1 ≠ C ∧ p.1 ≠ D ∧ p.1 ∉ wr

section
variable {h₀ : Heap} {L C D : Addr} {m : PySem.Str → Option Value} {fp wr : List Addr} {fz : List (Addr × Obj)} {h h' : Heap} {mc : PySem.Str → Option Value} {ys : List Value} {nw : List (Addr × Obj)}
theorem CInv.but (x : CInv h₀ L m C D wr fz h mc ys nw) (S : CSep h₀ L C D fp wr fz) (hk : ∀ b o, b ∉ wr → h.get? b = some o → h'.get? b = some o) : CInv h₀ L m C D wr fz h' mc ys nw where
  F := ⟨x.F.ns.at' fun o e => hk L o (fun hm => S.Lf (S.wf _ hm)) e, fun b o e => hk b o (fun hm => by rw [S.w0 b hm] at e; cases e) (x.F.keep b o e), x.F.above⟩
  ns := x.ns.at' fun o e => hk C o (fun hm => S.Cf (S.wf _ hm)) e
  d := hk D _ (fun hm => S.Df (S.wf _ hm)) x.d
  N := fun p hp => ⟨hk _ _ (x.off p hp).2.2 (x.N p hp).1, (x.N p hp).2⟩
  z := fun p hp => ⟨hk _ _ (S.z p hp).2.2 (x.z p hp).1, (x.z p hp).2⟩
  off := x.off
end

section
variable {prog : Program} {w : World} {A : Around} {R : Result → Shared → Prop} {s : Shared} {h₀ : Heap} {L D I : Addr} {m : PySem.Str → Option Value} {fp wr : List Addr} {fz : List (Addr × Obj)} {n : Nat}
  {P Md : Nat → Value → Heap → Prop} {St : Nat → Heap → Prop} {target : PySem.Expr} {env : Env} {c : Code}

theorem level {B : (Shared → Prop) → (Value → Shared → Prop) → Shared → Prop} (rule : LoopRule prog w A target env (.ref I) B R c)
    (W : KTurns prog w A target I fp wr n P Md St) (S : CSep h₀ L env.locals D fp wr fz) (Inv : Nat → List Value → List (Addr × Obj) → Prop)
    {mc : PySem.Str → Option Value} {ys : List Value} {nw : List (Addr × Obj)} (hst : St 0 s.heap) (start : CInv h₀ L m env.locals D wr fz s.heap mc ys nw) (h0 : Inv 0 ys nw)
    (Bmono : ∀ (P P' : Shared → Prop) (E : Value → Shared → Prop) (s : Shared), (∀ s, P s → P' s) → B P E s → B P' E s)
    (turn : ∀ i v h tk mc ys nw (E' : Value → Shared → Prop), i < n → P i v h → St (i + 1) h → CInv h₀ L m env.locals D wr fz h mc ys nw → Inv i ys nw →
      wpAny (model prog w) A (assign target env v) (fun _ s₂ => B (fun s₅ => ∃ h' tk' mc' ys' nw', s₅ = { s with heap := h', toks := tk' } ∧ St (i + 1) h' ∧ CInv h₀ L m env.locals D wr fz h' mc' ys' nw' ∧ Inv (i + 1) ys' nw') E' s₂) E' { s with heap := h, toks := tk })
    (done : ∀ h tk mc ys nw, CInv h₀ L m env.locals D wr fz h mc ys nw → Inv n ys nw → R (.ok .next) { s with heap := h, toks := tk }) : codeAny (model prog w) A c R s := by
  refine rule (fun k s' => ∃ h tk mc ys nw i, s' = { s with heap := h, toks := tk } ∧ i ≤ n ∧ k = n + 1 - i ∧ St i h ∧ CInv h₀ L m env.locals D wr fz h mc ys nw ∧ Inv i ys nw) ?_ (n + 1) s
    ⟨s.heap, s.toks, mc, ys, nw, 0, rfl, Nat.zero_le _, rfl, hst, start, h0⟩
  rintro k s' ⟨h, tk, mc, ys, nw, i, rfl, hi, rfl, hst', X, hI⟩
  by_cases hlt : i < n
  · refine W.item i _ _ _ hlt hst' fun v h₁ tk₁ hMd hk₁ => ?_
    refine W.go i v _ _ _ hMd fun h₂ hP hst₂ hk₂ => ?_
    have X₂ := X.but S fun b o hb e => hk₂ b o hb (hk₁ b o hb e)
    refine wpAny_mono (turn i v h₂ tk₁ mc ys nw _ hlt hP hst₂ X₂ hI) (fun _ s₂ h₂' => Bmono _ _ _ _ ?_ h₂') fun _ _ e => e
    rintro s₅ ⟨h', tk', mc', ys', nw', rfl, st', X', hI'⟩
    exact ⟨n + 1 - (i + 1), by omega, h', tk', mc', ys', nw', i + 1, rfl, hlt, rfl, st', X', hI'⟩
  · obtain rfl : i = n := Nat.le_antisymm hi (Nat.not_lt.mp hlt)
    exact W.done _ _ _ hst' fun h₂ tk₂ hk₂ => done h₂ tk₂ mc ys nw (X.but S hk₂) hI

/-- what an element's evaluation ends with -/
def LEnd (h₀ : Heap) (L : Addr) (m : PySem.Str → Option Value) (s : Shared) (all nw : List (Addr × Obj)) (J : List (Addr × Obj) → Prop) (s' : Shared) : Prop :=
  ∃ h' tk' tl, s' = { s with heap := h', toks := tk' } ∧ Fr h₀ L h' m ∧ News h₀ L h' (tl ++ all) ∧ (∀ p ∈ tl, ∀ q ∈ all, q.1 < p.1) ∧ J (tl ++ nw)

def Asg (prog : Program) (w : World) (A : Around) (target : PySem.Expr) (env : Env) (P : Nat → Value → Heap → Prop) (Tgt : Nat → Value → (PySem.Str → Option Value) → Prop) : Prop :=
  ∀ i v (s : Shared) (Q : Unit → Shared → Prop) (E : Value → Shared → Prop) (m : PySem.Str → Option Value), P i v s.heap → s.heap.Ns env.locals m →
    (∀ h' tk m₂, h'.Ns env.locals m₂ → Tgt i v m₂ → (∀ b o, b ≠ env.locals → s.heap.get? b = some o → h'.get? b = some o) → Q () { s with heap := h', toks := tk }) → wpAny (model prog w) A (assign target env v) Q E s

theorem after_assign {h h₂ : Heap} {mc m₂ : PySem.Str → Option Value} {ys : List Value} {nw : List (Addr × Obj)} (S : CSep h₀ L env.locals D fp wr fz) (X : CInv h₀ L m env.locals D wr fz h mc ys nw)
    (hn₂ : h₂.Ns env.locals m₂) (hk : ∀ b o, b ≠ env.locals → h.get? b = some o → h₂.get? b = some o) : CInv h₀ L m env.locals D wr fz h₂ m₂ ys nw where
  F := ⟨X.F.ns.at' fun o e => hk L o (Ne.symm S.CL) e, fun b o e => hk b o (fun q => by rw [q, S.C0] at e; cases e) (X.F.keep b o e), X.F.above⟩
  ns := hn₂
  d := hk D _ (Ne.symm S.CD) X.d
  N := fun p hp => ⟨hk _ _ (X.off p hp).1 (X.N p hp).1, (X.N p hp).2⟩
  z := fun p hp => ⟨hk _ _ (S.z p hp).1 (X.z p hp).1, (X.z p hp).2⟩
  off := X.off

theorem turn_ledger {h : Heap} {mc : PySem.Str → Option Value} {ys : List Value} {nw : List (Addr × Obj)} (S : CSep h₀ L env.locals D fp wr fz) (X : CInv h₀ L m env.locals D wr fz h mc ys nw) {oC : Obj} (eC : h.get? env.locals = some oC) :
    News h₀ L h ((ownOf h₀ fp h ++ fz) ++ (env.locals, oC) :: (D, lst ys) :: nw) := by
  refine ((news_ownOf S.Lf).append X.z).append fun p hp => ?_
  rcases List.mem_cons.mp hp with rfl | hp
  · exact ⟨eC, S.CL, S.C0⟩
  · rcases List.mem_cons.mp hp with rfl | hp
    · exact ⟨X.d, S.DL, S.D0⟩
    · exact X.N p hp

/-- from an element's end to the state with the item appended, or not -/
theorem end_keep {h h₄ : Heap} {mc : PySem.Str → Option Value} {ys : List Value} {nw tl : List (Addr × Obj)} {i : Nat} {oC : Obj} (W : KTurns prog w A target I fp wr n P Md St) (live : ∀ i h, St i h → ∀ b ∈ wr, ∃ o, h.get? b = some o)
    (S : CSep h₀ L env.locals D fp wr fz) (X : CInv h₀ L m env.locals D wr fz h mc ys nw) (hC : NsObj oC mc) (st : St (i + 1) h) (F₄ : Fr h₀ L h₄ m)
    (N₄ : News h₀ L h₄ (tl ++ ((ownOf h₀ fp h ++ fz) ++ (env.locals, oC) :: (D, lst ys) :: nw))) (lt : ∀ p ∈ tl, ∀ q ∈ ((ownOf h₀ fp h ++ fz) ++ (env.locals, oC) :: (D, lst ys) :: nw), q.1 < p.1) :
    St (i + 1) h₄ ∧ CInv h₀ L m env.locals D wr fz h₄ mc ys (tl ++ nw) := by
  have inC : (env.locals, oC) ∈ ((ownOf h₀ fp h ++ fz) ++ (env.locals, oC) :: (D, lst ys) :: nw) := List.mem_append_right _ List.mem_cons_self
  have inD : (D, lst ys) ∈ ((ownOf h₀ fp h ++ fz) ++ (env.locals, oC) :: (D, lst ys) :: nw) := List.mem_append_right _ (List.mem_cons_of_mem _ List.mem_cons_self)
  have inW : ∀ p, p ∈ nw → p ∈ ((ownOf h₀ fp h ++ fz) ++ (env.locals, oC) :: (D, lst ys) :: nw) := fun p hp => List.mem_append_right _ (List.mem_cons_of_mem _ (List.mem_cons_of_mem _ hp))
  have inO : ∀ p, p ∈ ownOf h₀ fp h → p ∈ ((ownOf h₀ fp h ++ fz) ++ (env.locals, oC) :: (D, lst ys) :: nw) := fun p hp => List.mem_append_left _ (List.mem_append_left _ hp)
  have inZ : ∀ p, p ∈ fz → p ∈ ((ownOf h₀ fp h ++ fz) ++ (env.locals, oC) :: (D, lst ys) :: nw) := fun p hp => List.mem_append_left _ (List.mem_append_right _ hp)
  refine ⟨W.frame _ _ _ st fun b hb o e => ?_, ?_⟩
  · cases hn : h₀.get? b with
    | some o₀ =>
      have : o₀ = o := by have q := X.F.keep b o₀ hn; rw [e] at q; exact (Option.some.inj q).symm
      exact this ▸ F₄.keep b o₀ hn
    | none => exact (N₄ _ (List.mem_append_right _ (inO _ (mem_ownOf hb hn e)))).1
  · refine ⟨F₄, hC.ns (N₄ _ (List.mem_append_right _ inC)).1, (N₄ _ (List.mem_append_right _ inD)).1, fun p hp => ?_, fun p hp => ?_, fun p hp => ?_⟩
    · rcases List.mem_append.mp hp with hp | hp
      · exact N₄ p (List.mem_append_left _ hp)
      · exact N₄ p (List.mem_append_right _ (inW p hp))
    · exact N₄ p (List.mem_append_right _ (inZ p hp))
    · rcases List.mem_append.mp hp with hp | hp
      · refine ⟨Nat.ne_of_gt (lt p hp _ inC), Nat.ne_of_gt (lt p hp _ inD), fun hm => ?_⟩
        obtain ⟨o, e⟩ := live _ _ st _ hm
        have := lt p hp _ (inO _ (mem_ownOf (S.wf _ hm) (S.w0 _ hm) e))
        exact Nat.lt_irrefl _ this
      · exact X.off p hp

theorem turn_elt {elt : PySem.Expr} (W : KTurns prog w A target I fp wr n P Md St) (live : ∀ i h, St i h → ∀ b ∈ wr, ∃ o, h.get? b = some o) (S : CSep h₀ L env.locals D fp wr fz)
    {J : List Value → List (Addr × Obj) → Prop} {i : Nat} {h : Heap} {tk : Nat} {mc : PySem.Str → Option Value} {ys : List Value} {nw : List (Addr × Obj)} {oC : Obj} {E' : Value → Shared → Prop} {s₃ : Shared}
    (hsz : ys.length ≤ sizeLine) (X : CInv h₀ L m env.locals D wr fz h mc ys nw) (hC : NsObj oC mc) (st : St (i + 1) h)
    (el : wpAny (model prog w) A (eval elt env) (fun y s₄ => LEnd h₀ L m { s with heap := h, toks := tk } ((ownOf h₀ fp h ++ fz) ++ (env.locals, oC) :: (D, lst ys) :: nw) nw (J (ys ++ [y])) s₄) E' s₃) :
    bodyE prog w A elt env (.ref D) (fun s₅ => ∃ h' tk' mc' ys' nw', s₅ = { s with heap := h', toks := tk' } ∧ St (i + 1) h' ∧ CInv h₀ L m env.locals D wr fz h' mc' ys' nw' ∧ J ys' nw') E' s₃ := by
  refine wpAny_mono el (fun y s₄ h₄ => ?_) fun _ _ e => e
  obtain ⟨h₄, tk₄, tl, rfl, F₄, N₄, lt, hJ⟩ := h₄
  obtain ⟨st₄, X₄⟩ := end_keep W live S X hC st F₄ N₄ lt
  refine append_at (hsz := by rw [List.size_toArray]; exact hsz) X₄.d fun h₅ hs₅ hD₅ => ?_
  refine ⟨h₅, tk₄, mc, ys ++ [y], tl ++ nw, rfl, W.frame _ _ _ st₄ fun b hb o e => hs₅.extBut b o (fun q => S.Df (q ▸ hb)) e, ?_, hJ⟩
  exact ⟨X₄.F.change hs₅ S.DL S.D0, X₄.ns.sameBut hs₅ S.CD, hD₅.trans (congrArg some (lst_snoc ys y)), fun p hp => ⟨hs₅.extBut _ _ (X₄.off p hp).2.1 (X₄.N p hp).1, (X₄.N p hp).2⟩,
    fun p hp => ⟨hs₅.extBut _ _ (S.z p hp).2.1 (X₄.z p hp).1, (X₄.z p hp).2⟩, X₄.off⟩
theorem turn_skip (W : KTurns prog w A target I fp wr n P Md St) (live : ∀ i h, St i h → ∀ b ∈ wr, ∃ o, h.get? b = some o) (S : CSep h₀ L env.locals D fp wr fz)
    {J : List Value → List (Addr × Obj) → Prop} {i : Nat} {h : Heap} {tk : Nat} {mc : PySem.Str → Option Value} {ys : List Value} {nw : List (Addr × Obj)} {oC : Obj} {s₃ : Shared}
    (X : CInv h₀ L m env.locals D wr fz h mc ys nw) (hC : NsObj oC mc) (st : St (i + 1) h)
    (el : LEnd h₀ L m { s with heap := h, toks := tk } ((ownOf h₀ fp h ++ fz) ++ (env.locals, oC) :: (D, lst ys) :: nw) nw (J ys) s₃) :
    ∃ h' tk' mc' ys' nw', s₃ = { s with heap := h', toks := tk' } ∧ St (i + 1) h' ∧ CInv h₀ L m env.locals D wr fz h' mc' ys' nw' ∧ J ys' nw' := by
  obtain ⟨h₄, tk₄, tl, rfl, F₄, N₄, lt, hJ⟩ := el
  obtain ⟨st₄, X₄⟩ := end_keep W live S X hC st F₄ N₄ lt
  exact ⟨h₄, tk₄, mc, ys, tl ++ nw, rfl, st₄, X₄, hJ⟩
end

end
section
open LCg
set_option maxRecDepth 100000
section
variable {prog : Program} {w : World} {A : Around} {E : Value → Shared → Prop} {s₂ : Shared} {h₀ : Heap} {L I : Addr} {m : PySem.Str → Option Value} {fp wr : List Addr} {env : Env}

/-- a comprehension's own frame and list are made; then its loop -/
theorem comp_run {elt target iter : PySem.Expr} {ifs : List PySem.Expr} {rest : List Comprehension} {scope : Scope} {cl : List (PySem.Str × Addr)} {pos : Pos} {St0 : Heap → Prop} {nw : List (Addr × Obj)} {RR : Value → Addr → Result → Shared → Prop}
    (self : ∀ (s : Shared) (Q : Value → Shared → Prop) (E : Value → Shared → Prop), St0 s.heap → Q (.ref I) s → wpAny (model prog w) A (pyIter (.ref I)) Q E s)
    (hcell : ∀ y ∈ scope.names, y.2 ≠ .cell) (hkind : scope.kind = .function)
    (F : Fr h₀ L s₂.heap m) (N : News h₀ L s₂.heap nw) (hst : ∀ h', (∀ b o, s₂.heap.get? b = some o → h'.get? b = some o) → St0 h')
    (hfp : ∀ b ∈ fp, b < s₂.heap.objs.size) (wf : ∀ b ∈ wr, b ∈ fp) (w0 : ∀ b ∈ wr, h₀.get? b = none) (Lf : L ∉ fp) (off : ∀ p ∈ nw, p.1 ∉ wr)
    (loop : ∀ C D h mc tk, CSep h₀ L C D fp wr [] → CInv h₀ L m C D wr [] h mc [] nw → St0 h → (∀ p ∈ nw, p.1 < D) → (∀ b ∈ fp, b < D) → D < C →
      codeAny (model prog w) A (.compLoop (.ListComp elt (⟨target, iter, ifs, 0⟩ :: rest) scope pos) 0 (.ref I) (.ref D) (compEnvC scope cl C env)) (RR (.ref D) C) { s₂ with heap := h, toks := tk }) :
    wpAny (model prog w) A (newList []) (fun acc s₃ => wpAny (model prog w) A (newFunctionEnv scope env.globals cl [] env.qual none .none (some env)) (fun cenv s₄ =>
      codeAny (model prog w) A (.compStart (.ListComp elt (⟨target, iter, ifs, 0⟩ :: rest) scope pos) 0 (.ref I) acc { cenv with scope := relabel scope env }) (RR acc cenv.locals) s₄) E s₃) E s₂ := by
  refine wpAny_newObj_type (wpAny_newFunctionEnv hcell (by intro y hy; simp at hy) (fun h₁ hns₁ hsb₁ => ?_) hkind)
  dsimp only at hns₁ hsb₁ ⊢
  generalize hH2 : s₂.heap.push { cls := .type "list", dict := none, data := .seq ([] : List Value).toArray } = H2 at hns₁ hsb₁ ⊢
  have hC : H2.objs.size = s₂.heap.objs.size + 1 := by rw [← hH2, Heap.size_push]
  have hDC : s₂.heap.objs.size ≠ H2.objs.size := by rw [hC]; exact Nat.ne_of_lt (Nat.lt_succ_self _)
  have below : ∀ b, b < s₂.heap.objs.size → b ≠ H2.objs.size ∧ b ≠ s₂.heap.objs.size := fun b hb => ⟨by rw [hC]; exact Nat.ne_of_lt (Nat.lt_succ_of_lt hb), Nat.ne_of_lt hb⟩
  have old : ∀ b o, s₂.heap.get? b = some o → h₁.get? b = some o := fun b o e => hsb₁.extBut b o (below b (Heap.lt_size e)).1 (Heap.get?_push_of_some _ (hH2 ▸ Heap.get?_push_of_some _ e))
  have hacc : h₁.get? s₂.heap.objs.size = some (lst []) := hsb₁.extBut _ _ hDC (Heap.get?_push_of_some _ (hH2 ▸ Heap.get?_push_size _ rfl))
  have fresh : ∀ a, s₂.heap.objs.size ≤ a → s₂.heap.get? a = none := fun a ha => by
    cases e : s₂.heap.get? a with
    | none => rfl
    | some o' => exact absurd (Heap.lt_size e) (Nat.not_lt.mpr ha)
  have fresh₀ : ∀ a, s₂.heap.objs.size ≤ a → h₀.get? a = none := fun a ha => by
    cases e : h₀.get? a with
    | none => rfl
    | some o' => have := F.keep a o' e; rw [fresh a ha] at this; cases this
  have hLlt : L < s₂.heap.objs.size := F.ns.lt
  have lt0 : ∀ p ∈ nw, p.1 < s₂.heap.objs.size := fun p hp => Heap.lt_size (N p hp).1
  have S : CSep h₀ L H2.objs.size s₂.heap.objs.size fp wr [] :=
    { C0 := fresh₀ _ (by rw [hC]; exact Nat.le_succ _), CL := Ne.symm (below L hLlt).1, D0 := fresh₀ _ (Nat.le_refl _), DL := Ne.symm (below L hLlt).2, CD := Ne.symm hDC,
      Cf := fun hm => absurd rfl (below _ (hfp _ hm)).1, Df := fun hm => absurd rfl (below _ (hfp _ hm)).2, wf := wf, w0 := w0, Lf := Lf, z := fun _ hp => nomatch hp }
  have X : CInv h₀ L m H2.objs.size s₂.heap.objs.size wr [] h₁ (fun x => ([] : List (PySem.Str × Value)).reverse.lookup x) [] nw :=
    { F := F.keeps old, ns := hns₁, d := hacc, N := N.grown old, z := (fun _ hp => nomatch hp), off := fun p hp => ⟨(below _ (lt0 p hp)).1, (below _ (lt0 p hp)).2, off p hp⟩ }
  have go := loop H2.objs.size s₂.heap.objs.size h₁ _ (s₂.toks + ([] : List (PySem.Str × Value)).length) S X (hst _ old) lt0 hfp (by rw [hC]; exact Nat.lt_succ_self _)
  exact codeAny_compStart_list go (self _ _ _ (hst _ old) go)

/-- the end of a comprehension that is handed on as a value -/
theorem comp_fin {Q : Value → Shared → Prop} {C D : Addr} {h : Heap} {tk : Nat} {mc : PySem.Str → Option Value} {ys : List Value} {nw : List (Addr × Obj)} (S : CSep h₀ L C D fp wr []) (X : CInv h₀ L m C D wr [] h mc ys nw)
    (fin : ∀ h', Fr h₀ L h' m → News h₀ L h' ((D, lst ys) :: nw) → Q (.ref D) { s₂ with heap := h', toks := tk }) :
    compPost (model prog w) A E none Q (.ref D) C (.ok .next) { s₂ with heap := h, toks := tk } := by
  refine ⟨mc, X.ns, fun h' hs' => fin h' (X.F.change hs' S.CL S.C0) fun p hp => ?_⟩
  rcases List.mem_cons.mp hp with rfl | hp
  · exact ⟨hs'.extBut _ _ (Ne.symm S.CD) X.d, S.DL, S.D0⟩
  · exact ⟨hs'.extBut _ _ (X.off p hp).1 (X.N p hp).1, (X.N p hp).2⟩
/-- the end of a comprehension whose list a name takes -/
theorem comp_finA {Q : Flow → Shared → Prop} {C D : Addr} {y : PySem.Str} {py : Pos} {h : Heap} {tk : Nat} {mc : PySem.Str → Option Value} {ys : List Value} {nw : List (Addr × Obj)} (hLe : env.locals = L) (S : CSep h₀ L C D fp wr []) (X : CInv h₀ L m C D wr [] h mc ys nw)
    (hy : env.kindOf y = some .local) (hp : (env.scope.kind == .class || (env.scope.kind == .module && env.locals != env.globals)) = false)
    (fin : ∀ h' tk', Fr h₀ L h' (fun z => if z = y then some (.ref D) else m z) → News h₀ L h' ((D, lst ys) :: nw) → Q .next { s₂ with heap := h', toks := tk' }) :
    compPost (model prog w) A E (some (assign (.Name y py) env)) (fun _ s' => Q .next s') (.ref D) C (.ok .next) { s₂ with heap := h, toks := tk } := by
  subst hLe
  show wpAny _ A (assign (.Name y py) env (.ref D)) _ _ _
  refine wpAny_assign_Name (wpAny_storeName_local hy X.F.ns (fun h₃ hn₃ hs₃ => ?_) hp)
  have hL₀ : h₀.get? env.locals = none := Heap.get?_none_of_le X.F.above
  have F₃ : Fr h₀ env.locals h₃ (fun z => if z = y then some (.ref D) else m z) := ⟨hn₃, fun b o e => hs₃.extBut b o (fun q => by rw [q, hL₀] at e; cases e) (X.F.keep b o e), X.F.above⟩
  refine ⟨mc, X.ns.sameBut hs₃ S.CL, fun h' hs' => fin h' _ (F₃.change hs' S.CL S.C0) fun p hp => ?_⟩
  have z : ∀ a o, a ≠ env.locals → a ≠ C → h.get? a = some o → h'.get? a = some o := fun a o h1 h2 e => hs'.extBut _ _ h2 (hs₃.extBut _ _ h1 e)
  rcases List.mem_cons.mp hp with rfl | hp
  · exact ⟨z _ _ S.DL (Ne.symm S.CD) X.d, S.DL, S.D0⟩
  · exact ⟨z _ _ (X.N p hp).2.1 (X.off p hp).1 (X.N p hp).1, (X.N p hp).2⟩
end

end
section
open LCg
set_option maxRecDepth 100000

structure Src (prog : Program) (w : World) (A : Around) (target : PySem.Expr) (h₀ : Heap) (L : Addr) (hp : Heap) (nw : List (Addr × Obj)) (I : Addr) (fp wr : List Addr) (n : Nat) (P Md : Nat → Value → Heap → Prop) (St : Nat → Heap → Prop) : Prop where
  W : KTurns prog w A target I fp wr n P Md St
  live : ∀ i h, St i h → ∀ b ∈ wr, ∃ o, h.get? b = some o
  self : ∀ (s : Shared) (Q : Value → Shared → Prop) (E : Value → Shared → Prop), St 0 s.heap → Q (.ref I) s → wpAny (model prog w) A (pyIter (.ref I)) Q E s
  st : ∀ h', (∀ b o, hp.get? b = some o → h'.get? b = some o) → St 0 h'
  fpl : ∀ b ∈ fp, b < hp.objs.size
  w0 : ∀ b ∈ wr, h₀.get? b = none
  Lf : L ∉ fp
  off : ∀ p ∈ nw, p.1 ∉ wr

/-- the name or names of a clause take an item -/
def AsgN (prog : Program) (w : World) (A : Around) (target : PySem.Expr) (env : Env) (h₀ : Heap) (L : Addr) (nw : List (Addr × Obj)) (n : Nat) (P : Nat → Value → Heap → Prop) (Tgt : Nat → Value → (PySem.Str → Option Value) → Prop) : Prop :=
  ∀ i v (s : Shared) (Q : Unit → Shared → Prop) (E : Value → Shared → Prop) (m : PySem.Str → Option Value), i < n → P i v s.heap → News h₀ L s.heap nw → s.heap.Ns env.locals m →
    (∀ h' tk m₂, h'.Ns env.locals m₂ → Tgt i v m₂ → (∀ b o, b ≠ env.locals → s.heap.get? b = some o → h'.get? b = some o) → Q () { s with heap := h', toks := tk }) → wpAny (model prog w) A (assign target env v) Q E s

def InvD (nw₀ : List (Addr × Obj)) (ds : Nat → List Dat) (i : Nat) (ys : List Value) (nw : List (Addr × Obj)) : Prop :=
  ∃ tl, nw = tl ++ nw₀ ∧ (∀ p ∈ tl, ∀ q ∈ nw₀, q.1 < p.1) ∧ DatAll nw ys (ds i)
theorem InvD.zero {nw₀ : List (Addr × Obj)} {ds : Nat → List Dat} (h : ds 0 = []) : InvD nw₀ ds 0 [] nw₀ := ⟨[], rfl, fun _ hp => (nomatch hp), by rw [h]; exact .nil⟩
theorem appMem {a b : List (Addr × Obj)} : ∀ p ∈ b, p ∈ a ++ b := fun _ hp => List.mem_append_right _ hp

section
variable {prog : Program} {w : World} {A : Around} {E : Value → Shared → Prop} {s₂ : Shared} {h₀ : Heap} {L I : Addr} {m : PySem.Str → Option Value} {fp wr : List Addr} {env : Env} {nw₀ : List (Addr × Obj)} {n : Nat}
  {P Md : Nat → Value → Heap → Prop} {St : Nat → Heap → Prop} {elt target iter ct : PySem.Expr} {scope : Scope} {cl : List (PySem.Str × Addr)} {pos : Pos} {RR : Value → Addr → Result → Shared → Prop} {Tgt : Nat → Value → (PySem.Str → Option Value) → Prop}

theorem dat_E (X : Src prog w A target h₀ L s₂.heap nw₀ I fp wr n P Md St) (hcell : ∀ y ∈ scope.names, y.2 ≠ .cell) (hkind : scope.kind = .function) (F : Fr h₀ L s₂.heap m) (N : News h₀ L s₂.heap nw₀) (sz : n ≤ sizeLine)
    (asg : ∀ C, AsgN prog w A target (compEnvC scope cl C env) h₀ L nw₀ n P Tgt) (f : Nat → Dat)
    (el : ∀ i v C D oC mc own h tk ys tl (E' : Value → Shared → Prop), i < n → Tgt i v mc → NsObj oC mc → Fr h₀ L h m → News h₀ L h (own ++ (C, oC) :: (D, lst ys) :: (tl ++ nw₀)) →
      wpAny (model prog w) A (eval elt (compEnvC scope cl C env)) (fun y s₄ => LEnd h₀ L m { s₂ with heap := h, toks := tk } (own ++ (C, oC) :: (D, lst ys) :: (tl ++ nw₀)) (tl ++ nw₀) (fun nw' => DatIn nw' y (f i)) s₄) E' { s₂ with heap := h, toks := tk })
    (fin : ∀ D C h tk mc ys tl, CSep h₀ L C D fp wr [] → CInv h₀ L m C D wr [] h mc ys (tl ++ nw₀) → (∀ p ∈ tl, ∀ q ∈ nw₀, q.1 < p.1) → (∀ q ∈ nw₀, q.1 < D) → DatAll (tl ++ nw₀) ys ((List.range n).map f) → RR (.ref D) C (.ok .next) { s₂ with heap := h, toks := tk }) :
    wpAny (model prog w) A (newList []) (fun acc s₃ => wpAny (model prog w) A (newFunctionEnv scope env.globals cl [] env.qual none .none (some env)) (fun cenv s₄ =>
      codeAny (model prog w) A (.compStart (.ListComp elt [⟨target, iter, [], 0⟩] scope pos) 0 (.ref I) acc { cenv with scope := relabel scope env }) (RR acc cenv.locals) s₄) E s₃) E s₂ := by
  refine comp_run (St0 := St 0) X.self hcell hkind F N X.st X.fpl X.W.sub X.w0 X.Lf X.off fun C D h mc tk S CI st0 lt0 lt1 lt2 => ?_
  refine level (env := compEnvC scope cl C env) (s := { s₂ with heap := h, toks := tk }) rule_one X.W S (InvD nw₀ fun i => (List.range i).map f) st0 CI (InvD.zero rfl) (fun P P' E s hP h => wpAny_mono h (fun _ _ h => wpAny_mono h (fun _ _ h => hP _ h) fun _ _ e => e) fun _ _ e => e) ?_ ?_
  · rintro i v h tk mc ys nw E' hi hP st CI ⟨tl, rfl, ho, hD⟩
    refine asg C i v _ _ _ _ hi hP (fun p hp => CI.N p (appMem p hp)) CI.ns fun h₂ tk₂ m₂ hn₂ ht hk => ?_
    have CI₂ := after_assign (env := compEnvC scope cl C env) S CI hn₂ hk
    have st₂ : St (i + 1) h₂ := X.W.frame _ _ _ st fun b hb o e => hk b o (fun q => S.Cf (by have q' : b = C := q; exact q' ▸ hb)) e
    obtain ⟨oC, eC, hC⟩ := ns_obj hn₂
    refine turn_elt (env := compEnvC scope cl C env) (tk := tk₂) X.W X.live S (J := InvD nw₀ (fun i => (List.range i).map f) (i + 1)) (i := i) ?_ CI₂ hC st₂ ?_
    · rw [hD.length, List.length_map, List.length_range]; omega
    · refine wpAny_mono (el i v C D oC m₂ _ h₂ tk₂ ys tl E' hi ht hC CI₂.F (turn_ledger (env := compEnvC scope cl C env) S CI₂ eC)) (fun y s₄ h₄ => ?_) fun _ _ e => e
      obtain ⟨h', tk', tl', e, F', N', lt, hJ⟩ := h₄
      refine ⟨h', tk', tl', e, F', N', lt, tl' ++ tl, by rw [List.append_assoc], fun p hp q hq => ?_, ?_⟩
      · rcases List.mem_append.mp hp with hp | hp
        · exact lt p hp q (List.mem_append_right _ (List.mem_cons_of_mem _ (List.mem_cons_of_mem _ (List.mem_append_right _ hq))))
        · exact ho p hp q hq
      · dsimp only
        rw [List.range_succ, List.map_append]
        exact (hD.mono appMem).append (DatAll.one hJ)
  · rintro h tk mc ys nw CI ⟨tl, rfl, ho, hD⟩
    exact fin D C h tk mc ys tl S CI ho lt0 hD

theorem dat_T (X : Src prog w A target h₀ L s₂.heap nw₀ I fp wr n P Md St) (hcell : ∀ y ∈ scope.names, y.2 ≠ .cell) (hkind : scope.kind = .function) (F : Fr h₀ L s₂.heap m) (N : News h₀ L s₂.heap nw₀) (sz : n ≤ sizeLine)
    (asg : ∀ C, AsgN prog w A target (compEnvC scope cl C env) h₀ L nw₀ n P Tgt) (f : Nat → Dat) (p : Nat → Bool)
    (el : ∀ i v C D oC mc own h tk ys tl (E' : Value → Shared → Prop), i < n → Tgt i v mc → NsObj oC mc → Fr h₀ L h m → News h₀ L h (own ++ (C, oC) :: (D, lst ys) :: (tl ++ nw₀)) →
      wpAny (model prog w) A (isTrue ct (compEnvC scope cl C env) (eval ct (compEnvC scope cl C env))) (fun ok s₃ => ok = p i ∧ if ok = true then
          wpAny (model prog w) A (eval elt (compEnvC scope cl C env)) (fun y s₄ => LEnd h₀ L m { s₂ with heap := h, toks := tk } (own ++ (C, oC) :: (D, lst ys) :: (tl ++ nw₀)) (tl ++ nw₀) (fun nw' => DatIn nw' y (f i)) s₄) E' s₃
        else LEnd h₀ L m { s₂ with heap := h, toks := tk } (own ++ (C, oC) :: (D, lst ys) :: (tl ++ nw₀)) (tl ++ nw₀) (fun _ => True) s₃) E' { s₂ with heap := h, toks := tk })
    (fin : ∀ D C h tk mc ys tl, CSep h₀ L C D fp wr [] → CInv h₀ L m C D wr [] h mc ys (tl ++ nw₀) → (∀ p ∈ tl, ∀ q ∈ nw₀, q.1 < p.1) → (∀ q ∈ nw₀, q.1 < D) → DatAll (tl ++ nw₀) ys (((List.range n).filter p).map f) → RR (.ref D) C (.ok .next) { s₂ with heap := h, toks := tk }) :
    wpAny (model prog w) A (newList []) (fun acc s₃ => wpAny (model prog w) A (newFunctionEnv scope env.globals cl [] env.qual none .none (some env)) (fun cenv s₄ =>
      codeAny (model prog w) A (.compStart (.ListComp elt [⟨target, iter, [ct], 0⟩] scope pos) 0 (.ref I) acc { cenv with scope := relabel scope env }) (RR acc cenv.locals) s₄) E s₃) E s₂ := by
  refine comp_run (St0 := St 0) X.self hcell hkind F N X.st X.fpl X.W.sub X.w0 X.Lf X.off fun C D h mc tk S CI st0 lt0 lt1 lt2 => ?_
  refine level (env := compEnvC scope cl C env) (s := { s₂ with heap := h, toks := tk }) rule_test X.W S (InvD nw₀ fun i => ((List.range i).filter p).map f) st0 CI (InvD.zero rfl)
    (fun P P' E s hP h => wpAny_mono h (fun ok s h => by
      cases ok with
      | true => simp only [if_true] at h ⊢; exact wpAny_mono h (fun _ _ h => wpAny_mono h (fun _ _ h => hP _ h) fun _ _ e => e) fun _ _ e => e
      | false => simp only [Bool.false_eq_true, if_false] at h ⊢; exact hP _ h) fun _ _ e => e) ?_ ?_
  · rintro i v h tk mc ys nw E' hi hP st CI ⟨tl, rfl, ho, hD⟩
    refine asg C i v _ _ _ _ hi hP (fun p hp => CI.N p (appMem p hp)) CI.ns fun h₂ tk₂ m₂ hn₂ ht hk => ?_
    have CI₂ := after_assign (env := compEnvC scope cl C env) S CI hn₂ hk
    have st₂ : St (i + 1) h₂ := X.W.frame _ _ _ st fun b hb o e => hk b o (fun q => S.Cf (by have q' : b = C := q; exact q' ▸ hb)) e
    obtain ⟨oC, eC, hC⟩ := ns_obj hn₂
    have TL := turn_ledger (env := compEnvC scope cl C env) S CI₂ eC
    refine wpAny_mono (el i v C D oC m₂ _ h₂ tk₂ ys tl E' hi ht hC CI₂.F TL) (fun ok s₃ h₃ => ?_) fun _ _ e => e
    obtain ⟨hok, h₃⟩ := h₃
    have hlen : ys.length ≤ i := by
      rw [hD.length, List.length_map]
      exact Nat.le_trans (List.length_filter_le _ _) (by rw [List.length_range]; exact Nat.le_refl _)
    cases ok with
    | true =>
      simp only [if_true] at h₃ ⊢
      refine turn_elt (env := compEnvC scope cl C env) (tk := tk₂) X.W X.live S (J := InvD nw₀ (fun i => ((List.range i).filter p).map f) (i + 1)) (i := i) (by omega) CI₂ hC st₂ ?_
      refine wpAny_mono h₃ (fun y s₄ h₄ => ?_) fun _ _ e => e
      obtain ⟨h', tk', tl', e, F', N', lt, hJ⟩ := h₄
      refine ⟨h', tk', tl', e, F', N', lt, tl' ++ tl, by rw [List.append_assoc], fun p hp q hq => ?_, ?_⟩
      · rcases List.mem_append.mp hp with hp | hp
        · exact lt p hp q (List.mem_append_right _ (List.mem_cons_of_mem _ (List.mem_cons_of_mem _ (List.mem_append_right _ hq))))
        · exact ho p hp q hq
      · dsimp only
        rw [List.range_succ, List.filter_append, List.map_append]
        refine (hD.mono appMem).append ?_
        have : [i].filter p = [i] := by simp [← hok]
        rw [this]
        exact DatAll.one hJ
    | false =>
      simp only [Bool.false_eq_true, if_false] at h₃ ⊢
      refine turn_skip (env := compEnvC scope cl C env) (tk := tk₂) X.W X.live S (J := InvD nw₀ (fun i => ((List.range i).filter p).map f) (i + 1)) (i := i) CI₂ hC st₂ ?_
      obtain ⟨h', tk', tl', e, F', N', lt, _⟩ := h₃
      refine ⟨h', tk', tl', e, F', N', lt, tl' ++ tl, by rw [List.append_assoc], fun p hp q hq => ?_, ?_⟩
      · rcases List.mem_append.mp hp with hp | hp
        · exact lt p hp q (List.mem_append_right _ (List.mem_cons_of_mem _ (List.mem_cons_of_mem _ (List.mem_append_right _ hq))))
        · exact ho p hp q hq
      · dsimp only
        rw [List.range_succ, List.filter_append]
        have : [i].filter p = [] := by simp [← hok]
        rw [this, List.append_nil]
        exact hD.mono appMem
  · rintro h tk mc ys nw CI ⟨tl, rfl, ho, hD⟩
    exact fin D C h tk mc ys tl S CI ho lt0 hD
end

end
section
open LCg
set_option maxRecDepth 100000
section
variable {prog : Program} {w : World} {A : Around} {E : Value → Shared → Prop} {s : Shared} {h₀ : Heap} {L : Addr} {m : PySem.Str → Option Value} {env : Env} {nw : List (Addr × Obj)}

theorem go_list {elts : List PySem.Expr} {k : Nat} {pos : Pos} {I l : Addr} {i : Nat} {v : Value} {Q : Unit → Shared → Prop} (hit : s.heap.IsListIter I l i) (hQ : Q () s) : wpAny (model prog w) A (letOwnedTupleGo (.Tuple elts k pos) (.ref I) v) Q E s := by
  cases v with
  | ref T => exact wpAny_letOwnedTupleGo_listiter hit hQ
  | _ => exact wpAny_pure hQ

/-- the iterable's value, on its way to the loop -/
def ItAt (prog : Program) (w : World) (A : Around) (E : Value → Shared → Prop) (K : Value → Shared → Prop) (x : Value) (s₁ : Shared) : Prop := wpAny (model prog w) A (pyIter x) K E s₁
/-- the iterator, on its way to the comprehension's own frame -/
def CompK (prog : Program) (w : World) (A : Around) (E : Value → Shared → Prop) (env : Env) (e : PySem.Expr) (scope : Scope) (cl : List (PySem.Str × Addr)) (RR : Value → Addr → Result → Shared → Prop) (it : Value) (s₂ : Shared) : Prop :=
  wpAny (model prog w) A (newList []) (fun acc s₃ => wpAny (model prog w) A (newFunctionEnv scope env.globals cl [] env.qual none .none (some env)) (fun cenv s₄ =>
      codeAny (model prog w) A (.compStart e 0 it acc { cenv with scope := relabel scope env }) (RR acc cenv.locals) s₄) E s₃) E s₂

theorem eval_comp {elt target iter : PySem.Expr} {ifs : List PySem.Expr} {gs : List Comprehension} {scope : Scope} {cl : List (PySem.Str × Addr)} {pos : Pos} {Q : Value → Shared → Prop}
    (hclos : closureFor scope env = pure cl) (hkind : scope.kind = .function) (hnames : ∀ x ∈ scope.names, x.2 = .local → scope.names.lookup x.1 = some .local)
    (h : wpAny (model prog w) A (eval iter env) (ItAt prog w A E (CompK prog w A E env (.ListComp elt (⟨target, iter, ifs, 0⟩ :: gs) scope pos) scope cl (compPost (model prog w) A E none Q))) E s)
    (hs : ∀ x, foldedSetIterable iter env x = pure x := by intro _; rfl) :
    wpAny (model prog w) A (eval (.ListComp elt (⟨target, iter, ifs, 0⟩ :: gs) scope pos) env) Q E s := by
  rw [eval_ListComp]
  exact wpAny_comprehension_free (use := none) rfl hs hclos hkind hnames h
theorem assign_comp {elt target iter : PySem.Expr} {ifs : List PySem.Expr} {gs : List Comprehension} {scope : Scope} {cl : List (PySem.Str × Addr)} {pos spos py : Pos} {y : PySem.Str} {Q : Flow → Shared → Prop}
    (hsw : swapsWith (.ListComp elt (⟨target, iter, ifs, 0⟩ :: gs) scope pos) (some (.Name y py)) spos.line env = pure true)
    (hclos : closureFor scope env = pure cl) (hkind : scope.kind = .function) (hnames : ∀ x ∈ scope.names, x.2 = .local → scope.names.lookup x.1 = some .local)
    (h : wpAny (model prog w) A (eval iter env) (ItAt prog w A E (CompK prog w A E env (.ListComp elt (⟨target, iter, ifs, 0⟩ :: gs) scope pos) scope cl (compPost (model prog w) A E (some (assign (.Name y py) env)) (fun _ s' => Q .next s')))) E s)
    (hs : ∀ x, foldedSetIterable iter env x = pure x := by intro _; rfl) :
    wpAny (model prog w) A (exec (.Assign [.Name y py] (.ListComp elt (⟨target, iter, ifs, 0⟩ :: gs) scope pos) spos) env) Q E s := by
  rw [exec_Assign_Name_used _ _ _ _ hsw]
  refine wpAny_bind (wpAny_standAt (wpAny_bind ?_))
  show wpAny _ A (do let _ ← comprehension (.ListComp elt (⟨target, iter, ifs, 0⟩ :: gs) scope pos) scope env _ (newList []) false (eval iter env) (some (assign (.Name y py) env))) _ _ s
  exact wpAny_bind (wpAny_mono (wpAny_comprehension_free (use := some (assign (.Name y py) env)) (Q := fun _ s' => Q .next s') rfl hs hclos hkind hnames h) (fun _ s' hq => wpAny_pure (wpAny_pure hq)) fun _ _ e => e)

/-- a list's iterator -/
theorem it_list {K : Value → Shared → Prop} {target : PySem.Expr} {ax : Addr} {vs : List Value} {k : Nat} (hh : A.handled = none) (F : Fr h₀ L s.heap m) (N : News h₀ L s.heap nw) (hm : (ax, listOf vs.toArray k) ∈ nw)
    (hgo : ∀ (I : Addr) (i : Nat) (v : Value) (s : Shared) (Q : Unit → Shared → Prop) (E : Value → Shared → Prop), s.heap.IsListIter I ax i → Q () s → wpAny (model prog w) A (letOwnedTupleGo target (.ref I) v) Q E s)
    (h : ∀ I h', Fr h₀ L h' m → News h₀ L h' nw → Src prog w A target h₀ L h' nw I [I, ax] [I] vs.length (fun i v _ => vs[i]? = some v) (fun i v h => vs[i]? = some v ∧ (h.IsListIter I ax (i + 1) ∧ h.IsList ax vs.toArray)) (fun i h => h.IsListIter I ax i ∧ h.IsList ax vs.toArray) → K (.ref I) { s with heap := h' }) :
    ItAt prog w A E K (.ref ax) s := by
  have hl : s.heap.IsList ax vs.toArray := N.isList hm
  have hlt : ax < s.heap.objs.size := Heap.lt_size (N _ hm).1
  have up : ∀ b o, s.heap.get? b = some o → (s.heap.push { cls := .type "list_iterator", data := .fields #[.ref ax, .int 0 0] }).get? b = some o := fun b o e => Heap.get?_push_of_some _ e
  refine wpAny_pyIter_list hl (h _ _ (F.keeps up) (N.grown up) ?_)
  have W := Walks.list (prog := prog) (w := w) hh s.heap.objs.size ax (Nat.ne_of_lt hlt) vs.toArray
  have e1 : vs.toArray.size = vs.length := by simp
  have e2 : ∀ (i : Nat) (v : Value), (vs.toArray[i]? = some v) = (vs[i]? = some v) := fun i v => by simp
  rw [e1] at W
  simp only [e2] at W
  exact { W := KTurns.ofWalks W (fun i v s Q E st hQ => hgo _ i v s Q E st.1 hQ)
          live := fun i h st b hb => by
            rw [List.mem_singleton.mp hb]
            obtain ⟨o, e, _⟩ := st.1
            exact ⟨o, e⟩
          self := fun s Q E st hQ => wpAny_pyIter_listiter st.1 hQ
          st := fun h' hk => ⟨⟨_, hk _ _ (Heap.get?_push_size _ rfl), rfl, rfl⟩, let ⟨o, e, r⟩ := hl; ⟨o, hk _ _ (up _ _ e), r⟩⟩
          fpl := fun b hb => by
            rw [Heap.size_push]
            rcases List.mem_cons.mp hb with rfl | hb
            · exact Nat.lt_succ_self _
            · rw [List.mem_singleton.mp hb]; exact Nat.lt_succ_of_lt hlt
          w0 := fun b hb => by rw [List.mem_singleton.mp hb]; exact next_is_new F
          Lf := fun hm' => by
            rcases List.mem_cons.mp hm' with e | hm'
            · exact absurd F.ns.lt (e ▸ Nat.lt_irrefl _)
            · exact (N _ hm).2.1 (List.mem_singleton.mp hm').symm
          off := fun p hp hI => absurd (Heap.lt_size (N p hp).1) ((List.mem_singleton.mp hI) ▸ Nat.lt_irrefl _) }

/-- a range's iterator -/
theorem it_range {K : Value → Shared → Prop} {x : PySem.Str} {px : Pos} {r : Addr} {a b c : Int} {t u v : Tok} {n : Nat} (hh : A.handled = none) (F : Fr h₀ L s.heap m) (N : News h₀ L s.heap nw) (hr : IsRange s.heap r a b c t u v)
    (hsmall : Builtin.Range.small a b c = true) (hsz : Builtin.Range.rangeSize a b c = (n : Int))
    (h : ∀ I h', Fr h₀ L h' m → News h₀ L h' nw → Src prog w A (.Name x px) h₀ L h' nw I [I] [I] n (fun i v _ => ∃ t, v = .int (a + i * c) t) (fun i v h => (∃ t, v = .int (a + i * c) t) ∧ IsRangeIter h I (a + ((i + 1 : Nat) : Nat) * c) ((n : Int) - ((i + 1 : Nat) : Nat)) c) (fun i h => IsRangeIter h I (a + (i : Nat) * c) ((n : Int) - (i : Nat)) c) → K (.ref I) { s with heap := h' }) :
    ItAt prog w A E K (.ref r) s := by
  have up : ∀ d o, s.heap.get? d = some o → (s.heap.push { cls := .type "range_iterator", data := .fields #[rawInt a, rawInt (Builtin.Range.rangeSize a b c), rawInt c] }).get? d = some o := fun d o e => Heap.get?_push_of_some _ e
  refine wpAny_pyIter_range hr hsmall (h _ _ (F.keeps up) (N.grown up) ?_)
  exact { W := KTurns.ofWalks (Walks.range hh _ a c n) (fun i v s Q E st hQ => wpAny_of_eq rfl hQ)
          live := fun i h st b hb => by
            rw [List.mem_singleton.mp hb]
            exact ⟨_, st⟩
          self := fun s Q E st hQ => wpAny_pyIter_rangeiter st hQ
          st := fun h' hk => hk _ _ (by rw [hsz]; simpa using Heap.get?_push_size _ rfl)
          fpl := fun b hb => by
            rw [Heap.size_push, List.mem_singleton.mp hb]
            exact Nat.lt_succ_self _
          w0 := fun b hb => by rw [List.mem_singleton.mp hb]; exact next_is_new F
          Lf := fun hm' => absurd F.ns.lt ((List.mem_singleton.mp hm') ▸ Nat.lt_irrefl _)
          off := fun p hp hI => absurd (Heap.lt_size (N p hp).1) ((List.mem_singleton.mp hI) ▸ Nat.lt_irrefl _) }
end

end
section
open LCg
set_option maxRecDepth 100000

/-- a def's contract: what it makes lies ahead of the ledger and above it -/
def Con (prog : Program) (w : World) (K : Frag) (p : Program) (loose : List PySem.Str) (mean : ExcName → Option Value) (mg mb : PySem.Str → Option Value) (f : Addr) (dep : Nat)
    (Pre : List (Addr × Obj) → List Value → Prop) (Out : List (Addr × Obj) → Value → Prop) : Prop :=
  ∀ (dp un : Nat) (gd : Option (List Code)) (cn : PySem.Str) (cs : Scope) (a : Addr) (ccd : Value) (cl : List (PySem.Str × Addr)) (outer : List Env) (A₀ : Around) (base h₀ : Heap) (L : Addr) (m : PySem.Str → Option Value) (news : List (Addr × Obj)) (s : Shared) (vs : List Value)
    (Q E : Value → Shared → Prop),
    Below A₀ base outer h₀ → Fr h₀ L s.heap m → K.In h₀ → News h₀ L s.heap news → Top p loose mean mg mb h₀ → cs.kind = .function → Pre news vs → dp + dep < recursionLimit → un + 8 * dep + 100 < cLine →
    (∀ r tl h' tk', Fr h₀ L h' m → News h₀ L h' (tl ++ news) → (∀ p ∈ tl, ∀ q ∈ news, q.1 < p.1) → Out (tl ++ news) r → Q r { s with heap := h', toks := tk' }) →
    wpAny (model prog w) (ktrTop dp un gd cn cs L a ccd cl outer) (call (.ref f) vs) Q E s

section
variable {prog : Program} {w : World} {A : Around} {E : Value → Shared → Prop} {s : Shared} {h₀ : Heap} {L : Addr} {m : PySem.Str → Option Value} {env : Env} {nw : List (Addr × Obj)}

structure EnumAt (h : Heap) (e l : Addr) (vs : List Value) (L : Addr) (h₀ : Heap) (nw : List (Addr × Obj)) : Prop where
  ex : ∃ it, IsEnum h e it 0 .none ∧ h.IsListIter it l 0 ∧ h.IsList l vs.toArray ∧ e ≠ it ∧ l ≠ e ∧ l ≠ it ∧ e ≠ L ∧ it ≠ L ∧ l ≠ L ∧ h₀.get? e = none ∧ h₀.get? it = none ∧ ∀ p ∈ nw, p.1 ≠ e ∧ p.1 ≠ it
theorem enum_call {l : Addr} {vs : List Value} {k : Nat} {Q : Value → Shared → Prop} (F : Fr h₀ L s.heap m) (N : News h₀ L s.heap nw) (hm : (l, listOf vs.toArray k) ∈ nw)
    (h : ∀ e h', Fr h₀ L h' m → News h₀ L h' nw → EnumAt h' e l vs L h₀ nw → Q (.ref e) { s with heap := h' }) :
    wpAny (model prog w) A (call (.type "enumerate") [.ref l]) Q E s := by
  have hl : s.heap.IsList l vs.toArray := N.isList hm
  have hlt : l < s.heap.objs.size := Heap.lt_size (N _ hm).1
  have hn : ∀ b, s.heap.objs.size ≤ b → h₀.get? b = none := fun b hb => by
    cases e : h₀.get? b with
    | none => rfl
    | some o => exact absurd (Heap.lt_size (F.keep b o e)) (Nat.not_lt.mpr hb)
  refine call_enumerate_list hl fun h' hE hI hz hk => h _ h' (F.keeps hk) (N.grown hk) ⟨s.heap.objs.size, hE, hI, let ⟨o, e, r⟩ := hl; ⟨o, hk _ _ e, r⟩, Nat.succ_ne_self _, Nat.ne_of_lt (Nat.lt_succ_of_lt hlt), Nat.ne_of_lt hlt,
    Nat.ne_of_gt (Nat.lt_succ_of_lt F.ns.lt), Nat.ne_of_gt F.ns.lt, (N _ hm).2.1, hn _ (Nat.le_succ _), hn _ (Nat.le_refl _), fun p hp => ⟨Nat.ne_of_lt (Nat.lt_succ_of_lt (Heap.lt_size (N p hp).1)), Nat.ne_of_lt (Heap.lt_size (N p hp).1)⟩⟩
/-- enumerate(list)'s iterator -/
theorem it_enum {K : Value → Shared → Prop} {elts : List PySem.Expr} {kk : Nat} {pos : Pos} {e l : Addr} {vs : List Value} (hh : A.handled = none) (F : Fr h₀ L s.heap m) (N : News h₀ L s.heap nw) (X : EnumAt s.heap e l vs L h₀ nw)
    (h : ∀ (I : Addr) (fp wr : List Addr) (Md : Nat → Value → Heap → Prop) (St : Nat → Heap → Prop), Src prog w A (.Tuple elts kk pos) h₀ L s.heap nw I fp wr vs.length (fun i v h => ∃ T vals, v = .ref T ∧ (∃ t x, vs[i]? = some x ∧ vals = #[.int i t, x]) ∧ h.IsTuple T vals) Md St → K (.ref I) s) :
    ItAt prog w A E K (.ref e) s := by
  obtain ⟨it, hE, hI, hl, a1, a2, a3, a4, a5, a6, a7, a8, a9⟩ := X.ex
  refine wpAny_pyIter_enum hE ?_
  have W := (WalksT.enumerate (prog := prog) (w := w) hh e it l a1 a2 a3 vs.toArray).toU
  have e1 : vs.toArray.size = vs.length := by simp
  have e2 : ∀ (i : Nat) (v : Value), (vs.toArray[i]? = some v) = (vs[i]? = some v) := fun i v => by simp
  rw [e1] at W
  simp only [e2] at W
  refine h e [e, it, l] [e, it] _ _
        { W := KTurns.ofWalksU W
          live := fun i h st b hb => by
            obtain ⟨⟨old, he⟩, ⟨o, ho, _⟩, _⟩ := st
            rcases List.mem_cons.mp hb with rfl | hb
            · exact ⟨_, he⟩
            · rw [List.mem_singleton.mp hb]; exact ⟨o, ho⟩
          self := fun s Q E st hQ => by
            obtain ⟨⟨old, he⟩, _⟩ := st
            exact wpAny_pyIter_enum he hQ
          st := fun h' hk => ⟨⟨.none, hk _ _ hE⟩, let ⟨o, e, r⟩ := hI; ⟨o, hk _ _ e, r⟩, let ⟨o, e, r⟩ := hl; ⟨o, hk _ _ e, r⟩⟩
          fpl := fun b hb => by
            rcases List.mem_cons.mp hb with rfl | hb
            · exact Heap.lt_size hE
            · rcases List.mem_cons.mp hb with rfl | hb
              · obtain ⟨o, ho, _⟩ := hI; exact Heap.lt_size ho
              · rw [List.mem_singleton.mp hb]; obtain ⟨o, ho, _⟩ := hl; exact Heap.lt_size ho
          w0 := fun b hb => by
            rcases List.mem_cons.mp hb with rfl | hb
            · exact a7
            · rw [List.mem_singleton.mp hb]; exact a8
          Lf := fun hm => by
            rcases List.mem_cons.mp hm with e | hm
            · exact a4 e.symm
            · rcases List.mem_cons.mp hm with e | hm
              · exact a5 e.symm
              · exact a6 (List.mem_singleton.mp hm).symm
          off := fun p hp hI => by
            rcases List.mem_cons.mp hI with e | hI
            · exact (a9 p hp).1 e
            · exact (a9 p hp).2 (List.mem_singleton.mp hI) }
/-- two names take an enumerated item -/
theorem asg_enum {a b : PySem.Str} {pa pb tp : Pos} {kk n : Nat} {vs : List Value} (hh : A.handled = none) (hab : ¬ a = b) (ha : env.kindOf a = some .local) (hb : env.kindOf b = some .local) (hp : (env.scope.kind == .class || (env.scope.kind == .module && env.locals != env.globals)) = false) :
    AsgN prog w A (.Tuple [.Name a pa, .Name b pb] kk tp) env h₀ L nw n (fun i v h => ∃ T vals, v = .ref T ∧ (∃ t x, vs[i]? = some x ∧ vals = #[.int i t, x]) ∧ h.IsTuple T vals)
      (fun i _ mc => ∃ t x, vs[i]? = some x ∧ mc a = some (.int i t) ∧ mc b = some x) := by
  rintro i v s Q E m hi ⟨T, vals, rfl, ⟨t, x, hx, rfl⟩, hT⟩ N hn k
  exact kcp_assign hh hT ha hb hp hn fun h' tk hn' hk => k h' tk _ hn' ⟨t, x, hx, by simp [hab], by simp⟩ hk
/-- a name takes an item -/
theorem asg_name {x : PySem.Str} {px : Pos} {n : Nat} {P : Nat → Value → Heap → Prop} {R : Nat → Value → Prop} (hR : ∀ i v h, P i v h → R i v) (hx : env.kindOf x = some .local) (hp : (env.scope.kind == .class || (env.scope.kind == .module && env.locals != env.globals)) = false) :
    AsgN prog w A (.Name x px) env h₀ L nw n P (fun i v mc => R i v ∧ mc x = some v) := by
  rintro i v s Q E m hi hP N hn k
  refine wpAny_assign_Name (wpAny_storeName_local hx hn (fun h' hn' hs' => k h' _ _ hn' ⟨hR _ _ _ hP, by simp⟩ fun b o hb e => hs'.extBut b o hb e) hp)
end
theorem datAll_take {news : List (Addr × Obj)} {vs : List Value} {ds : List Dat} (h : DatAll news vs ds) (k : Nat) : DatAll news (vs.take k) (ds.take k) := by
  induction vs generalizing ds k with
  | nil => cases h; simp; exact .nil
  | cons v vs ih =>
    cases h with
    | cons h r =>
      cases k with
      | zero => simp; exact .nil
      | succ k => rw [List.take_succ_cons, List.take_succ_cons]; exact .cons h (ih r k)
theorem datAll_at {news : List (Addr × Obj)} {vs : List Value} {ds : List Dat} (h : DatAll news vs ds) {i : Nat} {v : Value} (hv : vs[i]? = some v) : DatIn news v (ds.getD i .none) := by
  have hi : i < ds.length := by
    have := (List.getElem?_eq_some_iff.mp hv).1
    rw [h.length] at this
    exact this
  obtain ⟨u, hu, hd⟩ := h.get hi
  rw [hv] at hu
  obtain rfl := Option.some.inj hu
  rw [List.getD_eq_getElem?_getD, List.getElem?_eq_getElem hi]
  exact hd

end
section
open LCg
set_option maxRecDepth 100000
section
variable {prog : Program} {w : World} {A : Around} {E : Value → Shared → Prop} {s : Shared} {h₀ : Heap} {L : Addr} {m : PySem.Str → Option Value} {env : Env} {nw : List (Addr × Obj)}
  {elt iter ct : PySem.Expr} {scope : Scope} {cl : List (PySem.Str × Addr)} {pos : Pos} {RR : Value → Addr → Result → Shared → Prop}

/-- an element's evaluation, in its frame -/
def ElE (prog : Program) (w : World) (A : Around) (h₀ : Heap) (L : Addr) (m : PySem.Str → Option Value) (elt : PySem.Expr) (scope : Scope) (cl : List (PySem.Str × Addr)) (env : Env) (nw : List (Addr × Obj)) (s : Shared) (Tgt : (PySem.Str → Option Value) → Prop) (d : Dat) : Prop :=
  ∀ C D oC mc own h tk ys tl (E' : Value → Shared → Prop), Tgt mc → NsObj oC mc → Fr h₀ L h m → News h₀ L h (own ++ (C, oC) :: (D, lst ys) :: (tl ++ nw)) →
    wpAny (model prog w) A (eval elt (compEnvC scope cl C env)) (fun y s₄ => LEnd h₀ L m { s with heap := h, toks := tk } (own ++ (C, oC) :: (D, lst ys) :: (tl ++ nw)) (tl ++ nw) (fun nw' => DatIn nw' y d) s₄) E' { s with heap := h, toks := tk }
def ElT (prog : Program) (w : World) (A : Around) (h₀ : Heap) (L : Addr) (m : PySem.Str → Option Value) (ct elt : PySem.Expr) (scope : Scope) (cl : List (PySem.Str × Addr)) (env : Env) (nw : List (Addr × Obj)) (s : Shared) (Tgt : (PySem.Str → Option Value) → Prop) (d : Dat) (p : Bool) : Prop :=
  ∀ C D oC mc own h tk ys tl (E' : Value → Shared → Prop), Tgt mc → NsObj oC mc → Fr h₀ L h m → News h₀ L h (own ++ (C, oC) :: (D, lst ys) :: (tl ++ nw)) →
    wpAny (model prog w) A (isTrue ct (compEnvC scope cl C env) (eval ct (compEnvC scope cl C env))) (fun ok s₃ => ok = p ∧ if ok = true then
          wpAny (model prog w) A (eval elt (compEnvC scope cl C env)) (fun y s₄ => LEnd h₀ L m { s with heap := h, toks := tk } (own ++ (C, oC) :: (D, lst ys) :: (tl ++ nw)) (tl ++ nw) (fun nw' => DatIn nw' y d) s₄) E' s₃
        else LEnd h₀ L m { s with heap := h, toks := tk } (own ++ (C, oC) :: (D, lst ys) :: (tl ++ nw)) (tl ++ nw) (fun _ => True) s₃) E' { s with heap := h, toks := tk }
/-- the list is made: at the loop's end -/
def FinL (h₀ : Heap) (L : Addr) (m : PySem.Str → Option Value) (nw : List (Addr × Obj)) (s : Shared) (RR : Value → Addr → Result → Shared → Prop) (ds : List Dat) : Prop :=
  ∀ fp wr D C h tk mc ys tl, CSep h₀ L C D fp wr [] → CInv h₀ L m C D wr [] h mc ys (tl ++ nw) → (∀ p ∈ tl, ∀ q ∈ nw, q.1 < p.1) → (∀ q ∈ nw, q.1 < D) → DatAll (tl ++ nw) ys ds → RR (.ref D) C (.ok .next) { s with heap := h, toks := tk }

theorem finL {Q : Value → Shared → Prop} {ds : List Dat}
    (h : ∀ v h' tk tl, Fr h₀ L h' m → News h₀ L h' (tl ++ nw) → (∀ p ∈ tl, ∀ q ∈ nw, q.1 < p.1) → (∃ a its k, v = .ref a ∧ (a, listOf (List.toArray its) k) ∈ tl ++ nw ∧ DatAll (tl ++ nw) its ds) → Q v { s with heap := h', toks := tk }) :
    FinL h₀ L m nw s (compPost (model prog w) A E none Q) ds := by
  intro fp wr D C hh tk mc ys tl S X ho hD hd
  refine comp_fin S X fun h' F' N' => h _ h' tk ((D, lst ys) :: tl) F' N' (fun p hp q hq => ?_) ⟨D, ys, _, rfl, List.mem_cons_self, hd.mono fun p hp => List.mem_cons_of_mem _ hp⟩
  rcases List.mem_cons.mp hp with rfl | hp
  · exact hD q hq
  · exact ho p hp q hq
theorem finLA {Q : Flow → Shared → Prop} {ds : List Dat} {y : PySem.Str} {py : Pos} (hLe : env.locals = L) (hy : env.kindOf y = some .local) (hp : (env.scope.kind == .class || (env.scope.kind == .module && env.locals != env.globals)) = false)
    (h : ∀ v h' tk tl, Fr h₀ L h' (fun z => if z = y then some v else m z) → News h₀ L h' (tl ++ nw) → (∀ p ∈ tl, ∀ q ∈ nw, q.1 < p.1) → (∃ a its k, v = .ref a ∧ (a, listOf (List.toArray its) k) ∈ tl ++ nw ∧ DatAll (tl ++ nw) its ds) → Q .next { s with heap := h', toks := tk }) :
    FinL h₀ L m nw s (compPost (model prog w) A E (some (assign (.Name y py) env)) (fun _ s' => Q .next s')) ds := by
  intro fp wr D C hh tk mc ys tl S X ho hD hd
  refine comp_finA hLe S X hy hp fun h' tk' F' N' => h _ h' tk' ((D, lst ys) :: tl) F' N' (fun p hp q hq => ?_) ⟨D, ys, _, rfl, List.mem_cons_self, hd.mono fun p hp => List.mem_cons_of_mem _ hp⟩
  rcases List.mem_cons.mp hp with rfl | hp
  · exact hD q hq
  · exact ho p hp q hq

theorem enum_T {a b : PySem.Str} {pa pb tp : Pos} {kk : Nat} {e l : Addr} {vs : List Value} (hh : A.handled = none) (F : Fr h₀ L s.heap m) (N : News h₀ L s.heap nw) (X : EnumAt s.heap e l vs L h₀ nw) (hcell : ∀ y ∈ scope.names, y.2 ≠ .cell) (hkind : scope.kind = .function)
    (hab : ¬ a = b) (ha : scope.names.lookup a = some .local) (hb : scope.names.lookup b = some .local) (sz : vs.length ≤ sizeLine) (f : Nat → Dat) (p : Nat → Bool)
    (el : ∀ i t x, vs[i]? = some x → ElT prog w A h₀ L m ct elt scope cl env nw s (fun mc => mc a = some (.int (i : Nat) t) ∧ mc b = some x) (f i) (p i))
    (fin : FinL h₀ L m nw s RR (((List.range vs.length).filter p).map f)) :
    ItAt prog w A E (CompK prog w A E env (.ListComp elt [⟨.Tuple [.Name a pa, .Name b pb] kk tp, iter, [ct], 0⟩] scope pos) scope cl RR) (.ref e) s := by
  refine it_enum (elts := [.Name a pa, .Name b pb]) (kk := kk) (pos := tp) hh F N X (fun I fp wr Md St X1 => ?_)
  refine dat_T X1 hcell hkind F N sz (fun C => asg_enum hh hab (lookup_relabel_local ha) (lookup_relabel_local hb) (by simp [compEnvC, relabel, hkind])) f p ?_ ?_
  · rintro i v C D oC mc own h tk ys tl E' hi ⟨t, x, hx, h1, h2⟩ hC F2 N2
    exact el i t x hx C D oC mc own h tk ys tl E' ⟨h1, h2⟩ hC F2 N2
  · intro D C h tk mc ys tl S CI ho hD hd
    exact fin _ _ D C h tk mc ys tl S CI ho hD hd

theorem list_E {x : PySem.Str} {px : Pos} {ax : Addr} {vs : List Value} {k : Nat} (hh : A.handled = none) (F : Fr h₀ L s.heap m) (N : News h₀ L s.heap nw) (hm : (ax, listOf vs.toArray k) ∈ nw) (hcell : ∀ y ∈ scope.names, y.2 ≠ .cell) (hkind : scope.kind = .function)
    (hx : scope.names.lookup x = some .local) (sz : vs.length ≤ sizeLine) (f : Nat → Dat)
    (el : ∀ i v h', vs[i]? = some v → ElE prog w A h₀ L m elt scope cl env nw { s with heap := h' } (fun mc => mc x = some v) (f i))
    (fin : ∀ h', FinL h₀ L m nw { s with heap := h' } RR ((List.range vs.length).map f)) :
    ItAt prog w A E (CompK prog w A E env (.ListComp elt [⟨.Name x px, iter, [], 0⟩] scope pos) scope cl RR) (.ref ax) s := by
  refine it_list (target := .Name x px) hh F N hm (fun _ _ _ s Q E _ h => wpAny_of_eq rfl h) (fun I h' F' N' X1 => ?_)
  refine dat_E (s₂ := { s with heap := h' }) X1 hcell hkind F' N' sz (fun C => asg_name (R := fun i v => vs[i]? = some v) (fun i v h hp => hp) (lookup_relabel_local hx) (by simp [compEnvC, relabel, hkind])) f ?_ ?_
  · rintro i v C D oC mc own h tk ys tl E' hi ⟨hv, h1⟩ hC F2 N2
    exact el i v h' hv C D oC mc own h tk ys tl E' h1 hC F2 N2
  · intro D C h tk mc ys tl S CI ho hD hd
    exact fin h' _ _ D C h tk mc ys tl S CI ho hD hd
theorem list_T {x : PySem.Str} {px : Pos} {ax : Addr} {vs : List Value} {k : Nat} (hh : A.handled = none) (F : Fr h₀ L s.heap m) (N : News h₀ L s.heap nw) (hm : (ax, listOf vs.toArray k) ∈ nw) (hcell : ∀ y ∈ scope.names, y.2 ≠ .cell) (hkind : scope.kind = .function)
    (hx : scope.names.lookup x = some .local) (sz : vs.length ≤ sizeLine) (f : Nat → Dat) (p : Nat → Bool)
    (el : ∀ i v h', vs[i]? = some v → ElT prog w A h₀ L m ct elt scope cl env nw { s with heap := h' } (fun mc => mc x = some v) (f i) (p i))
    (fin : ∀ h', FinL h₀ L m nw { s with heap := h' } RR (((List.range vs.length).filter p).map f)) :
    ItAt prog w A E (CompK prog w A E env (.ListComp elt [⟨.Name x px, iter, [ct], 0⟩] scope pos) scope cl RR) (.ref ax) s := by
  refine it_list (target := .Name x px) hh F N hm (fun _ _ _ s Q E _ h => wpAny_of_eq rfl h) (fun I h' F' N' X1 => ?_)
  refine dat_T (s₂ := { s with heap := h' }) X1 hcell hkind F' N' sz (fun C => asg_name (R := fun i v => vs[i]? = some v) (fun i v h hp => hp) (lookup_relabel_local hx) (by simp [compEnvC, relabel, hkind])) f p ?_ ?_
  · rintro i v C D oC mc own h tk ys tl E' hi ⟨hv, h1⟩ hC F2 N2
    exact el i v h' hv C D oC mc own h tk ys tl E' h1 hC F2 N2
  · intro D C h tk mc ys tl S CI ho hD hd
    exact fin h' _ _ D C h tk mc ys tl S CI ho hD hd

/-- two names take a pair of the ledger's -/
theorem asg_pair {a b : PySem.Str} {pa pb tp : Pos} {kk n : Nat} {vs : List Value} {xy : Nat → Value × Value} (hh : A.handled = none) (hab : ¬ a = b) (ha : env.kindOf a = some .local) (hb : env.kindOf b = some .local) (hp : (env.scope.kind == .class || (env.scope.kind == .module && env.locals != env.globals)) = false)
    (ht : ∀ i v, vs[i]? = some v → ∃ T k, v = .ref T ∧ (T, ({ cls := .type "tuple", data := .seq #[(xy i).1, (xy i).2] k } : Obj)) ∈ nw) :
    AsgN prog w A (.Tuple [.Name a pa, .Name b pb] kk tp) env h₀ L nw n (fun i v _ => vs[i]? = some v) (fun i v mc => vs[i]? = some v ∧ mc a = some (xy i).1 ∧ mc b = some (xy i).2) := by
  rintro i v s Q E m hi hv N hn k
  obtain ⟨T, kk', rfl, hm⟩ := ht i v hv
  exact kcp_assign hh ⟨_, (N _ hm).1, rfl, _, rfl⟩ ha hb hp hn fun h' tk hn' hk => k h' tk _ hn' ⟨hv, by simp [hab], by simp⟩ hk
theorem pairs_E {a b : PySem.Str} {pa pb tp : Pos} {kk : Nat} {ax : Addr} {vs : List Value} {k : Nat} {xy : Nat → Value × Value} (hh : A.handled = none) (F : Fr h₀ L s.heap m) (N : News h₀ L s.heap nw) (hm : (ax, listOf vs.toArray k) ∈ nw) (hcell : ∀ y ∈ scope.names, y.2 ≠ .cell) (hkind : scope.kind = .function)
    (hab : ¬ a = b) (ha : scope.names.lookup a = some .local) (hb : scope.names.lookup b = some .local) (sz : vs.length ≤ sizeLine)
    (ht : ∀ i v, vs[i]? = some v → ∃ T k, v = .ref T ∧ (T, ({ cls := .type "tuple", data := .seq #[(xy i).1, (xy i).2] k } : Obj)) ∈ nw) (f : Nat → Dat)
    (el : ∀ i h', i < vs.length → ElE prog w A h₀ L m elt scope cl env nw { s with heap := h' } (fun mc => mc a = some (xy i).1 ∧ mc b = some (xy i).2) (f i))
    (fin : ∀ h', FinL h₀ L m nw { s with heap := h' } RR ((List.range vs.length).map f)) :
    ItAt prog w A E (CompK prog w A E env (.ListComp elt [⟨.Tuple [.Name a pa, .Name b pb] kk tp, iter, [], 0⟩] scope pos) scope cl RR) (.ref ax) s := by
  refine it_list (target := .Tuple [.Name a pa, .Name b pb] kk tp) hh F N hm (fun _ _ _ s Q E hit h => go_list hit h) (fun I h' F' N' X1 => ?_)
  refine dat_E (s₂ := { s with heap := h' }) X1 hcell hkind F' N' sz (fun C => asg_pair (xy := xy) hh hab (lookup_relabel_local ha) (lookup_relabel_local hb) (by simp [compEnvC, relabel, hkind]) ht) f ?_ ?_
  · rintro i v C D oC mc own h tk ys tl E' hi ⟨hv, h1, h2⟩ hC F2 N2
    exact el i h' hi C D oC mc own h tk ys tl E' ⟨h1, h2⟩ hC F2 N2
  · intro D C h tk mc ys tl S CI ho hD hd
    exact fin h' _ _ D C h tk mc ys tl S CI ho hD hd
end

end
section
set_option maxRecDepth 100000
section
variable {prog : Program} {w : World} {A : Around} {E : Value → Shared → Prop} {s : Shared}

/-- items of a list go into a set, one by one -/
theorem set_fill {R : Result → Shared → Prop} (hh : A.handled = none) (S I l : Addr) (hSI : S ≠ I) (hSl : S ≠ l) (hlI : l ≠ I) (items : Array Value) (ys : List PySem.Str) (hy : ∀ (i : Nat) (v : Value), items[i]? = some v → ∃ t, v = Value.str (ys.getD i PySem.Str.empty) t) (hn : items.size = ys.length) (hb : items.size + 1 < scanBound) :
    ∀ (k i : Nat) (s : Shared), items.size - i = k → i ≤ items.size → s.heap.IsListIter I l i → s.heap.IsList l items → (∃ n, n ≤ i ∧ s.heap.SetOf (PySem.strKind prog w) S (fun x => decide (x ∈ ys.take i)) n) →
      (∀ h' tk, (∃ n, h'.SetOf (PySem.strKind prog w) S (fun x => decide (x ∈ ys)) n) → (∀ b o, b ≠ S → b ≠ I → s.heap.get? b = some o → h'.get? b = some o) → R (.ok (.ret .none)) { s with heap := h', toks := tk }) →
      codeAny (model prog w) A (.builtin "set.update.loop" ⟨[.ref S, .ref I], []⟩) R s := by
  intro k
  induction k with
  | zero =>
    intro i s hk hi hit hl ⟨n, hni, hS⟩ hR
    have hin : i = items.size := by omega
    subst hin
    refine codeAny_builtin PyProof.Rows.F.entry_set_update_loop ?_
    rw [Around.under_plainId PyProof.Rows.F.plain_set_update_loop _]
    show wpAny _ A.in1 (pyNext (.ref I) >>= _) _ _ s
    refine wpAny_bind (wpAny_pyNext_list_end hh hit hl (by simp) fun h' he' => ?_)
    show wpAny _ A.in1 (ret Value.none) _ _ _
    rw [hn, List.take_length] at hS
    exact wpAny_pure (hR h' s.toks ⟨n, by
      obtain ⟨o, es, ep, tb, ho, rest⟩ := hS
      exact ⟨o, es, ep, tb, he' S _ hSI ho, rest⟩⟩ fun b o _ hb e => he' b o hb e)
  | succ k ih =>
    intro i s hk hi hit hl ⟨n, hni, hS⟩ hR
    have hlt : i < items.size := by omega
    refine codeAny_builtin PyProof.Rows.F.entry_set_update_loop ?_
    rw [Around.under_plainId PyProof.Rows.F.plain_set_update_loop _]
    show wpAny _ A.in1 (pyNext (.ref I) >>= _) _ _ s
    refine wpAny_bind (wpAny_pyNext_list_item hit hl (x := items[i]) (by simp [hlt]) fun h₁ hit₁ hs₁ => ?_)
    obtain ⟨t, hv⟩ := hy i items[i] (by simp [hlt])
    have hS₁ : h₁.SetOf (PySem.strKind prog w) S (fun x => decide (x ∈ ys.take i)) n := by
      obtain ⟨o, es, ep, tb, ho, rest⟩ := hS
      exact ⟨o, es, ep, tb, hs₁.extBut S _ hSI ho, rest⟩
    show wpAny _ A.in1 (holding [items[i]] (setAdd S items[i]) >>= _) _ _ _
    rw [hv]
    refine wpAny_bind (wpAny_holding ?_)
    unfold setAdd
    refine wpAny_holding ?_
    refine wpAny_bind ((PySem.strKind prog w).pyHash (k := ys.getD i PySem.Str.empty) (strKind_is _ _ _ _) ?_)
    refine wpAny_setAddHashed_of (knd := PySem.strKind prog w) (s := { s with heap := h₁, toks := s.toks + 1 }) (strKind_is _ _ _ _) rfl hS₁ (by omega) fun h' hsb hS2 => ?_
    have e : (fun k' => decide (k' ∈ ys.take i) || decide (k' = ys.getD i PySem.Str.empty)) = fun x => decide (x ∈ ys.take (i + 1)) := by
      funext x
      have hiy : i < ys.length := by omega
      have ht : ys.take (i + 1) = ys.take i ++ [ys.getD i PySem.Str.empty] := by
        rw [List.take_add_one, List.getD_eq_getElem?_getD, List.getElem?_eq_getElem hiy]; rfl
      rw [ht]
      simp [List.mem_append, Bool.decide_or]
    rw [e] at hS2
    refine wpAny_pure ⟨plainId_quiet PyProof.Rows.F.plain_set_update_loop _, ih (i + 1) _ (by omega) hlt ((hit₁.extBut hsb.extBut (Ne.symm hSI))) ((hl.extBut hs₁.extBut hlI).extBut hsb.extBut (Ne.symm hSl)) ⟨_, ?_, hS2⟩ fun h'' tk'' hS'' hk'' => ?_⟩
    · split <;> omega
    · exact hR h'' tk'' hS'' fun b o h1 h2 x => hk'' b o h1 h2 (hsb.extBut b o h1 (hs₁.extBut b o h2 x))

set_option maxHeartbeats 3200000 in
theorem set_call {l : Addr} {items : Array Value} {ys : List PySem.Str} {Q : Value → Shared → Prop} (hh : A.handled = none) (hl : s.heap.IsList l items) (hy : ∀ (i : Nat) (v : Value), items[i]? = some v → ∃ t, v = Value.str (ys.getD i PySem.Str.empty) t) (hn : items.size = ys.length) (hb : items.size + 1 < scanBound)
    (h : ∀ (h' : Heap) (tk : Nat), (∃ n, h'.SetOf (PySem.strKind prog w) s.heap.objs.size (fun x => decide (x ∈ ys)) n) → (∀ b o, b < s.heap.objs.size → s.heap.get? b = some o → h'.get? b = some o) → Q (.ref s.heap.objs.size) { s with heap := h', toks := tk }) :
    wpAny (model prog w) A (call (.type "set") [.ref l]) Q E s := by
  obtain ⟨c, tl, hmro⟩ := F.called_set.mro
  have hmade := F.called_set.made
  have hsub := F.called_set.sub
  refine wpAny_call (codeAny_of_tree ?_)
  show wpAny _ _ (callAny (.type "set") _) _ _ _
  refine wpAny_pure ⟨Code.quiet_builtin _ (by decide +kernel), codeAny_builtin F.entry_type_call ?_⟩
  rw [Around.under_plain (weight_type_call_type "set" [.ref l] []) rfl]
  have h1 := F.called_set.notType
  have h2 := F.called_set.canCreate
  have hct := F.typeCall_set_1 (.ref l)
  repeat (any_goals (first | assumption | wp_step))
  refine codeAny_mono (code_set_new_1 (.ref l) (E := E) (Q₁ := fun obj s₁ => ∃ led : Bool, obj = .ref s.heap.objs.size ∧ s₁ = { s with heap := s.heap.push { cls := .type "set", dict := none, data := .set #[] 0 (.fresh 0 0 led) } }) fun led => ⟨led, rfl, rfl⟩) fun r s₁ hr => ?_
  have noGood : ∀ {f : Flow} {s' : Shared}, (wants (fun (obj : Value) (s₁ : Shared) => ∃ led : Bool, obj = .ref s.heap.objs.size ∧ s₁ = { s with heap := s.heap.push { cls := .type "set", dict := none, data := .set #[] 0 (.fresh 0 0 led) } }) E (.ok f) s') → ∃ led, f = .ret (.ref s.heap.objs.size) ∧ s' = { s with heap := s.heap.push { cls := .type "set", dict := none, data := .set #[] 0 (.fresh 0 0 led) } } := by
    intro f s' hf
    cases f with
    | ret v => obtain ⟨led, rfl, rfl⟩ := hf; exact ⟨led, rfl, rfl⟩
    | _ => exact hf.elim
  cases r with
  | error e => exact hr
  | ok fl =>
  obtain ⟨led, rfl, rfl⟩ := noGood hr
  have hS : (s.heap.push { cls := .type "set", dict := none, data := .set #[] 0 (.fresh 0 0 led) }).get? s.heap.objs.size = some { cls := .type "set", dict := none, data := .set #[] 0 (.fresh 0 0 led) } := Heap.get?_push_size _ rfl
  have hT : Shared.TypeIs { s with heap := s.heap.push { cls := .type "set", dict := none, data := .set #[] 0 (.fresh 0 0 led) } } (.ref s.heap.objs.size) "set" := ⟨_, hS, rfl⟩
  have hli := F.called_set.init.lookup
  have hbi := F.called_set.init.bind (.ref s.heap.objs.size)
  repeat (any_goals (first | assumption | wp_step))
  refine codeAny_mono (codeAny_call_builtin (R := wants (fun r s₂ => r = .none ∧ ∃ h' tk, s₂ = { s with heap := h', toks := tk } ∧ (∃ n, h'.SetOf (PySem.strKind prog w) s.heap.objs.size (fun x => decide (x ∈ ys)) n) ∧
      (∀ b o, b < s.heap.objs.size → s.heap.get? b = some o → h'.get? b = some o)) E) F.called_set.init.plain F.entry_set_init (check_set_init_1 hT ?_)) fun r₂ s₂ hr₂ => ?_
  rotate_left
  · cases r₂ with
    | error e => exact hr₂
    | ok fl₂ =>
      cases fl₂ with
      | ret r =>
        obtain ⟨rfl, h', tk, rfl, hS', hk'⟩ := hr₂
        repeat (any_goals (first | assumption | wp_step))
        exact h _ _ hS' hk'
      | _ => exact hr₂.elim
  obtain ⟨ol, hol, hcl, nl, hdl⟩ := id hl
  obtain ⟨ocls, odict, odata, oslots⟩ := ol
  simp only at hcl hdl
  subst hcl; subst hdl
  have hol' : (s.heap.push { cls := .type "set", dict := none, data := .set #[] 0 (.fresh 0 0 led) }).get? l = some { cls := .type "list", dict := odict, data := .seq items nl, slots := oslots } := Heap.get?_push_of_some _ hol
  have hsls := F.sub_list_set
  have hslf := F.sub_list_frozenset
  have hne : (Value.type "list" == Value.type "dict") = false := by decide
  have hl1 : (s.heap.push { cls := .type "set", dict := none, data := .set #[] 0 (.fresh 0 0 led) }).IsList l items := ⟨_, hol', rfl, nl, rfl⟩
  unfold Builtin.«set.__init__» noKeywords Builtin.Frozenset.updateFrom
  generalize hPI : pyIter = PI
  wp_walk
  subst hPI
  refine wpAny_pyIter_list hl1 ?_
  refine wpAny_bind (wpAny_runValue ?_)
  have hlS : l < s.heap.objs.size := Heap.lt_size hol
  have hz : (s.heap.push { cls := .type "set", dict := none, data := .set #[] 0 (.fresh 0 0 led) }).objs.size = s.heap.objs.size + 1 := Heap.size_push ..
  refine set_fill (by simp [hh]) s.heap.objs.size _ l (by rw [hz]; exact Nat.ne_of_lt (Nat.lt_succ_self _)) (Nat.ne_of_gt hlS) (by rw [hz]; exact Nat.ne_of_lt (Nat.lt_succ_of_lt hlS)) items ys hy hn hb (items.size - 0) 0 _ (by omega) (Nat.zero_le _)
    ⟨_, Heap.get?_push_size _ rfl, rfl, rfl⟩ (hl1.push _) ⟨0, Nat.le_refl _, ?_⟩ fun h' tk hS' hk => ?_
  · have hget : ((s.heap.push { cls := .type "set", dict := none, data := .set #[] 0 (.fresh 0 0 led) }).push { cls := .type "list_iterator", data := .fields #[.ref l, .int 0 0] }).get? s.heap.objs.size
              = some { cls := .type "set", dict := none, data := .set #[] 0 (.fresh 0 0 led) } := Heap.get?_push_of_some _ hS
    have := (PyProof.Rows.setObjOf_fresh (knd := PySem.strKind prog w) led).setOf hget (by unfold scanBound; omega)
    simpa using this
  · show wpAny _ _ _ _ _ _
    refine wpAny_pure ?_
    show wpAny _ _ (ret Value.none) _ _ _
    refine wpAny_pure ⟨rfl, h', tk, rfl, hS', fun b o hb e => hk b o (Nat.ne_of_lt hb) (by rw [hz]; exact Nat.ne_of_lt (Nat.lt_succ_of_lt hb)) (Heap.get?_push_of_some _ (Heap.get?_push_of_some _ e))⟩
end

end
section
set_option maxRecDepth 100000
theorem lk_set_contains : typeLookup (.type "set") "__contains__" = pure (some (.builtin "set.__contains__")) := by rw [typeLookup_type, builtinLookup_eq_fast]; kernel_rfl
theorem lk_md_get : typeLookup (.type "method_descriptor") "__get__" = pure (some (.builtin "method_descriptor.__get__")) := by rw [typeLookup_type, builtinLookup_eq_fast]; kernel_rfl
theorem lk_md_set : typeLookup (.type "method_descriptor") "__set__" = pure none := by rw [typeLookup_type, builtinLookup_eq_fast]; kernel_rfl
theorem lk_md_del : typeLookup (.type "method_descriptor") "__delete__" = pure none := by rw [typeLookup_type, builtinLookup_eq_fast]; kernel_rfl
theorem slot_md_get : Slot "method_descriptor" "__get__" "method_descriptor.__get__" :=
  .of (owner := "method_descriptor") (n := "__get__") (by rw [typeLookup_type, builtinLookup_eq_fast]; kernel_rfl) (by decide +kernel) (by decide +kernel) (by decide +kernel)
    (by first | exact .inl (by decide +kernel) | exact .inr (by decide +kernel)) (by rw [isSubtype_type]; kernel_rfl)
theorem entry_md_get : entryFor table "method_descriptor.__get__" = some Builtin.«method_descriptor.__get__» := entryFor_of_tree (by kernel_rfl)
theorem args_md_get (a b c : Value) : argsOk "method_descriptor.__get__" ⟨[a, b, c], []⟩ := by unfold argsOk; kernel_rfl
theorem owner_set_contains : (".".intercalate ("set.__contains__".cutAt '.').dropLast) = "set" := by
  have e0 : "set.__contains__".cutAt '.' = ["set", "__contains__"] := by first | rfl | decide +kernel
  rw [e0]; decide +kernel
theorem sub_contains_owner : isSubtype (.type "set") (.type (".".intercalate ("set.__contains__".cutAt '.').dropLast)) = pure true := by
  rw [owner_set_contains]; exact sub_set_self
section
variable {prog : Program} {w : World} {A : Around} {E : Value → Shared → Prop} {h : Heap} {g : Array GenState} {d : Drawn} {t : Nat} {os : OsState} {a : Addr} {es : Array (Int × Value)} {ep : Nat} {tb : SetTable}
set_option maxHeartbeats 3200000 in
theorem contains_entry {tk : Tok} {Q : Fin → Shared → Prop} (hx : h.get? a = some { cls := .type "set", dict := none, data := .set es ep tb, slots := #[] })
    (hq : Q (.done (.ret (.ref h.objs.size))) ⟨h.push { cls := .type "builtin_function_or_method", data := .fields #[.builtin "set.__contains__", .ref a] }, g, d, t, os⟩) :
    wpAny (model prog w) A (Builtin.«object.__getattribute__» ⟨[.ref a, .str "__contains__" tk], []⟩) Q E ⟨h, g, d, t, os⟩ := by
  have hT : (⟨h, g, d, t, os⟩ : Shared).TypeIs (.ref a) "set" := ⟨_, hx, rfl⟩
  have f4 := lk_set_contains
  have hT5 : (⟨h, g, d, t, os⟩ : Shared).TypeIs (.builtin "set.__contains__") "method_descriptor" := F.type_set_contains
  have f5 := F.type_set_contains
  have f6 := lk_md_get
  have f7 := lk_md_set
  have f8 := lk_md_del
  repeat (any_goals (first | assumption | wp_step))
  refine codeAny_call_builtin slot_md_get.plain entry_md_get (slot_md_get.check _ _ _ _ _ _ _ _ hT5 (args_md_get _ _ _) ?_)
  have f9 := sub_contains_owner
  repeat (any_goals (first | assumption | wp_step))
theorem contains_entry_call {tk : Tok} {R : Result → Shared → Prop} (hx : h.get? a = some { cls := .type "set", dict := none, data := .set es ep tb, slots := #[] })
    (hq : R (.ok (.ret (.ref h.objs.size))) ⟨h.push { cls := .type "builtin_function_or_method", data := .fields #[.builtin "set.__contains__", .ref a] }, g, d, t, os⟩) :
    codeAny (model prog w) A (.call (.builtin "set.__getattribute__") ⟨[.ref a, .str "__contains__" tk], []⟩) R ⟨h, g, d, t, os⟩ :=
  codeAny_call_builtin F.slot_set_getattribute.plain F.entry_set_ga (F.slot_set_getattribute.check _ _ _ _ _ _ _ _ (show (⟨h, g, d, t, os⟩ : Shared).TypeIs (.ref a) "set" from ⟨_, hx, rfl⟩) (F.args_set_getattribute_2 _ _) (contains_entry hx hq))
set_option maxHeartbeats 3200000 in
theorem contains_get {Q : Value → Shared → Prop} (hx : h.get? a = some { cls := .type "set", dict := none, data := .set es ep tb, slots := #[] })
    (hq : Q (.ref h.objs.size) ⟨h.push { cls := .type "builtin_function_or_method", data := .fields #[.builtin "set.__contains__", .ref a] }, g, d, t + 1, os⟩) :
    wpAny (model prog w) A (getAttr (.ref a) "__contains__" true) Q E ⟨h, g, d, t, os⟩ := by
  have hT : (⟨h, g, d, t, os⟩ : Shared).TypeIs (.ref a) "set" := ⟨_, hx, rfl⟩
  have hT1 : (⟨h, g, d, t + 1, os⟩ : Shared).TypeIs (.ref a) "set" := ⟨_, hx, rfl⟩
  have f2 := F.slot_set_getattribute.lookup
  have f3 := F.slot_set_getattribute.bind (.ref a)
  repeat (any_goals (first | assumption | wp_step))
  refine contains_entry_call hx ?_
  repeat (any_goals (first | assumption | wp_step))
end
theorem sub_set_module : isSubtype (.type "set") (.type "module") = pure false := by rw [isSubtype_type]; kernel_rfl
theorem sub_set_type : isSubtype (.type "set") (.type "type") = pure false := by rw [isSubtype_type]; kernel_rfl
theorem kind_set_contains : builtinKind "set.__contains__" = some .method := by kernel_rfl
section
variable {prog : Program} {w : World} {A : Around} {E : Value → Shared → Prop} {h : Heap} {g : Array GenState} {d : Drawn} {t : Nat} {os : OsState} {a q : Addr} {es : Array (Int × Value)} {ep : Nat} {tb : SetTable}
set_option maxHeartbeats 3200000 in
theorem bound_check {x : PySem.Str} {u : Tok} {Q : Unit → Shared → Prop} (hx : h.get? a = some { cls := .type "set", dict := none, data := .set es ep tb, slots := #[] }) (hq : Q () ⟨h, g, d, t, os⟩) : wpAny (model prog w) A (checkBoundCall "set.__contains__" ⟨[.ref a, .str x u], []⟩) Q E ⟨h, g, d, t, os⟩ := by
  have hT : (⟨h, g, d, t, os⟩ : Shared).TypeIs (.ref a) "set" := ⟨_, hx, rfl⟩
  have f1 := sub_set_module
  have f2 := sub_set_type
  have f3 := kind_set_contains
  unfold checkBoundCall
  rw [signature?_of (id := "set.__contains__") (n := ['_', '_', 's', 'n', 'i', 'a', 't', 'n', 'o', 'c', '_', '_']) (o := ['t', 'e', 's']) (by kernel_rfl) F.owner_set]
  repeat (any_goals (first | assumption | wp_step))
end
theorem plain_set_contains : plainId "set.__contains__" = true := by decide +kernel
section
variable {prog : Program} {w : World} {A : Around} {E : Value → Shared → Prop} {s : Shared} {a q : Addr} {ys : List PySem.Str}
/-- a set of texts stands at a -/
def SetS (prog : Program) (w : World) (h : Heap) (a : Addr) (ys : List PySem.Str) : Prop := ∃ n, h.SetOf (PySem.strKind prog w) a (fun x => decide (x ∈ ys)) n
abbrev boundObj (a : Addr) : Obj := { cls := .type "builtin_function_or_method", data := .fields #[.builtin "set.__contains__", .ref a] }
theorem contains_getS {Q : Value → Shared → Prop} (hS : SetS prog w s.heap a ys) (hq : Q (.ref s.heap.objs.size) { s with heap := s.heap.push (boundObj a), toks := s.toks + 1 }) :
    wpAny (model prog w) A (getAttr (.ref a) "__contains__" true) Q E s := by
  obtain ⟨n, ⟨c, dd, dt, sl⟩, es, ep, t, ho, ⟨h1, h2, h3⟩, hd, _⟩ := hS
  simp only at h1 h2 h3 hd
  subst h1 h2 h3 hd
  obtain ⟨h, g, d, tk, os⟩ := s
  exact contains_get ho hq
set_option maxHeartbeats 3200000 in
theorem bound_call {x : PySem.Str} {u : Tok} {Q : Value → Shared → Prop} (hq : s.heap.get? q = some (boundObj a)) (hS : SetS prog w s.heap a ys) (h : Q (.bool (decide (x ∈ ys))) { s with toks := s.toks + 1 }) :
    wpAny (model prog w) A (call (.ref q) [.str x u]) Q E s := by
  obtain ⟨n, hS'⟩ := id hS
  obtain ⟨⟨c, dd, dt, sl⟩, es, ep, t, ho, ⟨h1, h2, h3⟩, hd, _⟩ := id hS'
  simp only at h1 h2 h3 hd
  subst h1 h2 h3 hd
  refine wpAny_call (codeAny_of_tree ?_)
  show wpAny _ _ (callAny (.ref q) _) _ _ _
  unfold callAny
  refine wpAny_bind (wpAny_load hq ?_)
  dsimp only
  rw [if_pos (by decide)]
  show wpAny _ _ (checkBoundCall "set.__contains__" ⟨[.ref a, .str x u], []⟩ >>= fun _ => again (.builtin "set.__contains__" ⟨[.ref a, .str x u], []⟩)) _ _ _
  obtain ⟨hp, g, d, tk, os⟩ := s
  refine wpAny_bind (bound_check ho ?_)
  refine wpAny_pure ⟨plainId_quiet plain_set_contains _, codeAny_builtin entry_set_contains ?_⟩
  unfold Builtin.«frozenset.__contains__» Builtin.Frozenset.oneOther
  simp only [List.isEmpty_nil, bind_assoc]
  unfold Builtin.Frozenset.addrOf Builtin.Frozenset.withSetAsKey setContains
  refine wpAny_bind (wpAny_pure ?_)
  try dsimp only
  refine wpAny_bind (wpAny_pure ?_)
  try dsimp only
  refine wpAny_bind (wpAny_tryCatch ?_)
  refine wpAny_holding ?_
  refine wpAny_bind ((PySem.strKind prog w).pyHash (strKind_is prog w x u) ?_)
  refine wpAny_bind (wpAny_setFind_of (knd := PySem.strKind prog w) (s := ⟨hp, g, d, tk + 1, os⟩) (strKind_is prog w x u) rfl hS' fun r hr => ?_)
  refine wpAny_pure ?_
  show wpAny _ _ (ret (Value.bool r.isSome)) _ _ _
  rw [hr]
  exact wpAny_pure h
end

end
section
set_option maxRecDepth 100000
abbrev liObj (l : Addr) (i : Nat) : Obj := { cls := .type "list_iterator", data := .fields #[.ref l, .int (i : Nat) 0] }
abbrev liEnd (i : Nat) : Obj := { cls := .type "list_iterator", data := .fields #[.none, .int (i : Nat) 0] }
section
variable {prog : Program} {w : World} {A : Around} {E : Value → Shared → Prop} {s : Shared} {h₀ : Heap} {L I l : Addr} {m : PySem.Str → Option Value} {news : List (Addr × Obj)} {i k : Nat} {items : List Value} {v : Value}
theorem li_item {Q : Option Value → Shared → Prop} (hit : s.heap.get? I = some (liObj l i)) (hl : s.heap.get? l = some (listOf items.toArray k)) (hx : items[i]? = some v)
    (hQ : ∀ h', h'.get? I = some (liObj l (i + 1)) → Heap.SameBut I s.heap h' → Q (some v) { s with heap := h' }) :
    wpAny (model prog w) A (callSpecial? (.ref I) (PySem.Str.ofString "__next__")) Q E s := by
  have hT : s.TypeIs (.ref I) "list_iterator" := ⟨_, hit, rfl⟩
  refine wpAny_callSpecial?_slot (name := PySem.Str.ofString "__next__") hT slot_listiter_next
    (wpAny_call_entry slot_listiter_next hT entry_listiter_next ?_ (args_listiter_next _))
  show wpAny _ _ (field (.ref I) 0 >>= _) _ _ s
  refine wpAny_bind (wpAny_field hit rfl (x := .ref l) rfl ?_)
  show wpAny _ _ (if (Value.ref l == Value.none) = true then _ else _) _ _ s
  rw [if_neg (show ¬ ((Value.ref l == Value.none) = true) from Bool.false_ne_true)]
  show wpAny _ _ (field (.ref I) 1 >>= _) _ _ s
  refine wpAny_bind (wpAny_field hit rfl (x := .int i 0) rfl ?_)
  show wpAny _ _ (seqItems? (.ref l) >>= _) _ _ s
  refine wpAny_bind (wpAny_seqItems hl rfl ?_)
  simp only [Int.toNat_natCast, List.getElem?_toArray, hx]
  refine wpAny_bind (wpAny_setField hit rfl (by simp) (wpAny_pure ⟨v, rfl, hQ _ ?_ (Heap.SameBut.update ..)⟩))
  exact Heap.get?_update_self _ hit rfl
theorem li_end {Q : Option Value → Shared → Prop} (hh : A.handled = none) (hit : s.heap.get? I = some (liObj l i)) (hl : s.heap.get? l = some (listOf items.toArray k)) (hx : items[i]? = none)
    (hE : ∀ h₁ h' e, Heap.SameBut I s.heap h₁ → h₁.get? I = some (liEnd i) → Heap.NewExc h₁ h' e "StopIteration" → E (.ref e) { s with heap := h' }) :
    wpAny (model prog w) A (callSpecial? (.ref I) (PySem.Str.ofString "__next__")) Q E s := by
  have hT : s.TypeIs (.ref I) "list_iterator" := ⟨_, hit, rfl⟩
  refine wpAny_callSpecial?_slot (name := PySem.Str.ofString "__next__") hT slot_listiter_next
    (wpAny_call_entry slot_listiter_next hT entry_listiter_next ?_ (args_listiter_next _))
  show wpAny _ _ (field (.ref I) 0 >>= _) _ _ s
  refine wpAny_bind (wpAny_field hit rfl (x := .ref l) rfl ?_)
  show wpAny _ _ (if (Value.ref l == Value.none) = true then _ else _) _ _ s
  rw [if_neg (show ¬ ((Value.ref l == Value.none) = true) from Bool.false_ne_true)]
  show wpAny _ _ (field (.ref I) 1 >>= _) _ _ s
  refine wpAny_bind (wpAny_field hit rfl (x := .int i 0) rfl ?_)
  show wpAny _ _ (seqItems? (.ref l) >>= _) _ _ s
  refine wpAny_bind (wpAny_seqItems hl rfl ?_)
  simp only [Int.toNat_natCast, List.getElem?_toArray, hx]
  refine wpAny_bind (wpAny_rule (wpAny_bind (wpAny_setField hit rfl (by simp) ?_)))
  show wpAny _ _ (newExc (.type "StopIteration") [] >>= _) _ _ _
  refine wpAny_bind ?_
  simp only [newExc, newTuple]
  refine wpAny_bind (wpAny_newObj_type ?_ (by size_fits))
  refine wpAny_bind (m := firstArgMember _ _) (wpAny_of_eq (a := Value.none) (by first | rfl | (simp only [firstArgMember]; rfl)) ?_)
  refine wpAny_newObj_type ?_ (by size_fits)
  simp only [raiseNew]
  refine wpAny_bind (wpAny_handled ?_)
  first | rw [show A.in1.handled = none from hh] | rw [hh]
  refine wpAny_bind (wpAny_pure (wpAny_throw ?_))
  refine hE _ _ _ (Heap.SameBut.update ..) (Heap.get?_update_self _ hit rfl) ⟨fun b o e => Heap.get?_push_of_some _ (Heap.get?_push_of_some _ e), ?_, _, .ref (s.heap.update I (Obj.mapFields fun x => x.setIfInBounds 0 Value.none)).objs.size, Heap.get?_push_size _ rfl, rfl, ?_⟩
  · cases q : (s.heap.update I _).get? _ with
    | none => rfl
    | some o => exact absurd (Heap.lt_size q) (by simp [Heap.size_push])
  · simp [ownMembersOf]
theorem next_item {Q : Value → Shared → Prop} (F : Fr h₀ L s.heap m) (N : News h₀ L s.heap ((I, liObj l i) :: news)) (hd : ∀ p ∈ news, p.1 ≠ I) (hm : (l, listOf items.toArray k) ∈ news) (hx : items[i]? = some v)
    (h : ∀ h', Fr h₀ L h' m → News h₀ L h' ((I, liObj l (i + 1)) :: news) → Q v { s with heap := h' }) : wpAny (model prog w) A (call (.builtin "next") [.ref I]) Q E s := by
  have h1 := N _ List.mem_cons_self
  have h2 := N _ (List.mem_cons_of_mem _ hm)
  have hT : s.TypeIs (.ref I) "list_iterator" := ⟨_, h1.1, rfl⟩
  refine Calls.call_function_entry (by decide +kernel) (by decide +kernel) kdk_entry_next (kdk_args_next _) ?_
  unfold Builtin.«next»
  refine wpAny_bind (m := someArgs "next" 1 2 _) (wpAny_of_eq (a := [Value.ref I]) (by first | rfl | kernel_rfl!) ?_)
  dsimp only
  refine wpAny_bind (wpAny_specialOf (name := PySem.Str.ofString "__next__") hT slot_listiter_next.lookup ?_)
  refine wpAny_ite_split (fun hab => absurd hab (by decide)) (fun _ => ?_)
  refine wpAny_bind (li_item h1.1 h2.1 hx fun h' hit' hs => ?_)
  exact wpAny_pure ⟨_, rfl, h h' (F.change hs h1.2.1 h1.2.2) (News.setIn (own := []) N (fun _ hp => absurd hp List.not_mem_nil) hd hs hit')⟩
theorem next_end {Q : Value → Shared → Prop} (F : Fr h₀ L s.heap m) (N : News h₀ L s.heap ((I, liObj l i) :: news)) (hh : A.handled = none) (hd : ∀ p ∈ news, p.1 ≠ I) (hm : (l, listOf items.toArray k) ∈ news) (hx : items[i]? = none)
    (h : ∀ h₁ h' e, Fr h₀ L h₁ m → News h₀ L h₁ ((I, liEnd i) :: news) → Heap.NewExc h₁ h' e "StopIteration" → E (.ref e) { s with heap := h' }) : wpAny (model prog w) A (call (.builtin "next") [.ref I]) Q E s := by
  have h1 := N _ List.mem_cons_self
  have h2 := N _ (List.mem_cons_of_mem _ hm)
  have hT : s.TypeIs (.ref I) "list_iterator" := ⟨_, h1.1, rfl⟩
  refine Calls.call_function_entry (by decide +kernel) (by decide +kernel) kdk_entry_next (kdk_args_next _) ?_
  unfold Builtin.«next»
  refine wpAny_bind (m := someArgs "next" 1 2 _) (wpAny_of_eq (a := [Value.ref I]) (by first | rfl | kernel_rfl!) ?_)
  dsimp only
  refine wpAny_bind (wpAny_specialOf (name := PySem.Str.ofString "__next__") hT slot_listiter_next.lookup ?_)
  refine wpAny_ite_split (fun hab => absurd hab (by decide)) (fun _ => ?_)
  refine wpAny_bind (li_end hh h1.1 h2.1 hx fun h₁ h' e hs hit' hx => ?_)
  exact h h₁ h' e (F.change hs h1.2.1 h1.2.2) (News.setIn (own := []) N (fun _ hp => absurd hp List.not_mem_nil) hd hs hit') hx
/-- a loop that ends by a return or a raise -/
theorem while_ind {env : Env} {test : PySem.Expr} {body orelse : List Stmt} {pos : Pos} {Q : Flow → Shared → Prop} (J : Nat → Shared → Prop) (n : Nat) (hJ : J n s) (hE : PassesOwn (model prog w) A env E)
    (turn : ∀ n s', J n s' → (∀ m s'', m < n → J m s'' → WhlRest prog w A E env test body orelse Q 0 s'') →
      wpAny (model prog w) A (isTrue test env (eval test env)) (fun b s₂ => WhlIf b (wpAny (model prog w) A (execs body env) (WhlPost prog w A E env test body orelse Q 0) E s₂) (wpAny (model prog w) A (execs orelse env) Q E s₂)) E s') :
    wpAny (model prog w) A (exec (.While test body orelse pos) env) Q E s := by
  refine whl_start 0 ?_
  induction n using Nat.strongRecOn generalizing s with
  | _ n ih => exact whl_turn (k := 0) hE (turn n s hJ fun m s'' hm hj => ih m hm hj)
end
/-- stops the walk -/
def Paused (P : Prop) : Prop := P
theorem Paused.of {P : Prop} (h : Paused P) : P := h
theorem fr_same {h₀ h : Heap} {L : Addr} {m m' : PySem.Str → Option Value} (F : Fr h₀ L h m) (e : ∀ y, m y = m' y) : Fr h₀ L h m' := (funext e : m = m') ▸ F

end
set_option maxRecDepth 100000
local macro_rules | `(tactic| cell_enter) => `(tactic| first
  | (refine' code_def ?k1 ?k2 ?k3 ?k4 ?k5 ?kA ?kF ?kK ?k6 ?k7 ?k8 ?k9 ?kB ?_ ?c2 ?c3 ?c4 ?c5; (case kA => exact rfl); (case kF => exact rfl); (case kK => first | exact rfl | assumption); (case k1 => k_asm); (case k2 => k_asm); (case k3 => k_asm); (case k4 => k_asm); (case k5 => k_asm); (case k6 => k_is); (case k7 => k_is); (case k8 => ktr_room); (case k9 => exact BindsTo.of_eq rfl); (case c5 => decide); (case kB => exact locs rfl); (case c2 => exact rfl); (case c3 => exact rfl); (case c4 => exact rfl); k_whole; intro g' L' h' FG' F' N' B' X' T'; (try dsimp only); (try k_fold))
  | (refine' code_defC ?k1 ?k2 ?k3 ?k4 ?k5 ?kA ?kF ?kK ?k6 ?k7 ?k8 ?k9 ?kB ?kD ?_ ?c2 ?c3 ?c4; (case kA => exact rfl); (case kF => exact rfl); (case kK => first | exact rfl | assumption); (case k1 => k_asm); (case k2 => k_asm); (case k3 => k_asm); (case k4 => k_asm); (case k5 => k_asm); (case k6 => k_is); (case k7 => k_is); (case k8 => ktr_room); (case k9 => exact BindsTo.of_eq rfl); (case kB => exact rfl); (case kD => decide +kernel); (case c2 => exact rfl); (case c3 => exact rfl); (case c4 => exact rfl); k_whole; intro g' L' h' tk' cells' FG' F' N' Y' B' X' T' l1; k_cells Y'; (try simp only [List.cons_append, List.nil_append] at N'); (try dsimp only); (try k_fold)))
local macro_rules | `(tactic| k_memK) => `(tactic| first | with_reducible assumption | exact List.mem_cons_self | (refine List.mem_cons_of_mem _ ?_; k_memK) | (refine List.mem_append_right _ ?_; k_memK) | (refine List.mem_append_left _ ?_; k_memK))
local macro_rules | `(tactic| k_mem) => `(tactic| ((show _ ∈ _); k_memK))
local macro_rules | `(tactic| walk_at "eval ListComp") => `(tactic| (k_here; k_dflt (refine eval_comp (by with_unfolding_all rfl) (by rfl) (by decide) ?_)))
local macro_rules | `(tactic| walk_at "exec Assign cons ListComp") => `(tactic| (k_here; k_dflt (refine assign_comp (by with_unfolding_all rfl) (by with_unfolding_all rfl) (by rfl) (by decide) ?_)))
local macro_rules | `(tactic| walk_at "call type:enumerate") => `(tactic| (k_here; k_dflt (refine' enum_call ?F ?N ?m ?_; (case F => k_asm); (case N => k_asm); (case m => k_mem)); intro e' h' F' N' M'; (try dsimp only); (try k_sweep)))

section
set_option maxRecDepth 100000
abbrev Co (w : World) (loose : List PySem.Str) (mean : ExcName → Option Value) (mg mb : PySem.Str → Option Value) (f : Addr) (dep : Nat) (Pre : List (Addr × Obj) → List Value → Prop) (Out : List (Addr × Obj) → Value → Prop) : Prop :=
  Con PySem.Challenge.rw_ij0069_01.row.prog w (hd.heap_39 w.params) hd.view_39 loose mean mg mb f dep Pre Out
theorem pick_take (its : List Value) (i : Nat) : slicePick its.toArray none (some (i : Int)) none = (its.take i).toArray := by
  have e : sliceBounds none (some (i : Int)) none its.toArray.size = (((0 : Nat) : Int), ((min i its.toArray.size : Nat) : Int), 1) := by
    simp only [sliceBounds, Option.getD_none, show (1 : Int) > 0 by decide, if_true, if_neg (show ¬ ((i : Int) < 0) by omega)]
    congr 1
    congr 1
    omega
  rw [kmk_pick_nat _ e]
  show ((its.drop 0).take (min i its.toArray.size - 0)).toArray = _
  rw [List.drop_zero, Nat.sub_zero, List.size_toArray, kmk_take_min]
theorem slice_to {prog : Program} {w : World} {A : Around} {E : Value → Shared → Prop} {s : Shared} {h₀ : Heap} {L l : Addr} {m : PySem.Str → Option Value} {news : List (Addr × Obj)} {value slice : PySem.Expr} {its : List Value} {k i : Nat} {t : Tok} {Q : Value → Shared → Prop}
    (F : Fr h₀ L s.heap m) (N : News h₀ L s.heap news) (hm : (l, listOf its.toArray k) ∈ news) (hz : its.length ≤ sizeLine)
    (h : ∀ D h', Fr h₀ L h' m → News h₀ L h' ((D, listOf (its.take i).toArray 0) :: news) → (∀ p ∈ news, p.1 < D) → Q (.ref D) { s with heap := h' })
    (hs : subscripted slice false (.ref l) (.ref s.heap.objs.size) = operate [.ref s.heap.objs.size, .ref l] (getItem (.ref l) (.ref s.heap.objs.size)) := by with_unfolding_all rfl) (ht : ∀ r, letTemporaryGo value (.ref l) r = pure () := by intro _; rfl) :
    wpAny (model prog w) A (subscriptTail value slice (.ref l) (.ref s.heap.objs.size)) Q E { s with heap := s.heap.push { cls := .type "slice", data := .fields #[.none, .int (i : Nat) t, .none] } } := by
  refine kmk_slice (lo := none) (hi := some (i : Int)) F N (N.isList hm) .none (.int _ _) (fun D h' F' N' l1 => h D h' F' ?_ l1) hs ht (by simpa using hz)
  rw [pick_take] at N'
  exact N'
open Classical in
noncomputable def onceD (ds : List Dat) : List Dat :=
  ((List.range ds.length).filter fun i => !decide (ds.getD i .none ∈ ds.take i)).map fun i => ds.getD i .none
/-- a list of plain data of the ledger's -/
def ListD (news : List (Addr × Obj)) (v : Value) (ds : List Dat) : Prop := ∃ a its k, v = .ref a ∧ (a, listOf (List.toArray its) k) ∈ news ∧ DatAll news its ds
def Ok8 (ds : List Dat) : Prop := ∀ d ∈ ds, kqdOk 8 d = true
theorem ok_at {ds : List Dat} (h : Ok8 ds) (i : Nat) : kqdOk 8 (ds.getD i .none) = true := by
  rw [List.getD_eq_getElem?_getD]
  cases hi : ds[i]? with
  | none => rfl
  | some d => exact h d (List.mem_of_getElem? hi)

end
section
open Classical in
set_option maxHeartbeats 8000000 in
theorem once (w : World) (loose : List PySem.Str) (mean : ExcName → Option Value) (mg mb : PySem.Str → Option Value) (ds : List Dat) (hok : Ok8 ds) (hlen : ds.length ≤ 100000) :
    Co w loose mean mg mb 70 1 (fun news vs => ∃ v, vs = [v] ∧ ListD news v ds) (fun news r => ListD news r (onceD ds)) := by
  unfold Co Con
  k_fill
  intro dp un gd cn cs a ccd cl outer A₀ base h₀ L m news s vs Q E B F X N T hk hR hd hu hret
  obtain ⟨v, rfl, ax, its, k, rfl, hm, hD⟩ := hR
  refine wpAny_call ?_
  k_dflt cell_enter
  k_steps
  rename Fr _ _ _ _ => F1
  rename News _ _ _ _ => N1
  rename EnumAt _ _ _ _ _ _ _ => M1
  refine enum_T (vs := its) rfl F1 N1 M1 (by decide) (by rfl) (by decide) (by rfl) (by rfl) (by rw [hD.length, sizeLine_eq]; omega) (fun i => ds.getD i .none) (fun i => !decide (ds.getD i .none ∈ ds.take i)) ?el ?fin
  case el =>
    rintro i t x hx C D oC mc own h tk ys tl E' ⟨hk1, ho1⟩ hC F2 N2
    clear F1 N1
    k_steps
    k_dflt (refine slice_to F2 N2 (by k_memK) (by rw [hD.length, sizeLine_eq]; omega) (fun D' h' F3 N3 l3 => ?_))
    k_dflt (refine kqd_notIn N3 List.mem_cons_self rfl rfl (datAll_take hD i) (fun p hp => by k_memK) (datAll_at hD hx) (fun p hp => by k_memK) (fun d hd => hok d (List.mem_of_mem_take hd)) (ok_at hok i) (by ktr_units) ?_)
    refine wpAny_truthy_bool ⟨rfl, ?_⟩
    cases hb : (!decide (ds.getD i Dat.none ∈ List.take i ds)) with
    | true =>
      rw [if_pos rfl]
      k_steps
      refine ⟨_, _, [(D', _)], rfl, F3, N3, fun p hp => ?_, ?_⟩
      · rw [List.mem_singleton.mp hp]; exact l3
      · exact (datAll_at hD hx).mono fun p hp => by k_memK
    | false =>
      rw [if_neg Bool.false_ne_true]
      refine ⟨_, _, [(D', _)], rfl, F3, N3, fun p hp => ?_, trivial⟩
      rw [List.mem_singleton.mp hp]; exact l3
  case fin =>
    refine finL fun v h' tk tl F2 N2 lt2 hv => ?_
    k_steps
    rename Fr h₀ _ _ _ => kF
    rename News h₀ _ _ _ => kN
    rename (∀ p ∈ news, p.1 < _) => l1
    obtain ⟨a, its', k', e, hm', hd'⟩ := hv
    have eq : ∀ (q : Addr × Obj), tl ++ q :: news = (tl ++ [q]) ++ news := fun q => by simp
    rw [eq] at kN hm' hd'
    refine hret _ _ _ _ kF kN (fun p hp q hq => ?_) ⟨a, its', k', e, hm', ?_⟩
    · rcases List.mem_append.mp hp with hp | hp
      · exact lt2 p hp q (List.mem_cons_of_mem _ hq)
      · rw [List.mem_singleton.mp hp]; exact Nat.lt_succ_of_lt (l1 q hq)
    · unfold onceD
      rw [← hD.length]
      exact hd'

end
section
section
variable {prog : Program} {w : World} {A : Around} {E : Value → Shared → Prop} {s : Shared} {h₀ : Heap} {L : Addr} {m : PySem.Str → Option Value} {news : List (Addr × Obj)}
theorem split_txt {d : Int × Int} {t u : Tok} {Q : Value → Shared → Prop} (F : Fr h₀ L s.heap m) (N : News h₀ L s.heap news) (h1 : Sm d.1) (h2 : Sm d.2)
    (h : ∀ D t1 t2 h' k, Fr h₀ L h' m → News h₀ L h' ((D, listOf #[.str (dec d.1) t1, .str (dec d.2) t2] 0) :: news) → (∀ p ∈ news, p.1 < D) → Q (.ref D) { s with heap := h', toks := k }) :
    wpAny (model prog w) A (call (.builtin "str.split") [.str (txt d) t, .str (PySem.Str.ofString ".") u]) Q E s := by
  refine KSpl.split1 F N (by decide +kernel) (fun D l h' k e a F' N' lt => ?_) (by have := sm_txt h1 h2; rw [sizeLine_eq]; omega)
  have e2 : Txt.split (txt d) (PySem.Str.ofString ".") = [dec d.1, dec d.2] := txt_split d
  rw [e2] at e
  obtain ⟨t1, r, rfl, e'⟩ := KSpl.cons_of e
  obtain ⟨t2, r2, rfl, e''⟩ := KSpl.cons_of e'
  obtain rfl := KSpl.nil_of e''
  exact h D t1 t2 h' k F' N' lt

structure MapAt (h : Heap) (mp l : Addr) (L : Addr) (h₀ : Heap) (news : List (Addr × Obj)) (x y : Int) : Prop where
  ex : ∃ tp it t u, IsMap h mp tp it ∧ h.IsListIter it l 0 ∧ h.IsList l #[.str (dec x) t, .str (dec y) u] ∧ mp ≠ it ∧ tp ≠ it ∧ l ≠ it ∧ it ≠ L ∧ h₀.get? it = none ∧ ∀ p ∈ news, p.1 ≠ it
theorem map_call {x y : Int} {t u : Tok} {l : Addr} {Q : Value → Shared → Prop} (F : Fr h₀ L s.heap m) (N : News h₀ L s.heap news) (hm : (l, listOf #[.str (dec x) t, .str (dec y) u] 0) ∈ news)
    (h : ∀ mp h', Fr h₀ L h' m → News h₀ L h' news → MapAt h' mp l L h₀ news x y → Q (.ref mp) { s with heap := h' }) :
    wpAny (model prog w) A (call (.type "map") [.type "int", .ref l]) Q E s := by
  have hl : s.heap.IsList l #[.str (dec x) t, .str (dec y) u] := N.isList hm
  have hlt : l < s.heap.objs.size := Heap.lt_size (N _ hm).1
  refine call_map_int hl fun h' hM hI hk => h _ h' (F.keeps hk) (N.grown hk) ⟨_, _, t, u, hM, hI, let ⟨o, e, r⟩ := hl; ⟨o, hk _ _ e, r⟩, Nat.ne_of_gt (Nat.lt_add_of_pos_right (by decide)), Nat.ne_of_gt (Nat.lt_succ_self _), Nat.ne_of_lt hlt, Nat.ne_of_gt F.ns.lt, F.fresh, fun p hp => Nat.ne_of_lt (Heap.lt_size (N p hp).1)⟩
theorem map_two {x y : Int} {mp l : Addr} {Q : List Value → Shared → Prop} (F : Fr h₀ L s.heap m) (N : News h₀ L s.heap news) (M : MapAt s.heap mp l L h₀ news x y) (hh : A.handled = none) (hx : Sm x) (hy : Sm y)
    (h : ∀ h' t1 t2 tk, Fr h₀ L h' m → News h₀ L h' news → Q [.int x t1, .int y t2] { s with heap := h', toks := tk }) : wpAny (model prog w) A (unpackItems (.ref mp) 2 none) Q E s := by
  obtain ⟨tp, it, t, u, hM, hI, hl, a1, a2, a3, a4, a5, a6⟩ := M.ex
  exact map_unpack F N a5 a4 a6 hM hI hl hh hx hy a1 a2 a3 h
theorem map_assign {x y : Int} {mp l : Addr} {elts : List PySem.Expr} {k : Nat} {pos : Pos} {env : Env} {Q : Unit → Shared → Prop} (F : Fr h₀ L s.heap m) (N : News h₀ L s.heap news) (M : MapAt s.heap mp l L h₀ news x y) (hh : A.handled = none) (hx : Sm x) (hy : Sm y)
    (hn : (assignEach elts env).length = 2) (hstar : (assignEach elts env).findIdx? (·.1) = none)
    (h : ∀ h' t1 t2 tk, Fr h₀ L h' m → News h₀ L h' news → wpAny (model prog w) A (assignInOrder ((assignEach elts env).map (·.2)) [.int x t1, .int y t2]) Q E { s with heap := h', toks := tk }) :
    wpAny (model prog w) A (assign (.Tuple elts k pos) env (.ref mp)) Q E s := by
  rw [assign_Tuple]
  refine wpAny_bind (wpAny_standAt ?_)
  unfold unpack
  rw [hn, hstar]
  exact wpAny_bind (wpAny_holding (map_two F N M hh hx hy h))
end
local macro_rules | `(tactic| walk_at "call builtin:str.split") => `(tactic| (k_here; k_dflt (refine' split_txt ?F ?N ?a ?b ?_; (case F => k_asm); (case N => k_asm); (case a => assumption); (case b => assumption)); intro D' t1' t2' h' k' F' N' l1; (try k_lt l1); (try dsimp only); (try k_sweep)))
local macro_rules | `(tactic| walk_at "call type:map") => `(tactic| (k_here; k_dflt (refine' map_call ?F ?N ?m ?_; (case F => k_asm); (case N => k_asm); (case m => k_mem)); intro mp' h' F' N' M'; (try dsimp only); (try k_sweep)))
local macro_rules | `(tactic| walk_at "assign") => `(tactic| (k_here; k_dflt (refine' map_assign ?F ?N ?M ?hh ?a ?b ?hn ?hs ?_; (case F => k_asm); (case N => k_asm); (case M => assumption); (case hh => rfl); (case a => assumption); (case b => assumption); (case hn => rfl); (case hs => rfl)); intro h' t1' t2' tk' F' N'; (try dsimp only); (try k_sweep)))
set_option maxHeartbeats 8000000 in
theorem glc (w : World) (loose : List PySem.Str) (mean : ExcName → Option Value) (mg mb : PySem.Str → Option Value) (d : Int × Int) (hok1 : Sm d.1) (hok2 : Sm d.2) :
    Co w loose mean mg mb 65 1 (fun _ vs => ∃ t, vs = [.str (txt d) t]) (fun news r => ∃ a t1 t2 k, r = .ref a ∧ (a, ({ cls := .type "tuple", data := .seq #[.int d.1 t1, .int d.2 t2] k } : Obj)) ∈ news) := by
  unfold Co Con
  k_fill
  intro dp un gd cn cs a ccd cl outer A₀ base h₀ L m news s vs Q E B F X N T hk hR hd hu hret
  obtain ⟨t, rfl⟩ := hR
  refine wpAny_call ?_
  k_dflt cell_enter
  k_steps
  rename Fr h₀ _ _ _ => kF
  rename News h₀ _ _ _ => kN
  rename (∀ p ∈ news, p.1 < _) => l1
  rename (_ < _ ∧ AllLt _ _) => l2
  refine hret _ [_, _] _ _ kF kN (fun p hp q hq => ?_) ⟨_, _, _, _, rfl, List.mem_cons_self⟩
  have l3 := l1 q hq
  rcases List.mem_cons.mp hp with rfl | hp
  · exact ktn_ltOf l2.2 q hq
  · rw [List.mem_singleton.mp hp]; exact l3

end
section
section
variable {prog : Program} {w : World} {A : Around} {E : Value → Shared → Prop} {s : Shared} {h₀ : Heap} {L : Addr} {m : PySem.Str → Option Value} {news : List (Addr × Obj)}
theorem strs_at {its : List Value} {ys : List PySem.Str} (hD : DatAll news its (ys.map .str)) : ∀ (i : Nat) (v : Value), its.toArray[i]? = some v → ∃ t, v = Value.str (ys.getD i PySem.Str.empty) t := by
  intro i v hv
  have hv' : its[i]? = some v := by simpa using hv
  have d := datAll_at hD hv'
  have hi : i < ys.length := by
    have := (List.getElem?_eq_some_iff.mp hv').1
    rw [hD.length, List.length_map] at this
    exact this
  have e : (ys.map Dat.str).getD i .none = .str (ys.getD i PySem.Str.empty) := by
    rw [List.getD_eq_getElem?_getD, List.getD_eq_getElem?_getD, List.getElem?_map, List.getElem?_eq_getElem hi]; rfl
  rw [e] at d
  cases d with
  | str _ t => exact ⟨t, rfl⟩
theorem set_make {a k : Nat} {its : List Value} {ys : List PySem.Str} {Q : Value → Shared → Prop} (hh : A.handled = none) (F : Fr h₀ L s.heap m) (N : News h₀ L s.heap news) (hm : (a, listOf its.toArray k) ∈ news) (hD : DatAll news its (ys.map .str)) (hb : ys.length + 1 < scanBound)
    (h : ∀ S o h' tk, Fr h₀ L h' m → News h₀ L h' ((S, o) :: news) → (∀ p ∈ news, p.1 < S) → (∀ h' : Heap, h'.get? S = some o → SetS prog w h' S ys) → Q (.ref S) { s with heap := h', toks := tk }) :
    wpAny (model prog w) A (call (.type "set") [.ref a]) Q E s := by
  have hl : its.length = ys.length := by rw [hD.length, List.length_map]
  refine set_call hh (N.isList hm) (strs_at hD) (by simpa using hl) (by simpa [hl] using hb) fun h' tk hS hk => ?_
  obtain ⟨n, o, es, ep, t, ho, rest⟩ := hS
  have up : ∀ b o, s.heap.get? b = some o → h'.get? b = some o := fun b o e => hk b o (Heap.lt_size e) e
  refine h _ o h' tk (F.keeps up) (fun p hp => ?_) (fun p hp => Heap.lt_size (N p hp).1) fun h'' e => ⟨n, o, es, ep, t, e, rest⟩
  rcases List.mem_cons.mp hp with rfl | hp
  · exact ⟨ho, Nat.ne_of_gt F.ns.lt, F.fresh⟩
  · exact N.grown up p hp
end
local macro_rules | `(tactic| walk_at "call type:set") => `(tactic| (k_here; k_dflt (refine' set_make ?hh ?F ?N ?m ?d ?b ?_; (case hh => exact rfl); (case F => k_asm); (case N => k_asm); (case m => k_mem); (case d => assumption); (case b => assumption)); intro S' o' h' tk' F' N' l1 hS'; (try dsimp only); (try k_sweep)))
theorem contains_make {S : Addr} {o : Obj} {ys : List PySem.Str} {Q : Value → Shared → Prop} {prog : Program} {w : World} {A : Around} {E : Value → Shared → Prop} {s : Shared} {h₀ : Heap} {L : Addr} {m : PySem.Str → Option Value} {news : List (Addr × Obj)} (F : Fr h₀ L s.heap m) (N : News h₀ L s.heap news) (hm : (S, o) ∈ news) (hS : ∀ h' : Heap, h'.get? S = some o → SetS prog w h' S ys)
    (h : ∀ q h', Fr h₀ L h' m → News h₀ L h' ((q, boundObj S) :: news) → (∀ p ∈ news, p.1 < q) → Q (.ref q) { s with heap := h', toks := s.toks + 1 }) :
    wpAny (model prog w) A (getAttr (.ref S) (PySem.Str.ofString "__contains__") true) Q E s :=
  contains_getS (hS _ (N.get hm)) (h _ _ (F.push _) (N.push F _) fun p hp => Heap.lt_size (N p hp).1)
local macro_rules | `(tactic| walk_at "getAttr ref") => `(tactic| (k_here; (with_reducible show wpAny _ _ (getAttr (Value.ref _) (PySem.Str.ofString "__contains__") _) _ _ _); k_dflt (refine' contains_make ?F ?N ?m ?S ?_; (case F => k_asm); (case N => k_asm); (case m => k_mem); (case S => assumption)); intro q' h' F' N' l1; (try k_lt l1); (try dsimp only); (try k_sweep)))
theorem iter_call {l k : Nat} {its : List Value} {Q : Value → Shared → Prop} {prog : Program} {w : World} {A : Around} {E : Value → Shared → Prop} {s : Shared} {h₀ : Heap} {L : Addr} {m : PySem.Str → Option Value} {news : List (Addr × Obj)} (F : Fr h₀ L s.heap m) (N : News h₀ L s.heap news) (hm : (l, listOf its.toArray k) ∈ news)
    (h : ∀ I h', Fr h₀ L h' m → News h₀ L h' ((I, liObj l 0) :: news) → (∀ p ∈ news, p.1 < I) → Q (.ref I) { s with heap := h' }) :
    wpAny (model prog w) A (call (.builtin "iter") [.ref l]) Q E s := by
  refine Calls.call_function_entry (by decide +kernel) (by decide +kernel) kdk_entry_iter (kdk_args_iter _) ?_
  unfold Builtin.«iter»
  refine wpAny_bind (wpAny_of_eq (a := [Value.ref l]) (by first | rfl | kernel_rfl!) ?_)
  show wpAny _ _ (pyIter (.ref l) >>= _) _ _ _
  refine wpAny_bind (wpAny_pyIter_list (N.isList hm) ?_)
  exact wpAny_pure ⟨_, rfl, h _ _ (F.push _) (News.push F N _ rfl) (fun q hq => Heap.lt_size (N q hq).1)⟩
local macro_rules | `(tactic| walk_at "call builtin:iter") => `(tactic| (k_here; k_dflt (refine' iter_call ?F ?N ?m ?_; (case F => k_asm); (case N => k_asm); (case m => k_mem)); intro I' h' F' N' l1; (try k_lt l1); (try dsimp only); (try k_sweep)))
local macro_rules | `(tactic| k_all) => `(tactic| (intro p9 hp9; (rename (∀ p ∈ (_ : List (Addr × Obj)), p.1 < (_ : Addr)) => h8); have h9 := ltN (h8 p9 hp9); k_ne))
local macro_rules | `(tactic| walk_at "call ref") => `(tactic| (k_here; k_dflt (refine' call_cls ?k1 ?k2 ?k3 ?k4 ?k5 ?k6 ?_; (case k1 => k_asm); (case k2 => k_asm); (case k3 => k_asm); (case k4 => k_is); (case k5 => k_is); (case k6 => k_is); k_whole; intro x' d' h' F' N' l1 l2; (try k_lt l1); (try k_lt2 l2); (try k_sweep); cell_enter)))
abbrev ffObj (d q I : Addr) : Obj := { cls := .ref 47, dict := some d, slots := #[some (.ref q), some (.ref I)] }
abbrev ffL (I a1 i x d q S : Addr) (o : Obj) (news : List (Addr × Obj)) : List (Addr × Obj) := (I, liObj a1 i) :: (x, ffObj d q I) :: (d, dictOf [] 0) :: (q, boundObj S) :: (S, o) :: news
/-- the contract of _difference: an instance of filterfalse, whose iterator stands at the list's head -/
def Diff (w : World) (loose : List PySem.Str) (mean : ExcName → Option Value) (mg mb : PySem.Str → Option Value) (xs ys : List PySem.Str) : Prop :=
  ∀ (dp un : Nat) (gd : Option (List Code)) (cn : PySem.Str) (cs : Scope) (a : Addr) (ccd : Value) (cl : List (PySem.Str × Addr)) (outer : List Env) (A₀ : Around) (base h₀ : Heap) (L : Addr) (m : PySem.Str → Option Value) (news : List (Addr × Obj)) (s : Shared)
    (Q E : Value → Shared → Prop) (a1 a2 k1 k2 : Nat) (its1 its2 : List Value),
    Below A₀ base outer h₀ → Fr h₀ L s.heap m → (hd.heap_39 w.params).In h₀ → News h₀ L s.heap news → Top hd.view_39 loose mean mg mb h₀ → cs.kind = .function →
    (a1, listOf its1.toArray k1) ∈ news → DatAll news its1 (xs.map .str) → (a2, listOf its2.toArray k2) ∈ news → DatAll news its2 (ys.map .str) → dp + 2 < recursionLimit → un + 8 * 2 + 100 < cLine →
    (∀ I x d q S o h' tk', Fr h₀ L h' m → News h₀ L h' (ffL I a1 0 x d q S o news) → x < I → d < x → q < d → S < q → (∀ p ∈ news, p.1 < S) →
      (∀ h' : Heap, h'.get? S = some o → SetS PySem.Challenge.rw_ij0069_01.row.prog w h' S ys) → Q (.ref x) { s with heap := h', toks := tk' }) →
    wpAny (model PySem.Challenge.rw_ij0069_01.row.prog w) (ktrTop dp un gd cn cs L a ccd cl outer) (call (.ref 58) [.ref a1, .ref a2]) Q E s
set_option maxHeartbeats 8000000 in
theorem diff (w : World) (loose : List PySem.Str) (mean : ExcName → Option Value) (mg mb : PySem.Str → Option Value) (xs ys : List PySem.Str) (hb : ys.length + 1 < scanBound) : Diff w loose mean mg mb xs ys := by
  unfold Diff
  k_fill
  intro dp un gd cn cs a ccd cl outer A₀ base h₀ L m news s Q E a1 a2 k1 k2 its1 its2 B F X N T hk hm1 hD1 hm2 hD2 hd hu hret
  refine wpAny_call ?_
  k_dflt cell_enter
  k_steps
  rename Fr h₀ _ _ _ => kF
  rename News h₀ _ _ _ => kN
  rename (∀ (h' : Heap), _ → SetS _ _ _ _ _) => kS
  rename (∀ p ∈ news, p.1 < _) => l1
  refine hret _ _ _ _ _ _ _ _ kF kN ?_ ?_ ?_ ?_ l1 kS
  all_goals (show @LT.lt Nat _ _ _; omega)

end
section
set_option maxRecDepth 100000
section
variable {prog : Program} {w : World} {A : Around} {E : Value → Shared → Prop} {s : Shared}
theorem callWith_fieldsB {S : Addr} {pos : Pos} {u : Addr} {first : List Value} {args : List (Bool × Sem Value)} {Q : Value → Shared → Prop} (hplain : args.any (·.1) = false)
    (h : wpAny (model prog w) A (evalArgs (.ref u) true args []) (fun x s₁ => s₁.heap.get? u = some (boundObj S) ∧ wpAny (model prog w) A (call (.ref u) (first ++ x.pos) x.kw) Q E s₁) E s) : wpAny (model prog w) A (callWith pos (.ref u) first args []) Q E s := by
  unfold callWith
  refine wpAny_bind (wpAny_holding (wpAny_mono h (fun x s₁ h₁ => wpAny_bind (wpAny_standAt ?_)) fun _ _ x => x))
  obtain ⟨ho, hcall⟩ := h₁
  simp only [hplain, List.any_nil, Bool.or_false]
  refine wpAny_bind (m := keeperOf (.ref u)) ?_
  unfold keeperOf
  refine wpAny_bind (wpAny_load ho ?_)
  simp only [boundObj, show (Value.type "builtin_function_or_method" != Value.type "method") = true by decide, show (Value.type "builtin_function_or_method" == Value.type "builtin_function_or_method" || Value.type "builtin_function_or_method" == Value.type "method-wrapper") = true by decide, if_true]
  refine wpAny_pure ?_
  exact wpAny_bind (wpAny_mono hcall (fun r s₂ hr => wpAny_bind (wpAny_holding (wpAny_point (wpAny_pure hr)))) fun _ _ x => x)
theorem callWith_boundB {S : Addr} {pos : Pos} {u : Addr} {first : List Value} {env : Env} {e : PySem.Expr} {rest : List PySem.Expr} {Q : Value → Shared → Prop}
    (h : wpAny (model prog w) A (spliced (backTo pos (starEach (e :: rest) env))) (fun vs s₁ => s₁.heap.get? u = some (boundObj S) ∧ wpAny (model prog w) A (call (.ref u) (first ++ vs)) Q E s₁) E s)
    (he : starEach (e :: rest) env = (false, eval e env) :: starEach rest env := by rfl) (hplain : (backTo pos (starEach rest env)).any (·.1) = false := by rfl) :
    wpAny (model prog w) A (callWith pos (.ref u) first (backTo pos (starEach (e :: rest) env)) []) Q E s := by
  rw [he] at h ⊢
  refine callWith_fieldsB (S := S) (by show (false || (backTo pos (starEach rest env)).any (·.1)) = false; rw [hplain]; rfl) ?_
  exact Calls.evalArgs_plain h
end
local macro_rules | `(tactic| walk_at "exec While") => `(tactic| (refine Paused.of ?_))
local macro_rules | `(tactic| walk_at "WhlRest") => `(tactic| (refine Paused.of ?_))
/-- what a call of filterfalse.__next__ gives: the next one off the set, or the raise -/
def NextC (w : World) (loose : List PySem.Str) (mean : ExcName → Option Value) (mg mb : PySem.Str → Option Value) (xs ys : List PySem.Str) : Prop :=
  ∀ (A A₀ : Around) (env : Env) (outer : List Env) (base h₀ : Heap) (L : Addr) (m : PySem.Str → Option Value) (news : List (Addr × Obj)) (s : Shared) (Q E : Value → Shared → Prop) (I a1 x d q S : Addr) (o : Obj) (k1 i : Nat) (its : List Value),
    Below A₀ base outer h₀ → Fr h₀ L s.heap m → (hd.heap_39 w.params).In h₀ → News h₀ L s.heap (ffL I a1 i x d q S o news) → Top hd.view_39 loose mean mg mb h₀ →
    A.frames = some (env :: outer) → env.frame = some L → env.scope.kind = .function → A.depth < recursionLimit → A.handled = none →
    (∀ p ∈ (x, ffObj d q I) :: (d, dictOf [] 0) :: (q, boundObj S) :: (S, o) :: news, p.1 ≠ I) →
    (a1, listOf its.toArray k1) ∈ news → (∀ (i : Nat) (v : Value), its[i]? = some v → ∃ t, v = Value.str (xs.getD i PySem.Str.empty) t) →
    (∀ h' : Heap, h'.get? S = some o → SetS PySem.Challenge.rw_ij0069_01.row.prog w h' S ys) →
    (∀ j v h' tk, i ≤ j → (∀ l, i ≤ l → l < j → xs.getD l PySem.Str.empty ∈ ys) → its[j]? = some v → xs.getD j PySem.Str.empty ∉ ys → Fr h₀ L h' m → News h₀ L h' (ffL I a1 (j + 1) x d q S o news) → Q v { s with heap := h', toks := tk }) →
    (∀ g j e h' tk, (∀ l, i ≤ l → l < its.length → xs.getD l PySem.Str.empty ∈ ys) → RaisedN base (env :: outer) e (.type "StopIteration") ((I, liEnd j) :: (x, ffObj d q I) :: (d, dictOf [] 0) :: (q, boundObj S) :: (S, o) :: news) h' → Fr h₀ L g m → g.UpToSlots h' → E (.ref e) { s with heap := h', toks := tk }) →
    wpAny (model PySem.Challenge.rw_ij0069_01.row.prog w) A (call (.ref 43) [.ref x]) Q E s
set_option maxHeartbeats 8000000 in
theorem ff_next (w : World) (loose : List PySem.Str) (mean : ExcName → Option Value) (mg mb : PySem.Str → Option Value) (xs ys : List PySem.Str) : NextC w loose mean mg mb xs ys := by
  unfold NextC
  k_fill
  intro A A₀ env outer base h₀ L m news s Q E I a1 x d q S o k1 i its B F X N T hA hf hke hroom hh hI hm1 hD1 hS hQ hE
  refine wpAny_call ?_
  refine' code_def B F X N T hA hf hke ?k6 ?k7 hroom ?k9 ?kB ?_ ?c2 ?c3 ?c4 ?c5
  case k6 => k_is
  case k7 => k_is
  case k9 => exact BindsTo.of_eq rfl
  case c5 => decide
  case kB => exact locs rfl
  case c2 => exact rfl
  case c3 => exact rfl
  case c4 => exact rfl
  k_whole
  intro g' L' h' FG' F' N' B' X' T'
  try dsimp only
  try k_fold
  k_steps
  unfold Paused
  rename Fr g' _ _ _ => F1
  rename News g' _ _ _ => N1
  have F2 : Fr g' L' _ (fun y => if y = "item" then none else if y = "func" then some (Value.ref q) else if y = "self" then some (.ref x) else none) := fr_same F1 fun y => by
    by_cases h1 : y = "item"
    · subst h1; rfl
    by_cases h2 : y = "func"
    · subst h2; rfl
    by_cases h3 : y = "self"
    · subst h3; rfl
    rw [if_neg h1, if_neg h2, if_neg h3, if_neg h2]
    show List.lookup y [("self", Value.ref x)] = none
    simp only [List.lookup, beq_eq_false_iff_ne.mpr (show y ≠ PySem.Str.ofString "self" from h3)]
  refine while_ind (fun n s' => ∃ i' it h tk, n = its.length - i' ∧ i ≤ i' ∧ (∀ l, i ≤ l → l < i' → xs.getD l PySem.Str.empty ∈ ys) ∧ s' = { s with heap := h, toks := tk } ∧
    Fr g' L' h (fun y => if y = "item" then it else if y = "func" then some (Value.ref q) else if y = "self" then some (.ref x) else none) ∧ News g' L' h (ffL I a1 i' x d q S o news)) (its.length - i) ⟨i, none, _, _, rfl, Nat.le_refl _, fun l h1 h2 => absurd h2 (Nat.not_lt.mpr h1), rfl, F2, N1⟩ PassesOwn.leaving ?_
  rintro n _ ⟨i', it, h, tk, rfl, hi', hal, rfl, F3, N3⟩ ih
  clear F1 F2 N1
  try dsimp only
  k_steps
  have hm2 : (a1, listOf its.toArray k1) ∈ (x, ffObj d q I) :: (d, dictOf [] 0) :: (q, boundObj S) :: (S, o) :: news := List.mem_cons_of_mem _ (List.mem_cons_of_mem _ (List.mem_cons_of_mem _ (List.mem_cons_of_mem _ hm1)))
  cases hv : its[i']? with
  | none =>
    have hle : its.length ≤ i' := List.getElem?_eq_none_iff.mp hv
    refine next_end F3 N3 hh hI hm2 hv fun h₁ h₂ e F4 N4 hx => ?_
    show wpAny _ _ (leaving _ _) _ _ _
    exact leave_newK B' hx F4 N4 fun h₃ R U => hE g' i' e h₃ _ (fun l h1 h2 => hal l h1 (Nat.lt_of_lt_of_le h2 hle)) R FG' U
  | some v =>
    obtain ⟨t, rfl⟩ := hD1 i' v hv
    have hlt : i' < its.length := (List.getElem?_eq_some_iff.mp hv).1
    refine next_item F3 N3 hI hm2 hv fun h₁ F4 N4 => ?_
    clear F3 N3
    k_steps
    refine callWith_boundB (S := S) ?_
    k_steps
    · rename News g' _ _ _ => N5
      exact N5.get (List.mem_cons_of_mem _ (List.mem_cons_of_mem _ (List.mem_cons_of_mem _ List.mem_cons_self)))
    rename News g' _ _ _ => N5
    refine bound_call (a := S) (ys := ys) (N5.get (List.mem_cons_of_mem _ (List.mem_cons_of_mem _ (List.mem_cons_of_mem _ List.mem_cons_self)))) (hS _ (N5.get (List.mem_cons_of_mem _ (List.mem_cons_of_mem _ (List.mem_cons_of_mem _ (List.mem_cons_of_mem _ List.mem_cons_self)))))) ?_
    by_cases hin : xs.getD i' PySem.Str.empty ∈ ys
    · rw [decide_eq_true hin]
      k_steps
      unfold Paused
      rename Fr g' _ _ _ => F5
      rename News g' _ _ _ => N5
      refine ih (its.length - (i' + 1)) _ (Nat.sub_lt_sub_left hlt (Nat.lt_succ_self _)) ⟨i' + 1, some (.str (xs.getD i' PySem.Str.empty) t), _, _, rfl, Nat.le_succ_of_le hi', fun l h1 h2 => ?_, rfl, fr_same F5 fun y => ?_, N5⟩
      · rcases Nat.lt_or_ge l i' with h3 | h3
        · exact hal l h1 h3
        · rw [show l = i' by omega]; exact hin
      · by_cases h1 : y = "item"
        · rw [if_pos h1, if_pos h1]
        · rw [if_neg h1, if_neg h1, if_neg h1]
    · rw [decide_eq_false hin]
      k_steps
      rename Fr h₀ _ _ _ => F5
      rename News h₀ _ _ _ => N5
      exact hQ i' _ _ _ hi' hal hv hin F5 N5

end
section
set_option maxRecDepth 100000
/-- the heap's head -/
def trunc (h : Heap) (n : Nat) : Heap := ⟨h.objs.extract 0 n, h.life⟩
theorem trunc_get {h : Heap} {n b : Nat} (hb : b < n) : (trunc h n).get? b = h.get? b := by
  unfold Heap.get? trunc
  dsimp only
  rw [Array.getElem?_extract]
  by_cases h1 : b < h.objs.size
  · rw [if_pos (by simp; omega), Nat.zero_add]
  · rw [if_neg (by simp; omega)]
    rw [Array.getElem?_eq_none (by omega)]
theorem trunc_size (h : Heap) (n : Nat) : (trunc h n).objs.size ≤ n := by unfold trunc; simp; omega
/-- after a raise that has been caught: a new base, that holds the frames as they are now -/
theorem rebase {A₀ : Around} {base h₀ g h' : Heap} {env : Env} {outer : List Env} {L e : Addr} {cls : Value} {m : PySem.Str → Option Value} {nw : List (Addr × Obj)} (B : Below A₀ base outer h₀) (F : Fr h₀ L g m)
    (R : RaisedN base (env :: outer) e cls nw h') (U : g.UpToSlots h') (hnw : ∀ p ∈ nw, p.1 ≠ L ∧ h₀.get? p.1 = none) :
    ∃ h₁ : Heap, Fr h₁ L h' m ∧ News h₁ L h' nw ∧ Below A₀ base outer h₁ ∧ base.StaysIn h₁ ∧ h₀.UpToSlots h₁ := by
  obtain ⟨C, a0, hC, hl, hfl⟩ := R
  have hup : h₀.UpToSlots h' := (Heap.UpToSlots.of_keeps F.keep).trans U
  have inv : ∀ b o, (hideAll (trunc h' h₀.objs.size) (nw.map (·.1))).get? b = some o → h'.get? b = some o := fun b o q => by
    have q1 := of_hideAll _ q
    have q2 : b < h₀.objs.size := Nat.lt_of_lt_of_le (Heap.lt_size q1) (trunc_size _ _)
    rw [trunc_get q2] at q1; exact q1
  have here : ∀ b o, b < h₀.objs.size → b ∉ nw.map (·.1) → h'.get? b = some o → (hideAll (trunc h' h₀.objs.size) (nw.map (·.1))).get? b = some o := fun b o q1 q2 q3 =>
    hideAll_get _ ((trunc_get q1).trans q3) q2
  have off : ∀ b o, h₀.get? b = some o → b ∉ nw.map (·.1) := fun b o q hb => by
    obtain ⟨p, hp, rfl⟩ := List.mem_map.mp hb
    rw [(hnw p hp).2] at q; cases q
  have sm : h₀.UpToSlots (hideAll (trunc h' h₀.objs.size) (nw.map (·.1))) := fun b o q hf => by
    obtain ⟨sl, hs⟩ := hup b o q hf
    exact ⟨sl, here b _ (Heap.lt_size q) (off b o q) hs⟩
  have st : base.StaysIn (hideAll (trunc h' h₀.objs.size) (nw.map (·.1))) := fun b o q => by
    have q1 := B.stays b o q
    exact here b o (Heap.lt_size q1) (off b o q1) (hfl.1 b o (hC b o q))
  refine ⟨hideAll (trunc h' h₀.objs.size) (nw.map (·.1)), ⟨U.ns F.ns, inv, ?_⟩, fun p hp => ⟨hfl.1 _ _ (hl p hp).1, (hnw p hp).1, hideAll_none _ (List.mem_map_of_mem hp)⟩, ⟨B.stack, st, ?_⟩, st, sm⟩
  · rw [hideAll_size]; exact Nat.le_trans (trunc_size _ _) F.above
  · exact B.frames.of_keeps fun b o q hf => let ⟨sl, hs⟩ := sm b o q hf; ⟨_, hs, rfl⟩
set_option maxHeartbeats 8000000 in
theorem ff_iter (w : World) (loose : List PySem.Str) (mean : ExcName → Option Value) (mg mb : PySem.Str → Option Value) :
    ∀ (A A₀ : Around) (env : Env) (outer : List Env) (base h₀ : Heap) (L : Addr) (m : PySem.Str → Option Value) (news : List (Addr × Obj)) (s : Shared) (Q E : Value → Shared → Prop) (x : Addr),
    Below A₀ base outer h₀ → Fr h₀ L s.heap m → (hd.heap_39 w.params).In h₀ → News h₀ L s.heap news → Top hd.view_39 loose mean mg mb h₀ →
    A.frames = some (env :: outer) → env.frame = some L → env.scope.kind = .function → A.depth < recursionLimit →
    (∀ h' tk, Fr h₀ L h' m → News h₀ L h' news → Q (.ref x) { s with heap := h', toks := tk }) →
    wpAny (model PySem.Challenge.rw_ij0069_01.row.prog w) A (call (.ref 36) [.ref x]) Q E s := by
  k_fill
  intro A A₀ env outer base h₀ L m news s Q E x B F X N T hA hf hke hroom hQ
  refine wpAny_call ?_
  refine' code_def B F X N T hA hf hke ?k6 ?k7 hroom ?k9 ?kB ?_ ?c2 ?c3 ?c4 ?c5
  case k6 => k_is
  case k7 => k_is
  case k9 => exact BindsTo.of_eq rfl
  case c5 => decide
  case kB => exact locs rfl
  case c2 => exact rfl
  case c3 => exact rfl
  case c4 => exact rfl
  k_whole
  intro g' L' h' FG' F' N' B' X' T'
  try dsimp only
  try k_fold
  k_steps
  rename Fr h₀ _ _ _ => F5
  rename News h₀ _ _ _ => N5
  exact hQ _ _ F5 N5

end
section
set_option maxRecDepth 100000
theorem ff_find (w : World) : findIn (hd.heap_39 w.params) (.ref 47) "__next__" = some (some (.ref 43)) ∧ isFn (hd.heap_39 w.params) (.ref 43) = true ∧ findIn (hd.heap_39 w.params) (.ref 47) "__iter__" = some (some (.ref 36)) ∧ isFn (hd.heap_39 w.params) (.ref 36) = true ∧
    findIn (hd.heap_39 w.params) (.ref 47) "__len__" = some none ∧ findIn (hd.heap_39 w.params) (.ref 47) "__length_hint__" = some none ∧ PySem.Challenge.rw_ij0069_01 = PySem.Challenge.rw_ij0069_01 := by
  k_fill
  refine ⟨?_, ?_, ?_, ?_, ?_, ?_, rfl⟩
  all_goals k_is
/-- those of xs that are not among ys -/
def offS (xs ys : List PySem.Str) : List PySem.Str := xs.filter fun z => !decide (z ∈ ys)
theorem offS_skip {xs ys : List PySem.Str} {i : Nat} : ∀ (k j : Nat), j - i = k → i ≤ j → j ≤ xs.length → (∀ l, i ≤ l → l < j → xs.getD l PySem.Str.empty ∈ ys) → offS (xs.take j) ys = offS (xs.take i) ys
  | 0, j, hk, h1, h2, h => by rw [show j = i by omega]
  | k + 1, j, hk, h1, h2, h => by
    obtain ⟨j', rfl⟩ : ∃ j', j = j' + 1 := ⟨j - 1, by omega⟩
    have hlt : j' < xs.length := by omega
    have hm := h j' (by omega) (by omega)
    rw [List.getD_eq_getElem?_getD, List.getElem?_eq_getElem hlt] at hm
    have e : xs.take (j' + 1) = xs.take j' ++ [xs[j']] := by rw [List.take_add_one, List.getElem?_eq_getElem hlt]; rfl
    rw [e]
    unfold offS
    rw [List.filter_append]
    have ih : offS (xs.take j') ys = offS (xs.take i) ys := offS_skip k j' (by omega) (by omega) (by omega) fun l a b => h l a (by omega)
    unfold offS at ih
    rw [ih]
    simp only [Option.getD_some] at hm
    simp [hm]
theorem offS_take {xs ys : List PySem.Str} {j : Nat} (hlt : j < xs.length) (h : xs.getD j PySem.Str.empty ∉ ys) : offS (xs.take (j + 1)) ys = offS (xs.take j) ys ++ [xs.getD j PySem.Str.empty] := by
  have e : xs.take (j + 1) = xs.take j ++ [xs[j]] := by rw [List.take_add_one, List.getElem?_eq_getElem hlt]; rfl
  have g : xs.getD j PySem.Str.empty = xs[j] := by rw [List.getD_eq_getElem?_getD, List.getElem?_eq_getElem hlt]; rfl
  rw [g] at h ⊢
  rw [e]
  unfold offS
  rw [List.filter_append]
  simp [h]
section
variable {w : World} {loose : List PySem.Str} {mean : ExcName → Option Value} {mg mb : PySem.Str → Option Value} {xs ys : List PySem.Str} {A₀ : Around} {env : Env} {outer : List Env} {base h₀ : Heap} {L : Addr} {m : PySem.Str → Option Value} {news : List (Addr × Obj)}
  {I a1 x d q S D : Addr} {o : Obj} {k1 : Nat} {its : List Value}
theorem ff_stop {M : Model} {A : Around} {Q : Option Value → Shared → Prop} {E : Value → Shared → Prop} {s : Shared} {e : Addr} {l : List Env} {nw : List (Addr × Obj)} (R : RaisedN base l e (.type "StopIteration") nw s.heap) (k : Q none s) : OwitStop M A Q E (.ref e) s := by
  obtain ⟨C, a0, hC, hl, hfl⟩ := R
  obtain ⟨ob, hob, hobc⟩ := hfl.there
  have hT : s.TypeIs (.ref e) "StopIteration" := (show ∃ o, s.heap.get? e = some o ∧ o.cls = .type "StopIteration" from ⟨ob, hob, hobc⟩)
  unfold OwitStop
  refine wpAny_isInstance hT (by first | rfl | kernel_rfl | decide) ?_
  show (if true = true then Q none s else E (.ref e) s)
  rw [if_pos rfl]
  exact k
theorem ff_inst {h : Heap} {i : Nat} (N : News h₀ L h (ffL I a1 i x d q S o news)) : InstAt h x (ffObj d q I) 47 (some (dictOf [] 0)) where
  at_ := (N _ (List.mem_cons_of_mem _ List.mem_cons_self)).1
  cls := rfl
  no := rfl
  dict := (N _ (List.mem_cons_of_mem _ (List.mem_cons_of_mem _ List.mem_cons_self))).1
theorem ff_loop (hN : NextC w loose mean mg mb xs ys) (B : Below A₀ base outer h₀) (X : (hd.heap_39 w.params).In h₀) (T : Top hd.view_39 loose mean mg mb h₀) (hf : env.frame = some L) (hke : env.scope.kind = .function)
    (hI : ∀ p ∈ (x, ffObj d q I) :: (d, dictOf [] 0) :: (q, boundObj S) :: (S, o) :: news, p.1 ≠ I) (hDn : ∀ p ∈ (I, liEnd 0) :: (x, ffObj d q I) :: (d, dictOf [] 0) :: (q, boundObj S) :: (S, o) :: news, p.1 ≠ D)
    (hm1 : (a1, listOf its.toArray k1) ∈ news) (hD1 : DatAll news its (xs.map .str)) (hS : ∀ h' : Heap, h'.get? S = some o → SetS PySem.Challenge.rw_ij0069_01.row.prog w h' S ys) (hz : its.length < sizeLine) {res : Value} :
    ∀ (k i : Nat) (A : Around) (s : Shared) (acc : List Value) (c : Nat) (R : Result → Shared → Prop), its.length - i = k → i ≤ its.length → A.frames = some (env :: outer) → A.depth < recursionLimit → A.handled = none →
    Fr h₀ L s.heap m → News h₀ L s.heap (ffL I a1 i x d q S o ((D, listOf acc.toArray c) :: news)) → acc.length ≤ i → DatAll news acc ((offS (xs.take i) ys).map .str) →
    (∀ g j e h' tk acc c, DatAll news acc ((offS xs ys).map .str) → RaisedN base (env :: outer) e (.type "StopIteration") ((I, liEnd j) :: (x, ffObj d q I) :: (d, dictOf [] 0) :: (q, boundObj S) :: (S, o) :: (D, listOf acc.toArray c) :: news) h' →
      Fr h₀ L g m → g.UpToSlots h' → R (.ok (.ret res)) { s with heap := h', toks := tk }) →
    codeAny (model PySem.Challenge.rw_ij0069_01.row.prog w) A (.builtin "list.extend.loop" ⟨[.ref D, .ref x, res], []⟩) R s := by
  have hlen : its.length = xs.length := by rw [hD1.length, List.length_map]
  have hdat : ∀ (i : Nat) (v : Value), its[i]? = some v → ∃ t, v = Value.str (xs.getD i PySem.Str.empty) t := fun i v hv => strs_at hD1 i v (by simpa using hv)
  intro k
  induction k using Nat.strongRecOn with
  | _ k ih =>
  intro i A s acc c R hk hi hA hroom hh F N hal hacc hR
  refine codeAny_builtin PySem.F.entry_extend_loop ?_
  rw [Around.under_plainId PySem.F.plain_extend_loop _]
  show wpAny _ A.in1 (pyNext (.ref x) >>= _) _ _ s
  refine wpAny_bind (owit_next F X (ff_inst N) (f := 43) ?_ ?_ (hN A.in1 A₀ env outer base h₀ L m _ s _ _ I a1 x d q S o k1 i its B F X N T hA hf hke hroom hh ?_ ?_ hdat hS ?_ ?_))
  · exact (ff_find w).1
  · exact (ff_find w).2.1
  · intro p hp
    rcases List.mem_cons.mp hp with rfl | hp
    · exact hI _ List.mem_cons_self
    rcases List.mem_cons.mp hp with rfl | hp
    · exact hI _ (List.mem_cons_of_mem _ List.mem_cons_self)
    rcases List.mem_cons.mp hp with rfl | hp
    · exact hI _ (List.mem_cons_of_mem _ (List.mem_cons_of_mem _ List.mem_cons_self))
    rcases List.mem_cons.mp hp with rfl | hp
    · exact hI _ (List.mem_cons_of_mem _ (List.mem_cons_of_mem _ (List.mem_cons_of_mem _ List.mem_cons_self)))
    rcases List.mem_cons.mp hp with rfl | hp
    · exact (hDn (I, liEnd 0) List.mem_cons_self).symm
    · exact hI _ (List.mem_cons_of_mem _ (List.mem_cons_of_mem _ (List.mem_cons_of_mem _ (List.mem_cons_of_mem _ hp))))
  · exact List.mem_cons_of_mem _ hm1
  · intro j v h' tk hij hskip hv hout F' N'
    have hj : j < its.length := (List.getElem?_eq_some_iff.mp hv).1
    show wpAny _ A.in1 (updateSeq D (·.push v) >>= _) _ _ _
    have hDm : (D, listOf acc.toArray c) ∈ ffL I a1 (j + 1) x d q S o ((D, listOf acc.toArray c) :: news) := List.mem_cons_of_mem _ (List.mem_cons_of_mem _ (List.mem_cons_of_mem _ (List.mem_cons_of_mem _ (List.mem_cons_of_mem _ List.mem_cons_self))))
    have hDg := N' _ hDm
    have hsame : Heap.SameBut D h' (h'.update D (Obj.mapSeq (·.push v))) := Heap.SameBut.update ..
    have hget := Heap.get?_update_self (Obj.mapSeq (·.push v)) hDg.1 rfl
    have F'' : Fr h₀ L (h'.update D (Obj.mapSeq (·.push v))) m := F'.change hsame hDg.2.1 hDg.2.2
    have N'' : News h₀ L (h'.update D (Obj.mapSeq (·.push v))) (ffL I a1 (j + 1) x d q S o ((D, listOf (acc ++ [v]).toArray (if (acc.toArray.push v).size == acc.toArray.size then c else c + 1)) :: news)) := by
      refine News.setIn (own := [(I, liObj a1 (j + 1)), (x, ffObj d q I), (d, dictOf [] 0), (q, boundObj S), (S, o)]) N' ?_ ?_ hsame ?_
      · intro p hp
        rcases List.mem_cons.mp hp with rfl | hp
        · exact hDn (I, liEnd 0) List.mem_cons_self
        · refine hDn _ (List.mem_cons_of_mem _ ?_)
          exact List.mem_append_left news hp
      · intro p hp
        exact hDn _ (List.mem_cons_of_mem _ (List.mem_cons_of_mem _ (List.mem_cons_of_mem _ (List.mem_cons_of_mem _ (List.mem_cons_of_mem _ hp)))))
      · have e : (acc ++ [v]).toArray = acc.toArray.push v := (List.push_toArray ..).symm
        rw [e]; exact hget
    refine wpAny_bind (wpAny_updateSeq hDg.1 rfl (wpAny_pure ⟨plainId_quiet PySem.F.plain_extend_loop _, ?_⟩) ?_ ?_)
    · refine ih (its.length - (j + 1)) (by omega) (j + 1) A _ (acc ++ [v]) _ R rfl hj hA hroom hh F'' N'' (by rw [List.length_append]; show acc.length + 1 ≤ j + 1; omega) ?_ hR
      rw [offS_take (by omega) hout, offS_skip _ j rfl hij (by omega) hskip, List.map_append]
      obtain ⟨t, rfl⟩ := hdat j v hv
      exact hacc.append (DatAll.one (DatIn.str _ t))
    · rw [List.size_toArray]; omega
    · simp only [Array.size_push, List.size_toArray]; omega
  · intro g j e h' tk hskip R' F' U
    refine ff_stop R' ?_
    refine wpAny_pure (hR g j e h' tk acc c ?_ R' F' U)
    rw [← offS_skip _ its.length rfl hi (by omega) hskip, hlen, List.take_length] at hacc
    exact hacc
end

end
section
set_option maxRecDepth 100000
section
variable {w : World} {loose : List PySem.Str} {mean : ExcName → Option Value} {mg mb : PySem.Str → Option Value} {xs ys : List PySem.Str} {A A₀ : Around} {env : Env} {outer : List Env} {base h₀ : Heap} {L : Addr} {m : PySem.Str → Option Value} {news : List (Addr × Obj)}
  {I a1 x d q S D : Addr} {o : Obj} {k1 : Nat} {its : List Value} {s : Shared}
theorem ff_perm {h : Heap} {i : Nat} {u : Obj} (N : News h₀ L h ((D, u) :: ffL I a1 i x d q S o news)) : News h₀ L h (ffL I a1 i x d q S o ((D, u) :: news)) := fun p hp => by
  refine N p ?_
  simp only [List.mem_cons] at hp ⊢
  rcases hp with h | h | h | h | h | h | h
  · exact .inr (.inl h)
  · exact .inr (.inr (.inl h))
  · exact .inr (.inr (.inr (.inl h)))
  · exact .inr (.inr (.inr (.inr (.inl h))))
  · exact .inr (.inr (.inr (.inr (.inr (.inl h)))))
  · exact .inl h
  · exact .inr (.inr (.inr (.inr (.inr (.inr h)))))
theorem front_upd {h : Heap} {u u' : Obj} {f : Obj → Obj} {rest : List (Addr × Obj)} (F : Fr h₀ L h m) (N : News h₀ L h ((D, u) :: rest)) (hd : ∀ p ∈ rest, p.1 ≠ D) (hg : (h.update D f).get? D = some u') : Fr h₀ L (h.update D f) m ∧ News h₀ L (h.update D f) ((D, u') :: rest) :=
  ⟨F.change (Heap.SameBut.update h D f) (N _ List.mem_cons_self).2.1 (N _ List.mem_cons_self).2.2, News.setIn (own := []) N (fun _ hp => absurd hp List.not_mem_nil) hd (Heap.SameBut.update h D f) hg⟩
set_option maxHeartbeats 1600000 in
theorem ff_list (hN : NextC w loose mean mg mb xs ys) {Q E : Value → Shared → Prop} (B : Below A₀ base outer h₀) (Xb : (hd.heap_39 w.params).In base) (Tb : Top hd.view_39 loose mean mg mb base) (F : Fr h₀ L s.heap m) (N : News h₀ L s.heap (ffL I a1 0 x d q S o news))
    (hA : A.frames = some (env :: outer)) (hf : env.frame = some L) (hke : env.scope.kind = .function) (hroom : A.depth < recursionLimit) (hh : A.handled = none)
    (l1 : x < I) (l2 : d < x) (l3 : q < d) (l4 : S < q) (l5 : ∀ p ∈ news, p.1 < S)
    (hm1 : (a1, listOf its.toArray k1) ∈ news) (hD1 : DatAll news its (xs.map .str)) (hS : ∀ h' : Heap, h'.get? S = some o → SetS PySem.Challenge.rw_ij0069_01.row.prog w h' S ys) (hz : its.length < sizeLine)
    (hQ : ∀ h₁ D acc c h' tk, Fr h₁ L h' m → News h₁ L h' ((D, listOf (List.toArray acc) c) :: news) → (∀ p ∈ news, p.1 < D) → DatAll news acc ((offS xs ys).map .str) → Below A₀ base outer h₁ → base.StaysIn h₁ → h₀.UpToSlots h₁ → Q (.ref D) { s with heap := h', toks := tk }) :
    wpAny (model PySem.Challenge.rw_ij0069_01.row.prog w) A (call (.type "list") [.ref x]) Q E s := by
  have X := Xb.keeps B.stays
  have T := Tb.keeps B.stays
  have hsz : ∀ p ∈ ffL I a1 0 x d q S o news, p.1 < s.heap.objs.size := fun p hp => Heap.lt_size (N p hp).1
  have hI : ∀ p ∈ (x, ffObj d q I) :: (d, dictOf [] 0) :: (q, boundObj S) :: (S, o) :: news, p.1 ≠ I := fun p hp => by
    simp only [List.mem_cons] at hp
    have l1 := ltN l1; have l2 := ltN l2; have l3 := ltN l3; have l4 := ltN l4
    rcases hp with rfl | rfl | rfl | rfl | hp
    · exact Nat.ne_of_lt l1
    · exact neN (by dsimp only; omega)
    · exact neN (by dsimp only; omega)
    · exact neN (by dsimp only; omega)
    · have l5 := ltN (l5 p hp); exact neN (by omega)
  have hDn : ∀ p ∈ (I, liEnd 0) :: (x, ffObj d q I) :: (d, dictOf [] 0) :: (q, boundObj S) :: (S, o) :: news, p.1 ≠ s.heap.objs.size := fun p hp => by
    rcases List.mem_cons.mp hp with rfl | hp
    · exact Nat.ne_of_lt (hsz (I, liObj a1 0) List.mem_cons_self)
    · exact Nat.ne_of_lt (hsz p (List.mem_cons_of_mem _ hp))
  refine callType_codes (Q₁ := fun obj s₁ => obj = .ref s.heap.objs.size ∧ s₁ = { s with heap := s.heap.push { cls := .type "list", data := .seq #[] } }) PySem.F.called_list (PySem.F.typeCall_list_1 _) PySem.F.entry_list_init
    (code_list_new _ ⟨rfl, rfl⟩) fun obj s₁ h₁ => ?_
  obtain ⟨rfl, rfl⟩ := h₁
  have F1 := F.push { cls := .type "list", data := .seq #[] }
  have N1 := N.push F { cls := .type "list", data := .seq #[] }
  have hS1 : (s.heap.push { cls := .type "list", data := .seq #[] }).get? s.heap.objs.size = some { cls := .type "list", data := .seq #[] } := Heap.get?_push_size _ rfl
  refine ⟨⟨_, hS1, rfl⟩, PySem.F.args_list_init_2 _ _, ?_⟩
  show wpAny _ A.in1.in1 (do let old ← Builtin.List.listItems (.ref s.heap.objs.size); Builtin.List.listUpdate (.ref s.heap.objs.size) (fun _ => #[]); letGo old.toList.reverse; Builtin.List.listExtendWith (.ref s.heap.objs.size) (.ref x) .none) _ _ _
  refine wpAny_bind ?_
  unfold Builtin.List.listItems
  refine wpAny_bind (wpAny_seqItems hS1 rfl (wpAny_pure ?_))
  show wpAny _ A.in1.in1 (updateSeq s.heap.objs.size (fun _ => #[]) >>= fun _ => letGo (#[] : Array Value).toList.reverse >>= fun _ => Builtin.List.listExtendWith (.ref s.heap.objs.size) (.ref x) .none) _ _ _
  refine wpAny_bind (wpAny_updateSeq hS1 rfl ?_)
  have hS2 := Heap.get?_update_self (Obj.mapSeq (fun _ => (#[] : Array Value))) hS1 rfl
  have hne : ∀ p ∈ ffL I a1 0 x d q S o news, p.1 ≠ s.heap.objs.size := fun p hp => Nat.ne_of_lt (hsz p hp)
  obtain ⟨F2, N2⟩ := front_upd F1 N1 hne hS2
  refine wpAny_bind (wpAny_letGo ?_)
  have I2 := ff_inst (ff_perm N2)
  have hx : x ≠ s.heap.objs.size := hne (x, ffObj d q I) (List.mem_cons_of_mem _ List.mem_cons_self)
  unfold Builtin.List.listExtendWith
  refine wpAny_bind (I2.type.here ?_)
  have h1 : Builtin.List.listSameRef (.ref s.heap.objs.size) (.ref x) = false := by simp [Builtin.List.listSameRef, Ne.symm hx]
  have h2 : (Value.ref 47 == Value.type "list") = false := by decide
  have h3 : (Value.ref 47 == Value.type "tuple") = false := by decide
  simp only [h1, h2, h3, Bool.or_false, Bool.false_eq_true, if_false]
  refine wpAny_bind (owit_iter F2 X I2 (f := 36) (ff_find w).2.2.1 (ff_find w).2.2.2.1 ?_)
  refine ff_iter w loose mean mg mb _ A₀ env outer base h₀ L m _ _ _ _ x B F2 X N2 T hA hf hke hroom fun h' tk F3 N3 => ?_
  refine owit_it F3 X (ff_inst (ff_perm N3)) (ff_find w).1 ?_
  refine wpAny_bind (wpAny_holding ?_)
  unfold Builtin.List.listLengthHint
  show wpAny _ A.in1.in1 (specialOf (Value.ref x) "__len__" >>= _) _ _ _
  have I3 := ff_inst (ff_perm N3)
  refine wpAny_bind (wpAny_bind (I3.type.here ((looks_findIn (X.keeps F3.keep) (ff_find w).2.2.2.2.1).here ?_)))
  refine wpAny_bind (wpAny_bind (I3.type.here ((looks_findIn (X.keeps F3.keep) (ff_find w).2.2.2.2.2.1).here ?_)))
  refine wpAny_pure ?_
  show wpAny _ A.in1.in1 (rule "list.extend.makes-room" >>= fun _ => Builtin.List.listTouch (.ref s.heap.objs.size) >>= fun _ =>
    again (.builtin "list.extend.loop" ⟨[.ref s.heap.objs.size, .ref x, .none], []⟩)) _ _ _
  refine wpAny_bind (wpAny_rule ?_)
  refine wpAny_bind ?_
  show wpAny _ A.in1.in1 (updateSeq s.heap.objs.size (·.push .none) >>= fun _ => updateSeq s.heap.objs.size (·.pop)) _ _ _
  have g3 := (N3 _ List.mem_cons_self).1
  refine wpAny_bind (wpAny_updateSeq g3 rfl ?_)
  have g4 := Heap.get?_update_self (Obj.mapSeq (·.push Value.none)) g3 rfl
  obtain ⟨F4, N4⟩ := front_upd F3 N3 hne g4
  refine wpAny_updateSeq (hz := by seq_fits) g4 rfl ?_
  have g5 := Heap.get?_update_self (Obj.mapSeq (·.pop)) g4 rfl
  obtain ⟨F5, N5⟩ := front_upd F4 N4 hne g5
  refine wpAny_pure ⟨plainId_quiet PySem.F.plain_extend_loop _, ?_⟩
  refine ff_loop hN B X T hf hke hI hDn hm1 hD1 hS hz its.length 0 A.in1 _ [] _ _ rfl (Nat.zero_le _) hA hroom hh F5 (ff_perm N5) (Nat.le_refl _) DatAll.nil fun g j e h' tk acc c hacc R F' U => ?_
  refine ⟨rfl, ?_⟩
  have off : ∀ p ∈ (I, liEnd j) :: (x, ffObj d q I) :: (d, dictOf [] 0) :: (q, boundObj S) :: (S, o) :: (s.heap.objs.size, listOf acc.toArray c) :: news, p.1 ≠ L ∧ h₀.get? p.1 = none := fun p hp => by
    simp only [List.mem_cons] at hp
    rcases hp with rfl | rfl | rfl | rfl | rfl | rfl | hp
    · exact (N (I, liObj a1 0) (by simp)).2
    · exact (N (x, ffObj d q I) (by simp)).2
    · exact (N (d, dictOf [] 0) (by simp)).2
    · exact (N (q, boundObj S) (by simp)).2
    · exact (N (S, o) (by simp)).2
    · exact (N1 _ List.mem_cons_self).2
    · exact (N p (by simp [hp])).2
  obtain ⟨h₁, F6, N6, B6, st6, U6⟩ := rebase B F' R U off
  refine hQ h₁ _ acc c h' tk F6 (fun p hp => N6 p ?_) (fun p hp => ?_) hacc B6 st6 U6
  · rcases List.mem_cons.mp hp with rfl | hp
    · exact List.mem_cons_of_mem _ (List.mem_cons_of_mem _ (List.mem_cons_of_mem _ (List.mem_cons_of_mem _ (List.mem_cons_of_mem _ List.mem_cons_self))))
    · exact List.mem_cons_of_mem _ (List.mem_cons_of_mem _ (List.mem_cons_of_mem _ (List.mem_cons_of_mem _ (List.mem_cons_of_mem _ (List.mem_cons_of_mem _ hp)))))
  · exact hsz p (List.mem_cons_of_mem _ (List.mem_cons_of_mem _ (List.mem_cons_of_mem _ (List.mem_cons_of_mem _ (List.mem_cons_of_mem _ hp)))))
end

end
section
set_option maxRecDepth 100000
abbrev rgObj (x left step : Int) : Obj := { cls := .type "range_iterator", dict := none, data := .fields #[rawInt x, rawInt left, rawInt step], slots := #[] }
/-- what a turn's body has to bring -/
def ForPost (J : Nat → Shared → Prop) (n : Nat) (Q : Flow → Shared → Prop) (f : Flow) (s : Shared) : Prop := match f with
  | .next => ∃ m, m < n ∧ J m s
  | .cont => ∃ m, m < n ∧ J m s
  | .brk => Q .next s
  | .ret v => Q (.ret v) s
section
variable {prog : Program} {w : World} {A : Around} {E : Value → Shared → Prop} {s : Shared} {h₀ : Heap} {L I l : Addr} {m : PySem.Str → Option Value} {news : List (Addr × Obj)} {i k : Nat} {items : List Value} {v : Value} {env : Env}
theorem for_turns {target : PySem.Expr} {body : List Stmt} {Q : Flow → Shared → Prop} (J : Nat → Shared → Prop) (n : Nat) (hJ : J n s) (hE : PassesOwn (model prog w) A env E)
    (turn : ∀ n s', J n s' → wpAny (model prog w) A (pyNext (.ref I)) (fun r s₁ => match r with
      | none => Q .next s₁
      | some y => wpAny (model prog w) A (assign target env y) (fun _ s₂ => wpAny (model prog w) A (execs body env) (ForPost J n Q) E s₂) E s₁) E s')
    (ht : ∀ v, letOwnedTupleGo target (.ref I) v = pure () := by intro _; rfl) :
    codeAny (model prog w) A (.forLoop target (.ref I) body [] env) (fun r s' => match r with | .ok f => Q f s' | .error e => cameBackBy (model prog w) A env E e s') s := by
  refine codeAny_forLoop (R := fun r s' => match r with | .ok f => Q f s' | .error e => cameBackBy (model prog w) A env E e s') J (fun n s' hj => ?_) n hJ ht
  refine wpAny_passesOwn hE (wpAny_mono (turn n s' hj) (fun r s₁ hr => ?_) fun _ _ z => z)
  cases r with
  | none => exact wpAny_execs_nil hr
  | some y =>
    refine wpAny_passesOwn hE (wpAny_mono hr (fun _ s₂ h₂ => ?_) fun _ _ z => z)
    refine wpAny_passesOwn hE (wpAny_mono h₂ (fun f s₃ h₃ => ?_) fun _ _ z => z)
    cases f with
    | next => exact h₃
    | cont => exact h₃
    | brk => exact h₃
    | ret _ => exact h₃
theorem list_next {Q : Option Value → Shared → Prop} (F : Fr h₀ L s.heap m) (N : News h₀ L s.heap ((I, liObj l i) :: news)) (hd : ∀ p ∈ news, p.1 ≠ I) (hm : (l, listOf items.toArray k) ∈ news) (hx : items[i]? = some v)
    (h : ∀ h', Fr h₀ L h' m → News h₀ L h' ((I, liObj l (i + 1)) :: news) → Q (some v) { s with heap := h' }) : wpAny (model prog w) A (pyNext (.ref I)) Q E s := by
  have h1 := N _ List.mem_cons_self
  have h2 := N _ (List.mem_cons_of_mem _ hm)
  unfold pyNext
  refine wpAny_bind (wpAny_attempt (li_item h1.1 h2.1 hx fun h' hit' hs => ?_))
  exact wpAny_pure (h h' (F.change hs h1.2.1 h1.2.2) (News.setIn (own := []) N (fun _ hp => absurd hp List.not_mem_nil) hd hs hit'))
theorem list_stop {Q : Option Value → Shared → Prop} (hh : A.handled = none) (F : Fr h₀ L s.heap m) (N : News h₀ L s.heap ((I, liObj l i) :: news)) (hd : ∀ p ∈ news, p.1 ≠ I) (hm : (l, listOf items.toArray k) ∈ news) (hx : items[i]? = none)
    (h : ∀ h', Fr h₀ L h' m → News h₀ L h' news → Q none { s with heap := h' }) : wpAny (model prog w) A (pyNext (.ref I)) Q E s := by
  have h1 := N _ List.mem_cons_self
  have hit : s.heap.IsListIter I l i := ⟨_, h1.1, rfl, rfl⟩
  have hl : s.heap.IsList l items.toArray := (show News h₀ L s.heap news from fun p hp => N p (List.mem_cons_of_mem _ hp)).isList hm
  refine wpAny_pyNext_list_end hh hit hl (by simpa using hx) fun h' he => h h' ?_ ?_
  · obtain ⟨oL, a1, a2, hoL, a3⟩ := F.ns
    exact ⟨⟨oL, a1, a2, he L oL (Ne.symm h1.2.1) hoL, a3⟩, fun b o e => he b o (fun q => by rw [q, h1.2.2] at e; cases e) (F.keep b o e), F.above⟩
  · exact fun p hp => ⟨he _ _ (hd p hp) (N p (List.mem_cons_of_mem _ hp)).1, (N p (List.mem_cons_of_mem _ hp)).2⟩
theorem range_next {x left step : Int} {Q : Option Value → Shared → Prop} (F : Fr h₀ L s.heap m) (N : News h₀ L s.heap ((I, rgObj x left step) :: news)) (hd : ∀ p ∈ news, p.1 ≠ I) (hl : 0 < left)
    (h : ∀ h', Fr h₀ L h' m → News h₀ L h' ((I, rgObj (x + step) (left - 1) step) :: news) → Q (some (.int x s.toks)) { s with heap := h', toks := s.toks + 1 }) : wpAny (model prog w) A (pyNext (.ref I)) Q E s := by
  have h1 := N _ List.mem_cons_self
  refine wpAny_pyNext_range_item h1.1 hl fun h' hit' hs => ?_
  exact h h' (F.change hs h1.2.1 h1.2.2) (News.setIn (own := []) N (fun _ hp => absurd hp List.not_mem_nil) hd hs hit')
theorem range_stop {x left step : Int} {Q : Option Value → Shared → Prop} (hh : A.handled = none) (F : Fr h₀ L s.heap m) (N : News h₀ L s.heap ((I, rgObj x left step) :: news)) (hd : ∀ p ∈ news, p.1 ≠ I) (hl : left ≤ 0)
    (h : ∀ h', Fr h₀ L h' m → News h₀ L h' news → Q none { s with heap := h' }) : wpAny (model prog w) A (pyNext (.ref I)) Q E s := by
  have h1 := N _ List.mem_cons_self
  refine wpAny_pyNext_range_end hh h1.1 hl fun h' he => h h' ?_ ?_
  · obtain ⟨oL, a1, a2, hoL, a3⟩ := F.ns
    exact ⟨⟨oL, a1, a2, he L oL (Ne.symm h1.2.1) hoL, a3⟩, fun b o e => he b o (fun q => by rw [q, h1.2.2] at e; cases e) (F.keep b o e), F.above⟩
  · exact fun p hp => ⟨he _ _ (hd p hp) (N p (List.mem_cons_of_mem _ hp)).1, (N p (List.mem_cons_of_mem _ hp)).2⟩
end
section
variable {prog : Program} {w : World} {A₀ A : Around} {s : Shared} {base h₀ : Heap} {outer : List Env} {L : Addr} {m : PySem.Str → Option Value} {env : Env} {news : List (Addr × Obj)} {K : Frag} {p : Program} {loose : List PySem.Str} {mean : ExcName → Option Value} {mg mb : PySem.Str → Option Value}
  {R : Result → Shared → Prop} {name qual : PySem.Str} {params : Arguments} {body : List Stmt} {scope : Scope} {dV kV doc pm cdv ct oc : Value} {an od : Option Addr} {osl : Array (Option Value)} {f : Addr} {args : Args} {binds : List (PySem.Str × Value)}
/-- a call of a function that has cells, with the answer's own post -/
theorem code_defR
    (B : Below A₀ base outer h₀) (F : Fr h₀ L s.heap m) (X₀ : K.In h₀) (N : News h₀ L s.heap news) (T : Top p loose mean mg mb h₀) (hA : A.frames = some (env :: outer)) (hf : env.frame = some L) (hke : env.scope.kind = .function)
    (ho : K.lookup f = some ⟨oc, od, .func (fnOf name qual params body scope dV kV doc pm an cdv ct), osl⟩) (hcd : codeIn K cdv qual = true) (hroom : A.depth < recursionLimit)
    (hbind : BindsTo s (fnOf name qual params body scope dV kV doc pm an cdv ct) args binds) (hkind : (binds.all fun y => scope.names.lookup y.1 == some .local || scope.names.lookup y.1 == some .cell) = true)
    (hnd : ((cellsFrom 0 scope.names []).map (·.1)).Nodup)
    (h : ∀ g L' h₁ tk cells, Fr h₀ L g m → Fr g L' h₁ (bindL (envOfC qual scope L' f cdv).kindOf binds fun _ => none) → News g L' h₁ (cells ++ news) →
      CellsAre (bindC (envOfC qual scope L' f cdv).kindOf binds fun _ => none) (cellsFrom (L' + 1) scope.names []) cells → Below A base (env :: outer) g → K.In g → Top p loose mean mg mb g → (∀ p ∈ news, p.1 < L') →
      wpAny (model prog w) (A.deeper (envOfC qual scope L' f cdv)) (execs body (envOfC qual scope L' f cdv))
        (fun fl s' => R (.ok (.ret (match fl with | .ret v => v | _ => .none))) s')
        (fun e s' => wpAny (model prog w) (A.deeper (envOfC qual scope L' f cdv)) (leaving (envOfC qual scope L' f cdv) e) (fun _ s'' => R (.error e) s'') (fun e' s'' => R (.error e') s'') s')
        { s with heap := h₁, toks := tk })
    (hco : scope.isCoroutine = false) (hgen : scope.isGenerator = false) (hk : scope.kind = .function) : codeAny (model prog w) A (.call (.ref f) args) R s := by
  obtain ⟨FG, BG, st, _⟩ := groundX (R := R) B F N hA hf hke
  have hlim := T.nolimit
  refine codeAny_call_function hroom ((X₀.keeps F.keep) _ _ ho) rfl hco hgen rfl (codeRec_of (X₀.keeps F.keep) hcd) (hbind _ _ _ _ ?_)
  refine wpAny_newFunctionEnv_cells hk (kindsX hkind _) fun env' he s' x => ?_
  subst he
  refine ⟨(hlim.keeps F.keep).keeps x.toInCall.keep, codeAny_func ?_⟩
  obtain ⟨h₁, tk, rfl, _⟩ := x.done
  have hk₁ := x.toInCall.keep
  obtain ⟨cells, NC, Y⟩ := Cl.news (h₀ := s.heap) (Nat.le_refl _) fun n c hm => ⟨x.cell n c (lookup_of_mem_nodup (cellsFrom_names scope.names 0 (s.heap.objs.size + 1) [] [] rfl ▸ hnd) hm), x.above n c hm⟩
  refine h _ s.heap.objs.size h₁ tk cells FG ⟨x.toInCall.ns, fun b o e => hk₁ b o (of_hideAll _ e), Nat.le_of_eq (hideAll_size _ _)⟩ (fun p hp => ?_) Y BG (X₀.keeps st) (T.keeps st) (fun p hp => Heap.lt_size (N p hp).1)
  rcases List.mem_append.mp hp with hp | hp
  · refine ⟨(NC p hp).1, (NC p hp).2.1, ?_⟩
    cases q : (hideAll s.heap (news.map (·.1))).get? p.1 with
    | none => rfl
    | some o => have := of_hideAll _ q; rw [(NC p hp).2.2] at this; cases this
  · exact ⟨hk₁ _ _ (N p hp).1, Nat.ne_of_lt (Heap.lt_size (N p hp).1), hideAll_none _ (List.mem_map_of_mem hp)⟩
end
/-- the way back, out of the frame, when the base has changed meanwhile -/
theorem leave_back {base g g' : Heap} {L L' : Addr} {h : Heap} {m m' : PySem.Str → Option Value} {news : List (Addr × Obj)} (FG : Fr base L g m) (st : base.StaysIn g') (U : g.UpToSlots g') (F : Fr g' L' h m') (N : News g' L' h news) : Fr base L h m ∧ News base L h news := by
  have F1 : Fr base L g' m := FG.of_stays st U
  refine ⟨F1.keeps F.keep, fun p hp => ⟨(N p hp).1, fun q => ?_, ?_⟩⟩
  · obtain ⟨oL, _, _, hL, _⟩ := F1.ns
    have := (N p hp).2.2
    rw [q, hL] at this; cases this
  · cases q : base.get? p.1 with
    | none => rfl
    | some o => have := (N p hp).2.2; rw [st _ _ q] at this; cases this

end
section
theorem strOk_of (s : String) : PyData.strOk (PySem.Str.ofString s) = true := by
  rw [PySem.Str.ofString_eq_toList]
  unfold PyData.strOk
  simp only [List.all_toArray, List.all_map, List.all_eq_true]
  intro c _
  have h := c.valid
  show decide (c.val.toNat < 1114112) = true
  refine decide_eq_true ?_
  rcases h with h | h
  · exact Nat.lt_trans h (by decide)
  · exact h.2
theorem strOk_app {a b : PySem.Str} (ha : PyData.strOk a = true) (hb : PyData.strOk b = true) : PyData.strOk (a ++ b) = true := by
  unfold PyData.strOk at *
  show (a.cps ++ b.cps).all _ = true
  rw [Array.all_append, ha, hb]; rfl
theorem txt_ok (p : Int × Int) : PyData.strOk (txt p) = true := strOk_app (strOk_app (strOk_of _) (strOk_of _)) (strOk_of _)

end
section
abbrev Pt := Int × Int
def mv (p m : Pt) : Pt := (p.1 + m.1, p.2 + m.2)
def leads (wave moves : List Pt) : List Pt := wave.flatMap fun p => moves.map (mv p)
def onceP (ps : List Pt) : List Pt := ((List.range ps.length).filter fun i => !decide (ps.getD i (0, 0) ∈ ps.take i)).map fun i => ps.getD i (0, 0)
def offP (ps ks : List Pt) : List Pt := ps.filter fun p => !decide (p ∈ ks)
def InB (M : Nat) (p : Pt) : Prop := p.1.natAbs ≤ M ∧ p.2.natAbs ≤ M
def ptD (p : Pt) : Dat := .tuple [.int p.1, .int p.2]
def stD (p : Pt) : Dat := .str (txt p)
theorem InB.sm {M : Nat} (hM : M < 10 ^ 40) {p : Pt} (h : InB M p) : Sm p.1 ∧ Sm p.2 := ⟨Nat.lt_of_le_of_lt h.1 hM, Nat.lt_of_le_of_lt h.2 hM⟩
theorem InB.mono {M M' : Nat} (hM : M ≤ M') {p : Pt} (h : InB M p) : InB M' p := ⟨Nat.le_trans h.1 hM, Nat.le_trans h.2 hM⟩
theorem InB.mv {M K : Nat} {p q : Pt} (h : InB M p) (k : InB K q) : InB (M + K) (mv p q) := by
  obtain ⟨h1, h2⟩ := h
  obtain ⟨k1, k2⟩ := k
  constructor
  · show (p.1 + q.1).natAbs ≤ M + K; omega
  · show (p.2 + q.2).natAbs ≤ M + K; omega
theorem ptD_inj {p q : Pt} (h : ptD p = ptD q) : p = q := by
  obtain ⟨a, b⟩ := p
  obtain ⟨c, d⟩ := q
  unfold ptD at h
  simp only [Dat.tuple.injEq, List.cons.injEq, Dat.int.injEq, and_true] at h
  rw [h.1, h.2]
theorem stD_inj {M : Nat} (hM : M < 10 ^ 40) {p q : Pt} (hp : InB M p) (hq : InB M q) (h : stD p = stD q) : p = q := by
  unfold stD at h
  exact txt_inj (hp.sm hM).1 (hp.sm hM).2 (hq.sm hM).1 (hq.sm hM).2 (by simpa using h)
theorem getD_map {f : Pt → Dat} {ps : List Pt} {i : Nat} (hi : i < ps.length) : (ps.map f).getD i .none = f (ps.getD i (0, 0)) := by
  rw [List.getD_eq_getElem?_getD, List.getD_eq_getElem?_getD, List.getElem?_map, List.getElem?_eq_getElem hi]; rfl
theorem getD_mem {ps : List Pt} {i : Nat} (hi : i < ps.length) : ps.getD i (0, 0) ∈ ps := by
  rw [List.getD_eq_getElem?_getD, List.getElem?_eq_getElem hi]; exact List.getElem_mem hi
open Classical in
theorem once_map {f : Pt → Dat} {ps : List Pt} (hf : ∀ p ∈ ps, ∀ q ∈ ps, f p = f q → p = q) : onceD (ps.map f) = (onceP ps).map f := by
  unfold onceD onceP
  rw [List.length_map, List.map_map]
  have e : ∀ i ∈ List.range ps.length, (!decide ((ps.map f).getD i .none ∈ (ps.map f).take i)) = !decide (ps.getD i (0, 0) ∈ ps.take i) := by
    intro i hi
    have hi' := List.mem_range.mp hi
    rw [getD_map hi', ← List.map_take]
    congr 1
    refine decide_eq_decide.mpr ⟨fun h => ?_, fun h => List.mem_map_of_mem h⟩
    obtain ⟨q, hq, e⟩ := List.mem_map.mp h
    rw [← hf q (List.mem_of_mem_take hq) _ (getD_mem hi') e]; exact hq
  rw [List.filter_congr e]
  refine List.map_congr_left fun i hi => ?_
  exact getD_map (List.mem_range.mp (List.mem_filter.mp hi).1)
theorem off_map {M : Nat} (hM : M < 10 ^ 40) {ps ks : List Pt} (hp : ∀ p ∈ ps, InB M p) (hk : ∀ p ∈ ks, InB M p) : offS (ps.map txt) (ks.map txt) = (offP ps ks).map txt := by
  unfold offS offP
  rw [List.filter_map]
  refine congrArg _ (List.filter_congr fun p h => ?_)
  show (!decide (txt p ∈ ks.map txt)) = _
  congr 1
  refine decide_eq_decide.mpr ⟨fun h2 => ?_, fun h2 => List.mem_map_of_mem h2⟩
  obtain ⟨q, hq, e⟩ := List.mem_map.mp h2
  have a := (hp p h).sm hM
  have b := (hk q hq).sm hM
  rw [← txt_inj b.1 b.2 a.1 a.2 e]; exact hq
theorem once_sub {ps : List Pt} {p : Pt} (h : p ∈ onceP ps) : p ∈ ps := by
  unfold onceP at h
  obtain ⟨i, hi, rfl⟩ := List.mem_map.mp h
  exact getD_mem (List.mem_range.mp (List.mem_filter.mp hi).1)
theorem once_len (ps : List Pt) : (onceP ps).length ≤ ps.length := by
  unfold onceP
  rw [List.length_map]
  exact Nat.le_trans (List.length_filter_le ..) (by simp)
theorem off_sub {ps ks : List Pt} {p : Pt} (h : p ∈ offP ps ks) : p ∈ ps := (List.mem_filter.mp h).1
theorem off_len (ps ks : List Pt) : (offP ps ks).length ≤ ps.length := List.length_filter_le ..
theorem leads_len : ∀ (wave moves : List Pt), (leads wave moves).length = wave.length * moves.length
  | [], moves => by simp [leads]
  | p :: r, moves => by
    have := leads_len r moves
    unfold leads at this ⊢
    rw [List.flatMap_cons, List.length_append, this, List.length_map, List.length_cons, Nat.succ_mul, Nat.add_comm]
theorem leads_in {M K : Nat} {wave moves : List Pt} (hw : ∀ p ∈ wave, InB M p) (hm : ∀ p ∈ moves, InB K p) : ∀ p ∈ leads wave moves, InB (M + K) p := fun p h => by
  obtain ⟨q, hq, h⟩ := List.mem_flatMap.mp h
  obtain ⟨r, hr, rfl⟩ := List.mem_map.mp h
  exact (hw q hq).mv (hm r hr)
/-- the rounds: what has come up, the last round's places, the rows -/
def wst (p0 : Pt) (moves : List Pt) : Nat → List Pt × List Pt × List (List Pt)
  | 0 => ([p0], [p0], [])
  | i + 1 => ((wst p0 moves i).1 ++ onceP (offP (leads (wst p0 moves i).2.1 moves) (wst p0 moves i).1), onceP (offP (leads (wst p0 moves i).2.1 moves) (wst p0 moves i).1),
      (wst p0 moves i).2.2 ++ [offP (leads (wst p0 moves i).2.1 moves) (wst p0 moves i).1])
def rowOf (p0 : Pt) (moves : List Pt) (i : Nat) : List Pt := offP (leads (wst p0 moves i).2.1 moves) (wst p0 moves i).1
theorem wst_bounds {M : Nat} {p0 : Pt} {moves : List Pt} (h0 : InB M p0) (hm : ∀ p ∈ moves, InB 2 p) (hl : moves.length ≤ 3) : ∀ i, (∀ p ∈ (wst p0 moves i).1, InB (M + 2 * i) p) ∧ (∀ p ∈ (wst p0 moves i).2.1, InB (M + 2 * i) p) ∧ (wst p0 moves i).2.1.length ≤ 3 ^ i ∧ (wst p0 moves i).1.length ≤ 3 ^ (i + 1)
  | 0 => by simp [wst, h0]
  | i + 1 => by
    obtain ⟨a, b, c, d⟩ := wst_bounds h0 hm hl i
    have hw : ∀ p ∈ (wst p0 moves (i + 1)).2.1, InB (M + 2 * (i + 1)) p := fun p hp => leads_in b hm p (off_sub (once_sub hp))
    have hlen : (wst p0 moves (i + 1)).2.1.length ≤ 3 ^ (i + 1) := by
      refine Nat.le_trans (once_len _) (Nat.le_trans (off_len _ _) ?_)
      rw [leads_len]
      exact Nat.le_trans (Nat.mul_le_mul c hl) (Nat.le_of_eq (Nat.pow_succ ..).symm)
    refine ⟨fun p hp => ?_, hw, hlen, ?_⟩
    · rcases List.mem_append.mp hp with hp | hp
      · exact (a p hp).mono (by omega)
      · exact hw p hp
    · show List.length (_ ++ _) ≤ _
      rw [List.length_append]
      have e : 3 ^ (i + 1 + 1) = 3 ^ (i + 1) * 3 := Nat.pow_succ ..
      have : (onceP (offP (leads (wst p0 moves i).2.1 moves) (wst p0 moves i).1)).length ≤ 3 ^ (i + 1) := hlen
      omega
theorem wst_rows (p0 : Pt) (moves : List Pt) : ∀ i, (wst p0 moves i).2.2.length = i
  | 0 => rfl
  | i + 1 => by
    show List.length (_ ++ _) = _
    rw [List.length_append, wst_rows p0 moves i]; rfl

end
section
local macro_rules | `(tactic| walk_at "exec For") => `(tactic| (refine Paused.of ?_))
local macro_rules | `(tactic| walk_at "exec For Name Name cons nil") => `(tactic| (refine Paused.of ?_))
local macro_rules | `(tactic| walk_at "exec For Name Call cons nil") => `(tactic| (refine Paused.of ?_))
local macro_rules | `(tactic| walk_at "call ref") => `(tactic| (refine Paused.of ?_))
set_option maxRecDepth 100000
theorem con_call {w : World} {loose : List PySem.Str} {mean : ExcName → Option Value} {mg mb : PySem.Str → Option Value} {f : Addr} {dep dp un : Nat} {Pre : List (Addr × Obj) → List Value → Prop} {Out : List (Addr × Obj) → Value → Prop} {gd : Option (List Code)} {cn : PySem.Str} {cs : Scope} {a : Addr} {ccd : Value} {cl : List (PySem.Str × Addr)} {outer : List Env} {A₀ : Around} {base h₀ : Heap} {L : Addr} {m : PySem.Str → Option Value} {pre rest : List (Addr × Obj)} {s : Shared} {vs : List Value} {Q E : Value → Shared → Prop}
    (C : Co w loose mean mg mb f dep Pre Out) (B : Below A₀ base outer h₀) (F : Fr h₀ L s.heap m) (X : (hd.heap_39 w.params).In h₀) (N : News h₀ L s.heap (pre ++ rest)) (T : Top hd.view_39 loose mean mg mb h₀) (hk : cs.kind = .function) (hp : Pre (pre ++ rest) vs) (hd : dp + dep < recursionLimit) (hu : un + 8 * dep + 100 < cLine)
    (h : ∀ r tl h' tk', Fr h₀ L h' m → News h₀ L h' (pre ++ (tl ++ rest)) → (∀ p ∈ tl, ∀ q ∈ pre ++ rest, q.1 < p.1) → Out (tl ++ (pre ++ rest)) r → Q r { s with heap := h', toks := tk' }) :
    wpAny (model PySem.Challenge.rw_ij0069_01.row.prog w) (ktrTop dp un gd cn cs L a ccd cl outer) (call (.ref f) vs) Q E s :=
  C dp un gd cn cs a ccd cl outer A₀ base h₀ L m (pre ++ rest) s vs Q E B F X N T hk hp hd hu fun r tl h' tk' F' N' lt ho => h r tl h' tk' F' (fun p hp => N' p (by
    rcases List.mem_append.mp hp with h | h
    · exact List.mem_append_right _ (List.mem_append_left _ h)
    rcases List.mem_append.mp h with h | h
    · exact List.mem_append_left _ h
    · exact List.mem_append_right _ (List.mem_append_right _ h))) lt ho
local macro_rules | `(tactic| k_all) => `(tactic| first | assumption | (refine List.forall_mem_append.mpr ⟨?_, ?_⟩ <;> k_all))
def mmR (p0 : Pt) (t u : Tok) (am : Addr) (kn wv rw : Value) (k ways one : Option Value) : PySem.Str → Option Value := fun y =>
  if y = "known" then some kn else if y = "wave" then some wv else if y = "rows" then some rw else if y = "k" then k else if y = "ways" then ways else if y = "one" then one else
  if y = "place" then some (.str (txt p0) t) else if y = "moves" then some (.ref am) else if y = "many" then some (.int 4 u) else none
def rowD (r : List Pt) : Dat := .list (r.map stD)
/-- where the outer loop stands: i rounds are over -/
def RJ (A : Around) (fr : List Env) (h₀ g' : Heap) (L' c1 c2 : Nat) (p0 : Pt) (moves : List Pt) (t u : Tok) (am : Addr) (news : List (Addr × Obj)) (s : Shared) (I rw : Nat) (n : Nat) (s' : Shared) : Prop :=
  ∃ (i : Nat) (g h : Heap) (tk : Nat) (kn wv kk kw kR : Nat) (kits wits rs : List Value) (k ways one : Option Value) (o1 o2 : Obj) (v1 v2 : Option Value) (tl : List (Addr × Obj)),
    n = 4 - i ∧ i ≤ 4 ∧ s' = { s with heap := h, toks := tk } ∧ Fr g L' h (mmR p0 t u am (.ref kn) (.ref wv) (.ref rw) k ways one) ∧
    News g L' h ((I, rgObj (i : Nat) ((4 - i : Nat) : Nat) 1) :: (rw, listOf rs.toArray kR) :: (c2, o2) :: (c1, o1) :: (tl ++ news)) ∧ o1.data = .cell v1 ∧ o2.data = .cell v2 ∧
    (kn, listOf kits.toArray kk) ∈ tl ++ news ∧ DatAll (tl ++ news) kits ((wst p0 moves i).1.map stD) ∧ (wv, listOf wits.toArray kw) ∈ tl ++ news ∧ DatAll (tl ++ news) wits ((wst p0 moves i).2.1.map stD) ∧
    DatAll (tl ++ news) rs ((wst p0 moves i).2.2.map rowD) ∧ (∀ p ∈ tl ++ news, p.1 ≠ I) ∧ (∀ p ∈ tl ++ news, p.1 ≠ rw) ∧ (∀ p ∈ tl ++ news, p.1 ≠ c2) ∧ (∀ p ∈ tl ++ news, p.1 ≠ c1) ∧
    Below A h₀ fr g ∧ h₀.StaysIn g ∧ g'.UpToSlots g ∧ (∀ p ∈ tl, ∀ q ∈ news, q.1 < p.1) ∧ c1 < c2 ∧ c2 < rw ∧ rw < I
theorem allLt_all {d : Addr} : ∀ {l : List (Addr × Obj)}, AllLt d l → ∀ p ∈ l, p.1 < d
  | [], _, _, h => absurd h List.not_mem_nil
  | _ :: _, h, p, hp => (List.mem_cons.mp hp).elim (fun e => e ▸ h.1) (allLt_all h.2 p)
theorem tup_rest {a : Addr} {xs : Array Value} {kg : Nat} {tl pre rest : List (Addr × Obj)} (h : (a, ({ cls := .type "tuple", data := .seq xs kg } : Obj)) ∈ tl ++ (pre ++ rest)) (hp : ∀ p ∈ pre, p.2.cls ≠ .type "tuple" ∨ ∃ v, p.2.data = .cell v) : (a, ({ cls := .type "tuple", data := .seq xs kg } : Obj)) ∈ tl ++ rest := by
  rcases List.mem_append.mp h with h | h
  · exact List.mem_append_left _ h
  rcases List.mem_append.mp h with h | h
  · rcases hp _ h with h | ⟨v, h⟩
    · exact absurd rfl h
    · cases h
  · exact List.mem_append_right _ h
theorem new_off {tl pre rest old : List (Addr × Obj)} {c : Nat} {ob : Obj} (lt : ∀ p ∈ tl, ∀ q ∈ pre ++ rest, q.1 < p.1) (hc : (c, ob) ∈ pre) (h : ∀ p ∈ old, p.1 ≠ c) : ∀ p ∈ tl ++ old, p.1 ≠ c :=
  List.forall_mem_append.mpr ⟨fun p hp => Nat.ne_of_gt (lt p hp (c, ob) (List.mem_append_left _ hc)), h⟩
theorem pair_dat {nw : List (Addr × Obj)} {v : Value} {p : Pt} (h : DatIn nw v (ptD p)) : ∃ T k t1 t2, v = .ref T ∧ (T, ({ cls := .type "tuple", data := .seq #[.int p.1 t1, .int p.2 t2] k } : Obj)) ∈ nw := by
  unfold ptD at h
  cases h with
  | tuple hm hd =>
    cases hd with
    | cons h1 hd =>
      cases hd with
      | cons h2 hd =>
        cases hd
        cases h1
        cases h2
        exact ⟨_, _, _, _, rfl, hm⟩
theorem pairs_of {nw : List (Addr × Obj)} {its : List Value} {ps : List Pt} (h : DatAll nw its (ps.map ptD)) :
    ∃ xy : Nat → Value × Value, (∀ i v, its[i]? = some v → ∃ T k, v = .ref T ∧ (T, ({ cls := .type "tuple", data := .seq #[(xy i).1, (xy i).2] k } : Obj)) ∈ nw) ∧ ∀ i, i < its.length → ∃ t1 t2, xy i = (.int (ps.getD i (0, 0)).1 t1, .int (ps.getD i (0, 0)).2 t2) := by
  have hl : its.length = ps.length := by rw [h.length, List.length_map]
  have H : ∀ i, ∃ x : Value × Value, (∀ v, its[i]? = some v → ∃ T k, v = .ref T ∧ (T, ({ cls := .type "tuple", data := .seq #[x.1, x.2] k } : Obj)) ∈ nw) ∧ (i < its.length → ∃ t1 t2, x = (.int (ps.getD i (0, 0)).1 t1, .int (ps.getD i (0, 0)).2 t2)) := by
    intro i
    cases hv : its[i]? with
    | none => exact ⟨(.none, .none), fun v h => (by cases h), fun h => absurd h (Nat.not_lt.mpr (List.getElem?_eq_none_iff.mp hv))⟩
    | some v =>
      have hi : i < ps.length := by rw [← hl]; exact (List.getElem?_eq_some_iff.mp hv).1
      have d := datAll_at h hv
      rw [getD_map hi] at d
      obtain ⟨T, k, t1, t2, rfl, hm⟩ := pair_dat d
      exact ⟨(.int _ t1, .int _ t2), fun v h => by cases h; exact ⟨T, k, rfl, hm⟩, fun _ => ⟨t1, t2, rfl⟩⟩
  obtain ⟨xy, hxy⟩ := Classical.axiomOfChoice H
  exact ⟨xy, fun i v hv => (hxy i).1 v hv, fun i hi => (hxy i).2 hi⟩
/-- where the inner loop stands: j places of the last round's are over -/
def RK (g : Heap) (L' c1 c2 : Nat) (p0 : Pt) (moves : List Pt) (t u : Tok) (am kn wv : Addr) (rest news : List (Addr × Obj)) (s : Shared) (oI oR : Obj) (I2 I rw : Nat) (k : Option Value) (wave : List Pt) (n : Nat) (s' : Shared) : Prop :=
  ∃ (j : Nat) (h : Heap) (tk aw ka : Nat) (its : List Value) (one : Option Value) (o1 o2 : Obj) (v1 v2 : Option Value) (tl : List (Addr × Obj)),
    n = wave.length - j ∧ j ≤ wave.length ∧ s' = { s with heap := h, toks := tk } ∧ Fr g L' h (mmR p0 t u am (.ref kn) (.ref wv) (.ref rw) k (some (.ref aw)) one) ∧
    News g L' h ((I2, liObj wv j) :: (I, oI) :: (rw, oR) :: (c2, o2) :: (c1, o1) :: (tl ++ rest)) ∧ o1.data = .cell v1 ∧ o2.data = .cell v2 ∧
    (aw, listOf its.toArray ka) ∈ tl ++ rest ∧ DatAll (tl ++ rest) its ((leads (wave.take j) moves).map stD) ∧ (∀ p ∈ tl ++ rest, p.1 ≠ I2) ∧ (∀ p ∈ tl ++ rest, p.1 ≠ I) ∧ (∀ p ∈ tl ++ rest, p.1 ≠ rw) ∧ (∀ p ∈ tl ++ rest, p.1 ≠ c2) ∧ (∀ p ∈ tl ++ rest, p.1 ≠ c1) ∧
    (∀ p ∈ tl, ∀ q ∈ news, q.1 < p.1) ∧ I < I2
theorem rk_start {g : Heap} {L' c1 c2 : Nat} {p0 : Pt} {moves : List Pt} {t u : Tok} {am kn wv : Addr} {rest news : List (Addr × Obj)} {s : Shared} {oI oR o1 o2 : Obj} {I2 I rw lw tk : Nat} {k : Option Value} {wave : List Pt} {h : Heap} {v1 v2 one : Option Value} {mm : PySem.Str → Option Value}
    (F : Fr g L' h mm) (N : News g L' h ((I2, liObj wv 0) :: (lw, listOf #[] 0) :: (I, oI) :: (rw, oR) :: (c2, o2) :: (c1, o1) :: rest)) (hm : ∀ y, mm y = mmR p0 t u am (.ref kn) (.ref wv) (.ref rw) k (some (.ref lw)) one y) (d1 : o1.data = .cell v1) (d2 : o2.data = .cell v2)
    (n0 : ∀ p ∈ (lw, listOf #[] 0) :: (I, oI) :: (rw, oR) :: (c2, o2) :: (c1, o1) :: rest, p.1 < I2) (nl : ∀ p ∈ (I, oI) :: (rw, oR) :: (c2, o2) :: (c1, o1) :: rest, p.1 < lw) (nI : ∀ p ∈ rest, p.1 ≠ I) (nr : ∀ p ∈ rest, p.1 ≠ rw) (n2 : ∀ p ∈ rest, p.1 ≠ c2) (n1 : ∀ p ∈ rest, p.1 ≠ c1) (hn : ∀ p ∈ news, p ∈ rest) :
    RK g L' c1 c2 p0 moves t u am kn wv rest news s oI oR I2 I rw k wave wave.length { s with heap := h, toks := tk } := by
  have hl := List.forall_mem_cons.mp nl
  have hl2 := List.forall_mem_cons.mp hl.2
  have hl3 := List.forall_mem_cons.mp hl2.2
  have hl4 := List.forall_mem_cons.mp hl3.2
  have h0 := List.forall_mem_cons.mp n0
  refine ⟨0, h, tk, lw, 0, [], one, o1, o2, v1, v2, [(lw, listOf #[] 0)], rfl, Nat.zero_le _, rfl, fr_same F hm, ?_, d1, d2, List.mem_cons_self, DatAll.nil, ?_, ?_, ?_, ?_, ?_, ?_, ?_⟩
  · intro p hp
    refine N p ?_
    simp only [List.cons_append, List.nil_append, List.mem_cons] at hp ⊢
    rcases hp with h | h | h | h | h | h | h
    · exact .inl h
    · exact .inr (.inr (.inl h))
    · exact .inr (.inr (.inr (.inl h)))
    · exact .inr (.inr (.inr (.inr (.inl h))))
    · exact .inr (.inr (.inr (.inr (.inr (.inl h)))))
    · exact .inr (.inl h)
    · exact .inr (.inr (.inr (.inr (.inr (.inr h)))))
  · refine List.forall_mem_cons.mpr ⟨Nat.ne_of_lt h0.1, fun p hp => Nat.ne_of_lt (n0 p (List.mem_cons_of_mem _ (List.mem_cons_of_mem _ (List.mem_cons_of_mem _ (List.mem_cons_of_mem _ (List.mem_cons_of_mem _ hp))))))⟩
  · refine List.forall_mem_cons.mpr ⟨Nat.ne_of_gt hl.1, nI⟩
  · refine List.forall_mem_cons.mpr ⟨Nat.ne_of_gt hl2.1, nr⟩
  · refine List.forall_mem_cons.mpr ⟨Nat.ne_of_gt hl3.1, n2⟩
  · refine List.forall_mem_cons.mpr ⟨Nat.ne_of_gt hl4.1, n1⟩
  · intro p hp q hq
    rw [List.mem_singleton.mp hp]
    exact hl4.2 q (hn q hq)
  · exact n0 (I, oI) (by simp)
theorem add_l {prog : Program} {w : World} {A : Around} {E : Value → Shared → Prop} {s : Shared} {h₀ : Heap} {L : Addr} {m : PySem.Str → Option Value} {news : List (Addr × Obj)} {l b : Addr} {xs ys : List Value} {k1 k2 : Nat} {Q : Value → Shared → Prop} (F : Fr h₀ L s.heap m) (N : News h₀ L s.heap news) (h1 : (l, listOf xs.toArray k1) ∈ news) (h2 : (b, listOf ys.toArray k2) ∈ news) (hsz : xs.length + ys.length ≤ sizeLine)
    (h : ∀ D h', Fr h₀ L h' m → News h₀ L h' ((D, listOf (xs ++ ys).toArray 0) :: news) → (∀ p ∈ news, p.1 < D) → Q (.ref D) { s with heap := h' }) : wpAny (model prog w) A (binaryOp .Add (.ref l) (.ref b)) Q E s :=
  add_arrays F N (N.isList h1) (N.isList h2) (fun h' F' N' => h _ h' F' N' fun p hp => Heap.lt_size (N p hp).1) (by simpa using hsz)
theorem range_map {f : Pt → Dat} (ps : List Pt) : (List.range ps.length).map (fun i => f (ps.getD i (0, 0))) = ps.map f := by
  refine List.ext_getElem (by simp) fun i h1 h2 => ?_
  have hi : i < ps.length := by simpa using h1
  simp [List.getD_eq_getElem?_getD, List.getElem?_eq_getElem hi]
theorem leads_take {wave moves : List Pt} {j : Nat} (hj : j < wave.length) : leads (wave.take (j + 1)) moves = leads (wave.take j) moves ++ moves.map (mv (wave.getD j (0, 0))) := by
  have e : wave.take (j + 1) = wave.take j ++ [wave[j]] := by rw [List.take_add_one, List.getElem?_eq_getElem hj]; rfl
  rw [e, List.getD_eq_getElem?_getD, List.getElem?_eq_getElem hj]
  unfold leads
  rw [List.flatMap_append]
  simp
theorem rk_next {g : Heap} {L' c1 c2 : Nat} {p0 : Pt} {moves : List Pt} {t u : Tok} {am kn wv : Addr} {rest news tl7 tlg tl3 : List (Addr × Obj)} {s : Shared} {oI oR o1 o2 : Obj} {I2 I rw D tk j ka : Nat} {k : Option Value} {wave : List Pt} {h : Heap} {v1 v2 one : Option Value} {mm : PySem.Str → Option Value} {its : List Value}
    (F : Fr g L' h mm) (N : News g L' h ((D, listOf its.toArray ka) :: (tl7 ++ (I2, liObj wv (j + 1)) :: (I, oI) :: (rw, oR) :: (c2, o2) :: (c1, o1) :: (tlg ++ (tl3 ++ rest))))) (hm : ∀ y, mm y = mmR p0 t u am (.ref kn) (.ref wv) (.ref rw) k (some (.ref D)) one y) (d1 : o1.data = .cell v1) (d2 : o2.data = .cell v2)
    (hD : DatAll rest its ((leads (wave.take (j + 1)) moves).map stD)) (lD : ∀ p ∈ tl7 ++ (I2, liObj wv (j + 1)) :: (I, oI) :: (rw, oR) :: (c2, o2) :: (c1, o1) :: (tlg ++ (tl3 ++ rest)), p.1 < D)
    (l7 : ∀ p ∈ tl7, ∀ q ∈ (I2, liObj wv (j + 1)) :: (I, oI) :: (rw, oR) :: (c2, o2) :: (c1, o1) :: (tlg ++ (tl3 ++ rest)), q.1 < p.1) (hj : j < wave.length)
    (m2I : ∀ p ∈ tlg ++ (tl3 ++ rest), p.1 ≠ I2) (mI : ∀ p ∈ tlg ++ (tl3 ++ rest), p.1 ≠ I) (mr : ∀ p ∈ tlg ++ (tl3 ++ rest), p.1 ≠ rw) (m2 : ∀ p ∈ tlg ++ (tl3 ++ rest), p.1 ≠ c2) (m1 : ∀ p ∈ tlg ++ (tl3 ++ rest), p.1 ≠ c1) (hn : ∀ p ∈ news, p ∈ rest) (lg : ∀ p ∈ tlg, ∀ q ∈ news, q.1 < p.1) (l3 : ∀ p ∈ tl3, ∀ q ∈ news, q.1 < p.1) (oI2 : I < I2) :
    RK g L' c1 c2 p0 moves t u am kn wv rest news s oI oR I2 I rw k wave (wave.length - (j + 1)) { s with heap := h, toks := tk } := by
  have ne : ∀ c ob, (c, ob) ∈ (I2, liObj wv (j + 1)) :: (I, oI) :: (rw, oR) :: (c2, o2) :: (c1, o1) :: (tlg ++ (tl3 ++ rest)) → (∀ p ∈ tlg ++ (tl3 ++ rest), p.1 ≠ c) → ∀ p ∈ ((D, listOf its.toArray ka) :: (tl7 ++ (tlg ++ tl3))) ++ rest, p.1 ≠ c := by
    intro c ob hc ho p hp
    rcases List.mem_append.mp hp with hp | hp
    · rcases List.mem_cons.mp hp with rfl | hp
      · exact Nat.ne_of_gt (lD (c, ob) (List.mem_append_right _ hc))
      rcases List.mem_append.mp hp with hp | hp
      · exact Nat.ne_of_gt (l7 p hp (c, ob) hc)
      rcases List.mem_append.mp hp with hp | hp
      · exact ho p (List.mem_append_left _ hp)
      · exact ho p (List.mem_append_right _ (List.mem_append_left _ hp))
    · exact ho p (List.mem_append_right _ (List.mem_append_right _ hp))
  refine ⟨j + 1, h, tk, D, ka, its, one, o1, o2, v1, v2, (D, listOf its.toArray ka) :: (tl7 ++ (tlg ++ tl3)), rfl, hj, rfl, fr_same F hm, ?_, d1, d2, List.mem_cons_self, hD.mono fun p hp => List.mem_append_right _ hp,
    ne _ _ List.mem_cons_self m2I, ne _ _ (List.mem_cons_of_mem _ List.mem_cons_self) mI, ne _ _ (List.mem_cons_of_mem _ (List.mem_cons_of_mem _ List.mem_cons_self)) mr, ne _ _ (List.mem_cons_of_mem _ (List.mem_cons_of_mem _ (List.mem_cons_of_mem _ List.mem_cons_self))) m2,
    ne _ _ (List.mem_cons_of_mem _ (List.mem_cons_of_mem _ (List.mem_cons_of_mem _ (List.mem_cons_of_mem _ List.mem_cons_self)))) m1, ?_, oI2⟩
  · intro p hp
    refine N p ?_
    simp only [List.cons_append, List.mem_cons, List.mem_append] at hp ⊢
    rcases hp with h | h | h | h | h | h | (h | h | h) | h
    all_goals simp [h]
  · intro p hp q hq
    have hq' : q ∈ (I2, liObj wv (j + 1)) :: (I, oI) :: (rw, oR) :: (c2, o2) :: (c1, o1) :: (tlg ++ (tl3 ++ rest)) := by simp [hn q hq]
    rcases List.mem_cons.mp hp with rfl | hp
    · exact lD q (List.mem_append_right _ hq')
    rcases List.mem_append.mp hp with hp | hp
    · exact l7 p hp q hq'
    rcases List.mem_append.mp hp with hp | hp
    · exact lg p hp q hq
    · exact l3 p hp q hq
theorem dat_str {n1 n2 : List (Addr × Obj)} : ∀ {its : List Value} {ps : List Pt}, DatAll n1 its (ps.map stD) → DatAll n2 its (ps.map stD)
  | [], [], _ => DatAll.nil
  | [], _ :: _, h => by cases h
  | _ :: _, [], h => by cases h
  | v :: its, p :: ps, h => by
    cases h with
    | cons h1 h2 =>
      unfold stD at h1
      cases h1 with
      | str _ t => exact DatAll.cons (DatIn.str _ t) (dat_str h2)
theorem list_rest {nw : List (Addr × Obj)} {a : Addr} {its : List Value} {ps : List Pt} {kg : Nat} {tl pre rest : List (Addr × Obj)} (h : (a, listOf its.toArray kg) ∈ tl ++ (pre ++ rest)) (hd : DatAll nw its (ps.map stD)) (hp : ∀ p ∈ pre, p.2.cls ≠ .type "list" ∨ (∃ v, p.2.data = .cell v) ∨ ∃ rs D k, p.2 = listOf (rs ++ [Value.ref D]).toArray k) : (a, listOf its.toArray kg) ∈ tl ++ rest := by
  rcases List.mem_append.mp h with h | h
  · exact List.mem_append_left _ h
  rcases List.mem_append.mp h with h | h
  · rcases hp _ h with h | ⟨v, h⟩ | ⟨rs, D, k, h⟩
    · exact absurd rfl h
    · cases h
    · exfalso
      have e := congrArg Obj.data h
      simp only [Data.seq.injEq, Array.mk.injEq] at e
      obtain ⟨e, _⟩ := e
      have e2 : its = rs ++ [Value.ref D] := e
      have hl : its.length = ps.length := by rw [hd.length, List.length_map]
      have hi : rs.length < ps.length := by rw [← hl, e2, List.length_append]; simp
      have d := datAll_at hd (i := rs.length) (v := .ref D) (by rw [e2]; simp)
      rw [getD_map hi] at d
      unfold stD at d
      cases d
  · exact List.mem_append_right _ h
theorem stD_ok {M : Nat} (hM : M < 10 ^ 40) {p : Pt} (h : InB M p) : kqdOk 8 (stD p) = true := txt_ok p
theorem rj_start {A : Around} {fr : List Env} {h₀ g' : Heap} {L' : Nat} {p0 : Pt} {moves : List Pt} {t u : Tok} {am : Addr} {news : List (Addr × Obj)} {s : Shared} {I rw wv kn D tk : Nat} {oD o1 o2 : Obj} {h : Heap} {mm : PySem.Str → Option Value} {v1 v2 : Option Value}
    (F : Fr g' L' h mm) (N : News g' L' h ((I, rgObj 0 4 1) :: (D, oD) :: (rw, listOf #[] 0) :: (wv, listOf #[.str (txt p0) t] 0) :: (kn, listOf #[.str (txt p0) t] 0) :: (L' + 1 + 1, o2) :: (L' + 1, o1) :: news))
    (hm : ∀ y, mm y = mmR p0 t u am (.ref kn) (.ref wv) (.ref rw) none none none y) (d1 : o1.data = .cell v1) (d2 : o2.data = .cell v2) (l0 : ∀ p ∈ news, p.1 < L') (l1 : L' + 1 + 1 < kn) (l2 : kn < wv) (l3 : wv < rw) (l4 : rw < D) (l5 : D < I)
    (B : Below A h₀ fr g') (st : h₀.StaysIn g') : RJ A fr h₀ g' L' (L' + 1) (L' + 1 + 1) p0 moves t u am news s I rw 4 { s with heap := h, toks := tk } := by
  have one : DatAll ([(D, oD), (wv, listOf #[.str (txt p0) t] 0), (kn, listOf #[.str (txt p0) t] 0)] ++ news) [.str (txt p0) t] [stD p0] := DatAll.one (.str _ t)
  have ne : ∀ c : Nat, c ≠ D → c ≠ wv → c ≠ kn → L' ≤ c → ∀ p ∈ [(D, oD), (wv, listOf #[.str (txt p0) t] 0), (kn, listOf #[.str (txt p0) t] 0)] ++ news, p.1 ≠ c := by
    intro c h1 h2 h3 h4 p hp
    simp only [List.cons_append, List.nil_append, List.mem_cons] at hp
    rcases hp with rfl | rfl | rfl | hp
    · exact Ne.symm h1
    · exact Ne.symm h2
    · exact Ne.symm h3
    · exact Nat.ne_of_lt (Nat.lt_of_lt_of_le (l0 p hp) h4)
  refine ⟨0, g', h, tk, kn, wv, 0, 0, 0, [.str (txt p0) t], [.str (txt p0) t], [], none, none, none, o1, o2, v1, v2, [(D, oD), (wv, listOf #[.str (txt p0) t] 0), (kn, listOf #[.str (txt p0) t] 0)], rfl, Nat.zero_le _, rfl, fr_same F hm, ?_, d1, d2, ?_, one, ?_, one, DatAll.nil,
    ne I (by omega) (by omega) (by omega) (by omega), ne rw (by omega) (by omega) (by omega) (by omega), ne _ (by omega) (by omega) (by omega) (by omega), ne _ (by omega) (by omega) (by omega) (by omega), B, st, Heap.UpToSlots.refl _, ?_, by omega, by omega, by omega⟩
  · intro p hp
    refine N p ?_
    simp only [List.cons_append, List.nil_append, List.mem_cons] at hp ⊢
    rcases hp with h | h | h | h | h | h | h | h
    · exact .inl h
    · exact .inr (.inr (.inl h))
    · exact .inr (.inr (.inr (.inr (.inr (.inl h)))))
    · exact .inr (.inr (.inr (.inr (.inr (.inr (.inl h))))))
    · exact .inr (.inl h)
    · exact .inr (.inr (.inr (.inl h)))
    · exact .inr (.inr (.inr (.inr (.inl h))))
    · exact .inr (.inr (.inr (.inr (.inr (.inr (.inr h))))))
  · simp
  · simp
  · intro p hp q hq
    have := ltN (l0 q hq)
    simp only [List.mem_cons, List.not_mem_nil, or_false] at hp
    rcases hp with rfl | rfl | rfl
    · show @LT.lt Nat _ _ _; dsimp only; omega
    · show @LT.lt Nat _ _ _; dsimp only; omega
    · show @LT.lt Nat _ _ _; dsimp only; omega
theorem rj_next {A : Around} {fr : List Env} {h₀ g' g h : Heap} {L' c1 c2 : Nat} {p0 : Pt} {moves : List Pt} {t u : Tok} {am : Addr} {news tlo tl3 tl : List (Addr × Obj)} {s : Shared} {I rw K DR i tk kR kK cR ko : Nat} {ao : Addr} {o1 o2 : Obj} {mm : PySem.Str → Option Value} {v1 v2 k ways one : Option Value} {kits oits acc rs : List Value}
    (hi : i < 4) (F : Fr g L' h mm) (N : News g L' h ((K, listOf kits.toArray kK) :: (I, rgObj ((i + 1 : Nat) : Int) ((4 - (i + 1) : Nat) : Int) 1) :: (rw, listOf (rs ++ [Value.ref DR]).toArray kR) :: (c2, o2) :: (c1, o1) :: (tlo ++ (DR, listOf acc.toArray cR) :: (tl3 ++ (tl ++ news)))))
    (hm : ∀ y, mm y = mmR p0 t u am (.ref K) (.ref ao) (.ref rw) k ways one y) (d1 : o1.data = .cell v1) (d2 : o2.data = .cell v2)
    (lK : ∀ p ∈ (I, rgObj ((i + 1 : Nat) : Int) ((4 - (i + 1) : Nat) : Int) 1) :: (rw, listOf (rs ++ [Value.ref DR]).toArray kR) :: (c2, o2) :: (c1, o1) :: (tlo ++ (DR, listOf acc.toArray cR) :: (tl3 ++ (tl ++ news))), p.1 < K)
    (lo : ∀ p ∈ tlo, ∀ q ∈ [(I, rgObj ((i + 1 : Nat) : Int) ((4 - (i + 1) : Nat) : Int) 1), (rw, listOf (rs ++ [Value.ref DR]).toArray kR), (c2, o2), (c1, o1)] ++ ((DR, listOf acc.toArray cR) :: (tl3 ++ (tl ++ news))), q.1 < p.1)
    (lD : ∀ c : Nat, (c = I ∨ c = rw ∨ c = c2 ∨ c = c1 ∨ ∃ q ∈ news, c = q.1) → c < DR)
    (l3 : ∀ p ∈ tl3, ∀ q ∈ news, q.1 < p.1) (lt : ∀ p ∈ tl, ∀ q ∈ news, q.1 < p.1) (mI : ∀ p ∈ tl3 ++ (tl ++ news), p.1 ≠ I) (mr : ∀ p ∈ tl3 ++ (tl ++ news), p.1 ≠ rw) (m2 : ∀ p ∈ tl3 ++ (tl ++ news), p.1 ≠ c2) (m1 : ∀ p ∈ tl3 ++ (tl ++ news), p.1 ≠ c1)
    (hkD : DatAll [] kits ((wst p0 moves (i + 1)).1.map stD)) (hao : (ao, listOf oits.toArray ko) ∈ tlo ++ (DR, listOf acc.toArray cR) :: (tl3 ++ (tl ++ news))) (hoD : DatAll [] oits ((wst p0 moves (i + 1)).2.1.map stD)) (hrs : DatAll (tl ++ news) rs ((wst p0 moves i).2.2.map rowD)) (hacc : DatAll [] acc ((rowOf p0 moves i).map stD))
    (B : Below A h₀ fr g) (st : h₀.StaysIn g) (U : g'.UpToSlots g) (o12 : c1 < c2) (o2r : c2 < rw) (orI : rw < I) :
    RJ A fr h₀ g' L' c1 c2 p0 moves t u am news s I rw (4 - (i + 1)) { s with heap := h, toks := tk } := by
  have sub : ∀ p, p ∈ ((K, listOf kits.toArray kK) :: (tlo ++ (DR, listOf acc.toArray cR) :: (tl3 ++ tl))) ++ news → p = (K, listOf kits.toArray kK) ∨ p ∈ tlo ∨ p = (DR, listOf acc.toArray cR) ∨ p ∈ tl3 ++ (tl ++ news) := fun p hp => by
    simp only [List.cons_append, List.append_assoc, List.mem_cons, List.mem_append] at hp ⊢
    rcases hp with h | h | h | h | h | h
    all_goals simp [h]
  have sup : ∀ p, p ∈ tlo ++ (DR, listOf acc.toArray cR) :: (tl3 ++ (tl ++ news)) → p ∈ ((K, listOf kits.toArray kK) :: (tlo ++ (DR, listOf acc.toArray cR) :: (tl3 ++ tl))) ++ news := fun p hp => by
    simp only [List.cons_append, List.append_assoc, List.mem_cons, List.mem_append] at hp ⊢
    rcases hp with h | h | h | h | h
    all_goals simp [h]
  have ne : ∀ (c : Nat) ob, (c, ob) ∈ [(I, rgObj ((i + 1 : Nat) : Int) ((4 - (i + 1) : Nat) : Int) 1), (rw, listOf (rs ++ [Value.ref DR]).toArray kR), (c2, o2), (c1, o1)] → c < DR → (∀ p ∈ tl3 ++ (tl ++ news), p.1 ≠ c) → ∀ p ∈ ((K, listOf kits.toArray kK) :: (tlo ++ (DR, listOf acc.toArray cR) :: (tl3 ++ tl))) ++ news, p.1 ≠ c := by
    intro c ob hc hd ho p hp
    rcases sub p hp with rfl | h | rfl | h
    · exact Nat.ne_of_gt (lK (c, ob) (List.mem_append_left _ hc))
    · exact Nat.ne_of_gt (lo p h (c, ob) (List.mem_append_left _ hc))
    · exact Nat.ne_of_gt hd
    · exact ho p h
  refine ⟨i + 1, g, h, tk, K, ao, kK, ko, kR, kits, oits, rs ++ [Value.ref DR], k, ways, one, o1, o2, v1, v2, (K, listOf kits.toArray kK) :: (tlo ++ (DR, listOf acc.toArray cR) :: (tl3 ++ tl)), rfl, hi, rfl, fr_same F hm, ?_, d1, d2, List.mem_cons_self, dat_str hkD, sup _ hao, dat_str hoD, ?_,
    ne I _ List.mem_cons_self (lD _ (.inl rfl)) mI, ne rw _ (List.mem_cons_of_mem _ List.mem_cons_self) (lD _ (.inr (.inl rfl))) mr, ne c2 _ (List.mem_cons_of_mem _ (List.mem_cons_of_mem _ List.mem_cons_self)) (lD _ (.inr (.inr (.inl rfl)))) m2,
    ne c1 _ (List.mem_cons_of_mem _ (List.mem_cons_of_mem _ (List.mem_cons_of_mem _ List.mem_cons_self))) (lD _ (.inr (.inr (.inr (.inl rfl))))) m1, B, st, U, ?_, o12, o2r, orI⟩
  · intro p hp
    refine N p ?_
    simp only [List.cons_append, List.append_assoc, List.mem_cons, List.mem_append] at hp ⊢
    rcases hp with h | h | h | h | h | h | h | h | h | h
    all_goals simp [h]
  · show DatAll _ _ (((wst p0 moves i).2.2 ++ [rowOf p0 moves i]).map rowD)
    rw [List.map_append]
    refine (hrs.mono fun p hp => sup p ?_).append (DatAll.one (DatIn.list (sup (DR, listOf acc.toArray cR) ?_) (dat_str hacc)))
    · exact List.mem_append_right _ (List.mem_cons_of_mem _ (List.mem_append_right _ hp))
    · exact List.mem_append_right _ List.mem_cons_self
  · intro p hp q hq
    have hq3 : q ∈ tl3 ++ (tl ++ news) := List.mem_append_right _ (List.mem_append_right _ hq)
    rcases List.mem_cons.mp hp with rfl | hp
    · exact lK q (by simp only [List.mem_cons, List.mem_append]; simp [hq])
    rcases List.mem_append.mp hp with hp | hp
    · exact lo p hp q (List.mem_append_right _ (List.mem_cons_of_mem _ hq3))
    rcases List.mem_cons.mp hp with rfl | hp
    · exact lD _ (.inr (.inr (.inr (.inr ⟨q, hq, rfl⟩))))
    rcases List.mem_append.mp hp with hp | hp
    · exact l3 p hp q hq
    · exact lt p hp q hq

end
section
local macro_rules | `(tactic| walk_at "subscriptTail Name UnaryOp ref int") => `(tactic| (refine Paused.of ?_))
local macro_rules | `(tactic| walk_at "subscriptTail") => `(tactic| (refine Paused.of ?_))
local macro_rules | `(tactic| walk_at "call type:list") => `(tactic| (refine Paused.of ?_))
local macro_rules | `(tactic| walk_at "call builtin:list.append") => `(tactic| (refine Paused.of ?_))
local macro_rules | `(tactic| walk_at "binaryOp Mod str ref") => `(tactic| (refine Paused.of ?_))
local macro_rules | `(tactic| walk_at "binaryOp Add ref ref") => `(tactic| (refine Paused.of ?_))
local macro_rules | `(tactic| walk_at "exec For") => `(tactic| (refine Paused.of ?_))
local macro_rules | `(tactic| walk_at "exec For Name Name cons nil") => `(tactic| (refine Paused.of ?_))
local macro_rules | `(tactic| walk_at "exec For Name Call cons nil") => `(tactic| (refine Paused.of ?_))
local macro_rules | `(tactic| walk_at "call ref") => `(tactic| (refine Paused.of ?_))
local macro_rules | `(tactic| k_all) => `(tactic| first | assumption | (refine List.forall_mem_append.mpr ⟨?_, ?_⟩ <;> k_all))
set_option maxRecDepth 100000
set_option maxHeartbeats 8000000 in
theorem rounds (w : World) (loose : List PySem.Str) (mean : ExcName → Option Value) (mg mb : PySem.Str → Option Value) (p0 : Pt) (moves : List Pt) {MB : Nat} (hp0 : InB MB p0) (hMB : MB + 10 < 10 ^ 40) (hmv : ∀ p ∈ moves, InB 2 p) (hml : moves.length ≤ 3) :
  ∀ (dp un : Nat) (gd : Option (List Code)) (cn : PySem.Str) (cs : Scope) (a : Addr) (ccd : Value) (cl : List (PySem.Str × Addr)) (outer : List Env) (A₀ : Around) (h₀ : Heap) (L : Addr) (m : PySem.Str → Option Value) (news : List (Addr × Obj)) (s : Shared)
    (Q E : Value → Shared → Prop) (t u : Tok) (am km : Nat) (its : List Value),
    Below A₀ h₀ outer h₀ → Fr h₀ L s.heap m → (hd.heap_39 w.params).In h₀ → News h₀ L s.heap news → Top hd.view_39 loose mean mg mb h₀ → cs.kind = .function →
    (am, listOf its.toArray km) ∈ news → DatAll news its (moves.map ptD) → dp + 8 < recursionLimit → un + 8 * 8 + 100 < cLine →
    (∀ r tl h' tk', Fr h₀ L h' m → News h₀ L h' (tl ++ news) → (∀ p ∈ tl, ∀ q ∈ news, q.1 < p.1) → ListD (tl ++ news) r ((wst p0 moves 4).2.2.map rowD) → Q r { s with heap := h', toks := tk' }) →
    wpAny (model PySem.Challenge.rw_ij0069_01.row.prog w) (ktrTop dp un gd cn cs L a ccd cl outer) (call (.ref 75) [.str (txt p0) t, .ref am, .int 4 u]) Q E s := by
  k_fill
  intro dp un gd cn cs a ccd cl outer A₀ h₀ L m news s Q E t u am km its B F X N T hk hm1 hD1 hd hu hret
  refine wpAny_call ?_
  refine' code_defR B F X N T rfl rfl hk ?k6 ?k7 ?k8 ?k9 ?kB ?kD ?_ ?c2 ?c3 ?c4
  case k6 => k_is
  case k7 => k_is
  case k8 => ktr_room
  case k9 => exact BindsTo.of_eq rfl
  case kB => exact rfl
  case kD => decide +kernel
  case c2 => exact rfl
  case c3 => exact rfl
  case c4 => exact rfl
  k_whole
  intro g' L' h' tk' cells' FG' F' N' Y' B' X' T' l1
  k_cells Y'
  try simp only [List.cons_append, List.nil_append] at N'
  try dsimp only
  try k_fold
  k_steps
  unfold Paused
  refine wpAny_For ?_
  k_steps
  rename IsRange _ _ _ _ _ _ _ _ => hr
  rename Fr g' _ _ _ => F1
  rename News g' _ _ _ => N1
  refine wpAny_pyIter_range hr (by decide) ?_
  have hlt := fun (p : Addr × Obj) hp => Heap.lt_size (N1 p hp).1
  replace N1 := N1.push F1 (rgObj 0 4 1)
  replace F1 := F1.push (rgObj 0 4 1)
  refine for_turns (RJ _ _ h₀ g' L' (L' + 1) (L' + 1 + 1) p0 moves t u am news s _ _) 4 (rj_start F1 N1 (fun y => ?hm) (by assumption) (by assumption) l1 ?o1 ?o2 ?o3 ?o4 ?o5 B' (fun b o e => FG'.keep b o e)) PassesOwn.leaving ?turn
  case hm =>
    by_cases h1 : y = "known"
    · subst h1; rfl
    by_cases h2 : y = "wave"
    · subst h2; rfl
    by_cases h3 : y = "rows"
    · subst h3; rfl
    by_cases h4 : y = "k"
    · subst h4; rfl
    by_cases h5 : y = "ways"
    · subst h5; rfl
    by_cases h6 : y = "one"
    · subst h6; rfl
    by_cases h7 : y = "place"
    · subst h7; rfl
    by_cases h8 : y = "moves"
    · subst h8; rfl
    by_cases h9 : y = "many"
    · subst h9; rfl
    unfold mmR
    rw [if_neg h1, if_neg h2, if_neg h3, if_neg h4, if_neg h5, if_neg h6, if_neg h7, if_neg h8, if_neg h9, if_neg h1, if_neg h2, if_neg h3]
    show (if y = "many" then _ else if y = "moves" then _ else if y = "place" then _ else none) = none
    rw [if_neg h9, if_neg h8, if_neg h7]
  case o1 => omega
  case o2 => omega
  case o3 => omega
  case o4 => omega
  case o5 => exact hlt (_, _) List.mem_cons_self
  clear F1 N1 hr hlt
  rename_i rwA _ _ _ _ _ _ _ _ _ _ _ hI _ _ _ _ _
  rintro n s' ⟨i, g, h, tkJ, kn, wv, kk, kw, kR, kits, wits, rs, kv, ways, one, o1, o2, v1, v2, tl, rfl, hi4, rfl, F1, N1, d1, d2, hkn, hkD, hwv, hwD, hrs, nI, nr, n2, n1, B1, st, U, lt, o12, o2r, orI⟩
  clear X' T' B'
  have X1 := X.keeps st
  have T1 := T.keeps st
  have nI2 : ∀ p ∈ (rwA, listOf rs.toArray kR) :: (L' + 1 + 1, o2) :: (L' + 1, o1) :: (tl ++ news), p.1 ≠ hI.objs.size := by
    refine List.forall_mem_cons.mpr ⟨neN (by dsimp only; exact Nat.ne_of_lt orI), List.forall_mem_cons.mpr ⟨neN (by dsimp only; omega), List.forall_mem_cons.mpr ⟨neN (by dsimp only; omega), nI⟩⟩⟩
  rcases Nat.lt_or_ge i 4 with hi | hi
  · refine range_next F1 N1 nI2 (by omega) fun h2 F2 N2 => ?_
    have er : rgObj ((i : Nat) + 1) (((4 - i : Nat) : Int) - 1) 1 = rgObj ((i + 1 : Nat) : Int) ((4 - (i + 1) : Nat) : Int) 1 := by
      rw [show ((4 - i : Nat) : Int) - 1 = ((4 - (i + 1) : Nat) : Int) by omega, show ((i : Nat) : Int) + 1 = ((i + 1 : Nat) : Int) by omega]
    rw [er] at N2
    clear F1 N1 nI2
    dsimp only
    k_steps
    unfold Paused
    refine wpAny_For ?_
    k_steps
    rename Fr g _ _ _ => F3
    rename News g _ _ _ => N3
    refine wpAny_pyIter_list (N3.isList (List.mem_cons_of_mem _ (List.mem_cons_of_mem _ (List.mem_cons_of_mem _ (List.mem_cons_of_mem _ (List.mem_cons_of_mem _ hwv)))))) ?_
    have hlt3 := fun (p : Addr × Obj) hp => Heap.lt_size (N3 p hp).1
    replace N3 := N3.push F3 (liObj wv 0)
    replace F3 := F3.push (liObj wv 0)
    rename_i lwA _ _ hI2
    refine for_turns (RK g L' (L' + 1) (L' + 1 + 1) p0 moves t u am kn wv (tl ++ news) news s _ _ hI2.objs.size hI.objs.size rwA (some (.int (i : Nat) tkJ)) (wst p0 moves i).2.1) _ (rk_start F3 N3 (one := one) (k := some (.int (i : Nat) tkJ)) (fun y => ?hm2) d1 d2 hlt3 ?hnl nI nr n2 n1 (fun p hp => List.mem_append_right _ hp)) PassesOwn.leaving ?turn2
    case hm2 =>
      by_cases h4 : y = "k"
      · subst h4; rfl
      by_cases h5 : y = "ways"
      · subst h5; rfl
      unfold mmR
      rw [if_neg h5, if_neg h4]
      simp only [if_neg h5, if_neg h4]
    case hnl => exact allLt_all (show _ ∧ _ ∧ _ ∧ _ ∧ AllLt _ _ from by assumption)
    clear F3 N3 hlt3
    rintro n s' ⟨j, h3, tkK, aw, ka, wits2, one3, o3, o4, v3, v4, tl3, rfl, hj, rfl, F3, N3, d3, d4, haw, hawD, m2I, mI, mr, m2, m1, lt3, oI2⟩
    have nI3 : ∀ p ∈ (hI.objs.size, rgObj ((i + 1 : Nat) : Int) ((4 - (i + 1) : Nat) : Int) 1) :: (rwA, listOf rs.toArray kR) :: (L' + 1 + 1, o4) :: (L' + 1, o3) :: (tl3 ++ (tl ++ news)), p.1 ≠ hI2.objs.size := by
      refine List.forall_mem_cons.mpr ⟨neN (by dsimp only; omega), List.forall_mem_cons.mpr ⟨neN (by dsimp only; omega), List.forall_mem_cons.mpr ⟨neN (by dsimp only; omega), List.forall_mem_cons.mpr ⟨neN (by dsimp only; omega), m2I⟩⟩⟩⟩
    have hwl : wits.length = (wst p0 moves i).2.1.length := by rw [hwD.length, List.length_map]
    have hwv3 : (wv, listOf wits.toArray kw) ∈ (hI.objs.size, rgObj ((i + 1 : Nat) : Int) ((4 - (i + 1) : Nat) : Int) 1) :: (rwA, listOf rs.toArray kR) :: (L' + 1 + 1, o4) :: (L' + 1, o3) :: (tl3 ++ (tl ++ news)) :=
      List.mem_cons_of_mem _ (List.mem_cons_of_mem _ (List.mem_cons_of_mem _ (List.mem_cons_of_mem _ (List.mem_append_right _ hwv))))
    cases hv : wits[j]? with
    | some v =>
      have hjl : j < (wst p0 moves i).2.1.length := by rw [← hwl]; exact (List.getElem?_eq_some_iff.mp hv).1
      have dv := datAll_at hwD hv
      rw [getD_map hjl] at dv
      obtain ⟨pj, hpj⟩ : ∃ pj, pj = (wst p0 moves i).2.1.getD j (0, 0) := ⟨_, rfl⟩
      rw [← hpj] at dv
      obtain ⟨tj, rfl⟩ : ∃ tj, v = .str (txt pj) tj := by
        cases dv with
        | str _ t => exact ⟨t, rfl⟩
      refine list_next F3 N3 nI3 hwv3 hv fun h4 F4 N4 => ?_
      clear F3 N3
      dsimp only
      k_steps
      unfold Paused
      have hjB0 : InB (MB + 2 * i) pj := by
        rw [hpj]
        exact (wst_bounds hp0 hmv hml i).2.1 _ (getD_mem hjl)
      have hjB : InB (MB + 10) pj := hjB0.mono (by omega)
      rename Fr g _ _ _ => F5
      rename News g _ _ _ => N5
      k_dflt (refine con_call (pre := [(hI2.objs.size, liObj wv (j + 1)), (hI.objs.size, rgObj ((i + 1 : Nat) : Int) ((4 - (i + 1) : Nat) : Int) 1), (rwA, listOf rs.toArray kR), (L' + 1 + 1, o4), (L' + 1, o3)]) (rest := tl3 ++ (tl ++ news)) (glc w loose mean mg mb pj (hjB.sm hMB).1 (hjB.sm hMB).2) B1 F5 X1 N5 T1 rfl ⟨tj, rfl⟩ (by ktr_room) (by ktr_units) ?_)
      intro r tlg h5 tk5 F6 N6 ltg hOut
      obtain ⟨ag, tg1, tg2, kg, rfl, hag⟩ := hOut
      have hag2 : (ag, ({ cls := .type "tuple", data := .seq #[.int pj.1 tg1, .int pj.2 tg2] kg } : Obj)) ∈ tlg ++ (tl3 ++ (tl ++ news)) := by
        refine tup_rest hag (List.forall_mem_cons.mpr ⟨.inl (show Value.type "list_iterator" ≠ .type "tuple" by decide), List.forall_mem_cons.mpr ⟨.inl (show Value.type "range_iterator" ≠ .type "tuple" by decide), List.forall_mem_cons.mpr ⟨.inl (show Value.type "list" ≠ .type "tuple" by decide), List.forall_mem_cons.mpr ⟨.inr ⟨_, d4⟩, List.forall_mem_cons.mpr ⟨.inr ⟨_, d3⟩, fun _ h => absurd h List.not_mem_nil⟩⟩⟩⟩⟩)
      have m2I' := new_off ltg List.mem_cons_self m2I
      have mI' := new_off ltg (List.mem_cons_of_mem _ List.mem_cons_self) mI
      have mr' := new_off ltg (List.mem_cons_of_mem _ (List.mem_cons_of_mem _ List.mem_cons_self)) mr
      have m2' := new_off ltg (List.mem_cons_of_mem _ (List.mem_cons_of_mem _ (List.mem_cons_of_mem _ List.mem_cons_self))) m2
      have m1' := new_off ltg (List.mem_cons_of_mem _ (List.mem_cons_of_mem _ (List.mem_cons_of_mem _ (List.mem_cons_of_mem _ List.mem_cons_self)))) m1
      have ltg' : ∀ p ∈ tlg, ∀ q ∈ news, q.1 < p.1 := fun p hp q hq => ltg p hp q (List.mem_append_right _ (List.mem_append_right _ (List.mem_append_right _ hq)))
      clear ltg hag F5 N5 m2I mI mr m2 m1
      simp only [List.cons_append, List.nil_append] at N6
      k_steps
      rename Fr g _ _ _ => F7
      rename News g _ _ _ => N7
      have hmv5 : DatAll (tlg ++ (tl3 ++ (tl ++ news))) its (moves.map ptD) := hD1.mono fun p hp => List.mem_append_right _ (List.mem_append_right _ (List.mem_append_right _ hp))
      obtain ⟨xy, hxy, hxyv⟩ := pairs_of hmv5
      refine pairs_E (vs := its) (xy := xy) rfl F7 N7 (k := km) (List.mem_cons_of_mem _ (List.mem_cons_of_mem _ (List.mem_cons_of_mem _ (List.mem_cons_of_mem _ (List.mem_cons_of_mem _ (List.mem_append_right _ (List.mem_append_right _ (List.mem_append_right _ hm1)))))))) (by decide) (by rfl) (by decide) (by rfl) (by rfl)
        (by rw [hD1.length, List.length_map, sizeLine_eq]; omega) (fun i v hv => let ⟨T, k, e, hm⟩ := hxy i v hv; ⟨T, k, e, List.mem_cons_of_mem _ (List.mem_cons_of_mem _ (List.mem_cons_of_mem _ (List.mem_cons_of_mem _ (List.mem_cons_of_mem _ hm))))⟩) (fun i => stD (mv pj (moves.getD i (0, 0)))) ?el ?fin
      case el =>
        rintro l h6 hl C D oC mc own h7 tk7 ys tl7 E' ⟨hka, hkb⟩ hC F8 N8
        obtain ⟨ta, tb, exy⟩ := hxyv l hl
        rw [exy] at hka hkb
        dsimp only at hka hkb
        clear F7 N7
        k_steps
        rename Fr g _ _ _ => F9
        rename News g _ _ _ => N9
        rename (∀ p ∈ own ++ _, p.1 < _) => l9
        have hll : l < moves.length := by rw [hD1.length, List.length_map] at hl; exact hl
        have hs9 : InB (MB + 2 * i + 2) (mv pj (moves.getD l (0, 0))) := hjB0.mv (hmv _ (getD_mem hll))
        have hs10 := hs9.sm (by omega)
        unfold Paused
        refine fmt_mod N9 List.mem_cons_self hs10.1 hs10.2 fun t9 k9 => ?_
        refine ⟨_, _, [(_, _)], rfl, F9, N9, fun p hp => ?_, DatIn.str _ t9⟩
        rw [List.mem_singleton.mp hp]
        exact l9
      case fin =>
        intro h6
        refine finL fun v h7 tk7 tl7 F8 N8 lt7 hv7 => ?_
        obtain ⟨av, aits, kv7, rfl, hm7, hd7⟩ := hv7
        clear F7 N7
        k_steps
        unfold Paused
        refine add_l F8 N8 (List.mem_append_right _ (List.mem_cons_of_mem _ (List.mem_cons_of_mem _ (List.mem_cons_of_mem _ (List.mem_cons_of_mem _ (List.mem_cons_of_mem _ (List.mem_append_right _ haw))))))) hm7 ?_ fun D8 h8 F9 N9 l9 => ?_
        · rw [hawD.length, hd7.length, List.length_map, List.length_map, List.length_range, leads_len, List.length_take]
          have b1 : (wst p0 moves i).2.1.length ≤ 3 ^ 4 := Nat.le_trans (wst_bounds hp0 hmv hml i).2.2.1 (Nat.pow_le_pow_right (by decide) hi4)
          have b2 : min j (wst p0 moves i).2.1.length * moves.length ≤ 3 ^ 4 * 3 := Nat.mul_le_mul (Nat.le_trans (Nat.min_le_right ..) b1) hml
          have b3 : its.length ≤ 3 := by rw [hD1.length, List.length_map]; exact hml
          rw [sizeLine_eq]
          omega
        clear F8 N8
        k_steps
        rename Fr g _ _ _ => F10
        rename News g _ _ _ => N10
        refine ⟨_, Nat.sub_lt_sub_left hjl (Nat.lt_succ_self j), rk_next F10 N10 (one := some (.str (txt pj) tj)) (fun y => ?hm3) (by assumption) (by assumption) ?hdd l9 lt7 hjl m2I' mI' mr' m2' m1' (fun p hp => List.mem_append_right _ hp) ltg' lt3 oI2⟩
        case hm3 =>
          by_cases h4 : y = "ways"
          · subst h4; rfl
          by_cases h5 : y = "one"
          · subst h5; rfl
          unfold mmR
          rw [if_neg h4, if_neg h5]
          simp only [if_neg h5, if_neg h4]
        case hdd =>
          rw [leads_take hjl, List.map_append, ← hpj]
          have e9 : (List.range its.length).map (fun i => stD (mv pj (moves.getD i (0, 0)))) = (moves.map (mv pj)).map stD := by
            rw [show its.length = moves.length by rw [hD1.length, List.length_map], List.map_map]
            exact range_map (f := stD ∘ mv pj) moves
          rw [e9] at hd7
          exact (dat_str hawD).append (dat_str hd7)
    | none =>
      have hje : j = (wst p0 moves i).2.1.length := Nat.le_antisymm hj (by rw [← hwl]; exact List.getElem?_eq_none_iff.mp hv)
      refine list_stop rfl F3 N3 nI3 hwv3 hv fun h4 F4 N4 => ?_
      clear F3 N3
      dsimp only
      k_steps
      unfold Paused
      rename Fr g _ _ _ => F5
      rename News g _ _ _ => N5
      have estr : ∀ ps : List Pt, ps.map stD = (ps.map txt).map Dat.str := fun ps => by rw [List.map_map]; rfl
      have hwb := wst_bounds hp0 hmv hml i
      rw [hje, List.take_length, estr] at hawD
      rw [estr] at hkD
      k_dflt (refine diff w loose mean mg mb ((leads (wst p0 moves i).2.1 moves).map txt) ((wst p0 moves i).1.map txt) ?hb _ _ _ _ _ _ _ _ _ _ _ _ _ _ _ _ _ _ aw kn ka kk wits2 kits B1 F5 X1 N5 T1 rfl (List.mem_cons_of_mem _ (List.mem_cons_of_mem _ (List.mem_cons_of_mem _ (List.mem_cons_of_mem _ haw)))) (hawD.mono fun p hp => List.mem_cons_of_mem _ (List.mem_cons_of_mem _ (List.mem_cons_of_mem _ (List.mem_cons_of_mem _ hp)))) (List.mem_cons_of_mem _ (List.mem_cons_of_mem _ (List.mem_cons_of_mem _ (List.mem_cons_of_mem _ (List.mem_append_right _ hkn))))) (hkD.mono fun p hp => List.mem_cons_of_mem _ (List.mem_cons_of_mem _ (List.mem_cons_of_mem _ (List.mem_cons_of_mem _ (List.mem_append_right _ hp))))) (by ktr_room) (by ktr_units) ?_)
      case hb =>
        rw [List.length_map]
        have b1 : (wst p0 moves i).1.length ≤ 3 ^ 5 := Nat.le_trans hwb.2.2.2 (Nat.pow_le_pow_right (by decide) (by omega))
        have b2 : 3 ^ 5 + 1 < scanBound := by decide
        omega
      intro Iff xff dff qff Sff off h6 tk6 F6 N6 x1 x2 x3 x4 x5 hS6
      clear F5 N5
      k_steps
      unfold Paused
      have hzz : wits2.length < sizeLine := by
        rw [hawD.length, List.length_map, List.length_map, leads_len, sizeLine_eq]
        have b1 : (wst p0 moves i).2.1.length ≤ 3 ^ 4 := Nat.le_trans hwb.2.2.1 (Nat.pow_le_pow_right (by decide) hi4)
        have b2 : (wst p0 moves i).2.1.length * moves.length ≤ 3 ^ 4 * 3 := Nat.mul_le_mul b1 hml
        omega
      k_dflt (refine ff_list (ff_next w loose mean mg mb ((leads (wst p0 moves i).2.1 moves).map txt) ((wst p0 moves i).1.map txt)) B1 X T F6 N6 rfl rfl rfl (by ktr_room) rfl x1 x2 x3 x4 x5 (List.mem_cons_of_mem _ (List.mem_cons_of_mem _ (List.mem_cons_of_mem _ (List.mem_cons_of_mem _ haw)))) (hawD.mono fun p hp => List.mem_cons_of_mem _ (List.mem_cons_of_mem _ (List.mem_cons_of_mem _ (List.mem_cons_of_mem _ hp)))) hS6 hzz ?_)
      intro g2 DR acc cR h7 tk7 F7 N7 lDR haccD B2 st2 U2
      have X2 := X.keeps st2
      have T2 := T.keeps st2
      have offU := U.trans U2
      clear F6 N6 X1 T1 B1 U U2 hS6
      rw [off_map (M := MB + 10) hMB (fun p hp => (leads_in hwb.2.1 hmv p hp).mono (by omega)) (fun p hp => (hwb.1 p hp).mono (by omega)), ← estr] at haccD
      k_steps
      unfold Paused
      have hrl : rs.length ≤ 4 := by
        rw [hrs.length, List.length_map]
        exact Nat.le_trans (Nat.le_of_eq (wst_rows p0 moves i)) hi4
      have hIn : @Ne Nat hI.objs.size rwA := by omega
      have hcn2 : @Ne Nat (L' + 1 + 1) rwA := by omega
      have hcn1 : @Ne Nat (L' + 1) rwA := by omega
      refine append_K F7 N7 (Upd.tail ?ne1 (Upd.tail ?ne2 (Upd.head ?al))) (fun h8 F8 N8 => ?_) (by rw [List.size_toArray, sizeLine_eq]; omega)
      case ne1 => exact Nat.ne_of_gt (lDR (rwA, listOf rs.toArray kR) (List.mem_cons_of_mem _ List.mem_cons_self))
      case ne2 => exact hIn
      case al => exact List.forall_mem_cons.mpr ⟨hcn2, List.forall_mem_cons.mpr ⟨hcn1, mr⟩⟩
      have epush : rs.toArray.push (.ref DR) = (rs ++ [Value.ref DR]).toArray := List.push_toArray ..
      rw [epush] at N8
      clear F7 N7
      k_steps
      unfold Paused
      refine item_last (N8.isList (List.mem_cons_of_mem _ (List.mem_cons_of_mem _ List.mem_cons_self))) ?_
      k_steps
      unfold Paused
      have hrowB : ∀ p ∈ rowOf p0 moves i, InB (MB + 10) p := fun p hp => (leads_in hwb.2.1 hmv p (off_sub hp)).mono (by omega)
      have hrowL : (rowOf p0 moves i).length ≤ 3 ^ 4 * 3 := by
        refine Nat.le_trans (off_len _ _) ?_
        rw [leads_len]
        exact Nat.mul_le_mul (Nat.le_trans hwb.2.2.1 (Nat.pow_le_pow_right (by decide) hi4)) hml
      have hok8 : Ok8 ((rowOf p0 moves i).map stD) := fun d hd => by
        obtain ⟨q, hq, rfl⟩ := List.mem_map.mp hd
        exact stD_ok hMB (hrowB q hq)
      rename Fr g2 _ _ _ => F9
      rename News g2 _ _ _ => N9
      have N9' : News g2 L' _ ([(hI.objs.size, rgObj ((i + 1 : Nat) : Int) ((4 - (i + 1) : Nat) : Int) 1), (rwA, listOf (rs ++ [Value.ref DR]).toArray (kR + 1)), (L' + 1 + 1, o4), (L' + 1, o3)] ++ ((DR, listOf acc.toArray cR) :: (tl3 ++ (tl ++ news)))) := fun p hp => N9 p (by
        simp only [List.cons_append, List.nil_append, List.mem_cons] at hp ⊢
        rcases hp with h | h | h | h | h | h
        all_goals simp [h])
      k_dflt (refine con_call (once w loose mean mg mb ((rowOf p0 moves i).map stD) hok8 (by rw [List.length_map]; omega)) B2 F9 X2 N9' T2 rfl ⟨_, rfl, DR, acc, cR, rfl, ?hm9, ?hd9⟩ (by ktr_room) (by ktr_units) ?_)
      case hm9 => simp
      case hd9 => exact dat_str haccD
      intro r tlo h10 tk10 F10 N10 lto hOut
      clear F9 N9 N9'
      obtain ⟨ao, oits, ko, rfl, hom, hoD⟩ := hOut
      rw [once_map (fun p hp q hq e => stD_inj hMB (hrowB p hp) (hrowB q hq) e)] at hoD
      have hom2 := list_rest hom hoD (List.forall_mem_cons.mpr ⟨.inl (show Value.type "range_iterator" ≠ .type "list" by decide), List.forall_mem_cons.mpr ⟨.inr (.inr ⟨rs, DR, _, rfl⟩), List.forall_mem_cons.mpr ⟨.inr (.inl ⟨_, d4⟩), List.forall_mem_cons.mpr ⟨.inr (.inl ⟨_, d3⟩), fun _ h => absurd h List.not_mem_nil⟩⟩⟩⟩)
      simp only [List.cons_append, List.nil_append] at N10
      k_steps
      unfold Paused
      rename Fr g2 _ _ _ => F11
      rename News g2 _ _ _ => N11
      refine add_l F11 N11 (List.mem_cons_of_mem _ (List.mem_cons_of_mem _ (List.mem_cons_of_mem _ (List.mem_cons_of_mem _ (List.mem_append_right _ (List.mem_cons_of_mem _ (List.mem_append_right _ hkn))))))) (List.mem_cons_of_mem _ (List.mem_cons_of_mem _ (List.mem_cons_of_mem _ (List.mem_cons_of_mem _ hom2)))) ?sz fun KA h12 F12 N12 lKA => ?_
      case sz =>
        rw [hkD.length, hoD.length, List.length_map, List.length_map, List.length_map, sizeLine_eq]
        have b1 : (wst p0 moves i).1.length ≤ 3 ^ 5 := Nat.le_trans hwb.2.2.2 (Nat.pow_le_pow_right (by decide) (by omega))
        have b2 := Nat.le_trans (once_len (rowOf p0 moves i)) hrowL
        omega
      clear F11 N11
      k_steps
      rename Fr g2 _ _ _ => F13
      rename News g2 _ _ _ => N13
      refine ⟨_, Nat.sub_lt_sub_left hi (Nat.lt_succ_self i), rj_next hi F13 N13 (k := some (.int (i : Nat) tkJ)) (ways := some (.ref aw)) (one := one3) (fun y => ?hm13) d3 d4 lKA lto ?lD lt3 lt mI mr m2 m1 ?hkD13 hom2 (dat_str hoD) hrs (dat_str haccD) B2 st2 offU o12 o2r orI⟩
      case hm13 =>
        by_cases h4 : y = "known"
        · subst h4; rfl
        by_cases h5 : y = "wave"
        · subst h5; rfl
        unfold mmR
        rw [if_neg h4, if_neg h5]
        simp only [if_neg h5, if_neg h4]
      case lD =>
        rintro c (rfl | rfl | rfl | rfl | ⟨q, hq, rfl⟩)
        · exact lDR (_, rgObj ((i + 1 : Nat) : Int) ((4 - (i + 1) : Nat) : Int) 1) List.mem_cons_self
        · exact lDR (_, listOf rs.toArray kR) (List.mem_cons_of_mem _ List.mem_cons_self)
        · exact lDR (_, o4) (List.mem_cons_of_mem _ (List.mem_cons_of_mem _ List.mem_cons_self))
        · exact lDR (_, o3) (List.mem_cons_of_mem _ (List.mem_cons_of_mem _ (List.mem_cons_of_mem _ List.mem_cons_self)))
        · exact lDR q (List.mem_cons_of_mem _ (List.mem_cons_of_mem _ (List.mem_cons_of_mem _ (List.mem_cons_of_mem _ (List.mem_append_right _ (List.mem_append_right _ hq))))))
      case hkD13 =>
        show DatAll [] _ (((wst p0 moves i).1 ++ onceP (rowOf p0 moves i)).map stD)
        rw [List.map_append]
        rw [← estr] at hkD
        exact (dat_str hkD).append (dat_str hoD)
  · obtain rfl : i = 4 := Nat.le_antisymm hi4 hi
    refine range_stop rfl F1 N1 nI2 (by decide) fun h2 F2 N2 => ?_
    clear F1 N1 nI2
    dsimp only
    k_steps
    obtain ⟨F3, N3⟩ := leave_back FG' st U F2 N2
    refine hret _ ((rwA, listOf rs.toArray kR) :: (L' + 1 + 1, o2) :: (L' + 1, o1) :: tl) _ _ F3 N3 ?_ ⟨_, rs, kR, rfl, List.mem_cons_self, hrs.mono fun p hp => List.mem_cons_of_mem _ (List.mem_cons_of_mem _ (List.mem_cons_of_mem _ hp))⟩
    intro p hp q hq
    have lq := ltN (l1 q hq)
    rcases List.mem_cons.mp hp with rfl | hp
    · show @LT.lt Nat _ _ _; dsimp only; omega
    rcases List.mem_cons.mp hp with rfl | hp
    · show @LT.lt Nat _ _ _; dsimp only; omega
    rcases List.mem_cons.mp hp with rfl | hp
    · show @LT.lt Nat _ _ _; dsimp only; omega
    · exact lt p hp q hq

end
section
open LCg
set_option maxRecDepth 100000
/-- the names of an inner clause take an item; the others stay -/
def AsgM (prog : Program) (w : World) (A : Around) (target : PySem.Expr) (env : Env) (h₀ : Heap) (L : Addr) (nw : List (Addr × Obj)) (n : Nat) (P : Nat → Value → Heap → Prop) (Rel : Nat → (PySem.Str → Option Value) → (PySem.Str → Option Value) → Prop) : Prop :=
  ∀ i v (s : Shared) (Q : Unit → Shared → Prop) (E : Value → Shared → Prop) (m : PySem.Str → Option Value), i < n → P i v s.heap → News h₀ L s.heap nw → s.heap.Ns env.locals m →
    (∀ h' tk m₂, h'.Ns env.locals m₂ → Rel i m m₂ → (∀ b o, b ≠ env.locals → s.heap.get? b = some o → h'.get? b = some o) → Q () { s with heap := h', toks := tk }) → wpAny (model prog w) A (assign target env v) Q E s
section
variable {prog : Program} {w : World} {A : Around} {R : Result → Shared → Prop} {s : Shared} {h₀ : Heap} {L D I : Addr} {m : PySem.Str → Option Value} {fp wr : List Addr} {fz : List (Addr × Obj)} {n : Nat}
  {P Md : Nat → Value → Heap → Prop} {St : Nat → Heap → Prop} {target : PySem.Expr} {env : Env} {c : Code}
/-- a loop's level, whose invariant knows the names' values -/
theorem levelM {B : (Shared → Prop) → (Value → Shared → Prop) → Shared → Prop} (rule : LoopRule prog w A target env (.ref I) B R c)
    (W : KTurns prog w A target I fp wr n P Md St) (S : CSep h₀ L env.locals D fp wr fz) (Inv : Nat → (PySem.Str → Option Value) → List Value → List (Addr × Obj) → Prop)
    {mc : PySem.Str → Option Value} {ys : List Value} {nw : List (Addr × Obj)} (hst : St 0 s.heap) (start : CInv h₀ L m env.locals D wr fz s.heap mc ys nw) (h0 : Inv 0 mc ys nw)
    (Bmono : ∀ (P P' : Shared → Prop) (E : Value → Shared → Prop) (s : Shared), (∀ s, P s → P' s) → B P E s → B P' E s)
    (turn : ∀ i v h tk mc ys nw (E' : Value → Shared → Prop), i < n → P i v h → St (i + 1) h → CInv h₀ L m env.locals D wr fz h mc ys nw → Inv i mc ys nw →
      wpAny (model prog w) A (assign target env v) (fun _ s₂ => B (fun s₅ => ∃ h' tk' mc' ys' nw', s₅ = { s with heap := h', toks := tk' } ∧ St (i + 1) h' ∧ CInv h₀ L m env.locals D wr fz h' mc' ys' nw' ∧ Inv (i + 1) mc' ys' nw') E' s₂) E' { s with heap := h, toks := tk })
    (done : ∀ h tk mc ys nw, CInv h₀ L m env.locals D wr fz h mc ys nw → Inv n mc ys nw → R (.ok .next) { s with heap := h, toks := tk }) : codeAny (model prog w) A c R s := by
  refine rule (fun k s' => ∃ h tk mc ys nw i, s' = { s with heap := h, toks := tk } ∧ i ≤ n ∧ k = n + 1 - i ∧ St i h ∧ CInv h₀ L m env.locals D wr fz h mc ys nw ∧ Inv i mc ys nw) ?_ (n + 1) s
    ⟨s.heap, s.toks, mc, ys, nw, 0, rfl, Nat.zero_le _, rfl, hst, start, h0⟩
  rintro k s' ⟨h, tk, mc, ys, nw, i, rfl, hi, rfl, hst', X, hI⟩
  by_cases hlt : i < n
  · refine W.item i _ _ _ hlt hst' fun v h₁ tk₁ hMd hk₁ => ?_
    refine W.go i v _ _ _ hMd fun h₂ hP hst₂ hk₂ => ?_
    have X₂ := X.but S fun b o hb e => hk₂ b o hb (hk₁ b o hb e)
    refine wpAny_mono (turn i v h₂ tk₁ mc ys nw _ hlt hP hst₂ X₂ hI) (fun _ s₂ h₂' => Bmono _ _ _ _ ?_ h₂') fun _ _ e => e
    rintro s₅ ⟨h', tk', mc', ys', nw', rfl, st', X', hI'⟩
    exact ⟨n + 1 - (i + 1), by omega, h', tk', mc', ys', nw', i + 1, rfl, hlt, rfl, st', X', hI'⟩
  · obtain rfl : i = n := Nat.le_antisymm hi (Nat.not_lt.mp hlt)
    exact W.done _ _ _ hst' fun h₂ tk₂ hk₂ => done h₂ tk₂ mc ys nw (X.but S hk₂) hI
theorem turn_eltM {elt : PySem.Expr} (W : KTurns prog w A target I fp wr n P Md St) (live : ∀ i h, St i h → ∀ b ∈ wr, ∃ o, h.get? b = some o) (S : CSep h₀ L env.locals D fp wr fz)
    {J : List Value → List (Addr × Obj) → Prop} {i : Nat} {h : Heap} {tk : Nat} {mc : PySem.Str → Option Value} {ys : List Value} {nw : List (Addr × Obj)} {oC : Obj} {E' : Value → Shared → Prop} {s₃ : Shared}
    (hsz : ys.length ≤ sizeLine) (X : CInv h₀ L m env.locals D wr fz h mc ys nw) (hC : NsObj oC mc) (st : St (i + 1) h)
    (el : wpAny (model prog w) A (eval elt env) (fun y s₄ => ∃ h' tk' tl, s₄ = { s with heap := h', toks := tk' } ∧ Fr h₀ L h' m ∧ News h₀ L h' (tl ++ ((ownOf h₀ fp h ++ fz) ++ (env.locals, oC) :: (D, lst ys) :: nw)) ∧ (∀ p ∈ tl, ∀ q ∈ ((ownOf h₀ fp h ++ fz) ++ (env.locals, oC) :: (D, lst ys) :: nw), q.1 < p.1) ∧ J (ys ++ [y]) (tl ++ nw)) E' s₃) :
    bodyE prog w A elt env (.ref D) (fun s₅ => ∃ h' tk' ys' nw', s₅ = { s with heap := h', toks := tk' } ∧ St (i + 1) h' ∧ CInv h₀ L m env.locals D wr fz h' mc ys' nw' ∧ J ys' nw') E' s₃ := by
  refine wpAny_mono el (fun y s₄ h₄ => ?_) fun _ _ e => e
  obtain ⟨h₄, tk₄, tl, rfl, F₄, N₄, lt, hJ⟩ := h₄
  obtain ⟨st₄, X₄⟩ := end_keep W live S X hC st F₄ N₄ lt
  refine append_at (hsz := by rw [List.size_toArray]; exact hsz) X₄.d fun h₅ hs₅ hD₅ => ?_
  refine ⟨h₅, tk₄, ys ++ [y], tl ++ nw, rfl, W.frame _ _ _ st₄ fun b hb o e => hs₅.extBut b o (fun q => S.Df (q ▸ hb)) e, ?_, hJ⟩
  exact ⟨X₄.F.change hs₅ S.DL S.D0, X₄.ns.sameBut hs₅ S.CD, hD₅.trans (congrArg some (lst_snoc ys y)), fun p hp => ⟨hs₅.extBut _ _ (X₄.off p hp).2.1 (X₄.N p hp).1, (X₄.N p hp).2⟩,
    fun p hp => ⟨hs₅.extBut _ _ (S.z p hp).2.1 (X₄.z p hp).1, (X₄.z p hp).2⟩, X₄.off⟩
end

end
section
open LCg
set_option maxRecDepth 100000
section
variable {prog : Program} {w : World} {A : Around} {E : Value → Shared → Prop} {s₂ : Shared} {h₀ : Heap} {L I : Addr} {m : PySem.Str → Option Value} {fp wr : List Addr} {env : Env} {nw₀ : List (Addr × Obj)} {n : Nat}
  {P Md : Nat → Value → Heap → Prop} {St : Nat → Heap → Prop} {elt t1 i1 t2 i2 : PySem.Expr} {scope : Scope} {cl : List (PySem.Str × Addr)} {pos : Pos} {RR : Value → Addr → Result → Shared → Prop} {Tgt : Nat → Value → (PySem.Str → Option Value) → Prop}
def dsN (n2 : Nat → Nat) (f : Nat → Nat → Dat) (n : Nat) : List Dat := (List.range n).flatMap fun i => (List.range (n2 i)).map (f i)
theorem dsN_succ {n2 : Nat → Nat} {f : Nat → Nat → Dat} {n : Nat} : dsN n2 f (n + 1) = dsN n2 f n ++ (List.range (n2 n)).map (f n) := by
  unfold dsN
  rw [List.range_succ, List.flatMap_append]
  simp
/-- what an inner clause's iterable has to bring -/
def InnE (prog : Program) (w : World) (A : Around) (h₀ : Heap) (L : Addr) (m : PySem.Str → Option Value) (i2 t2 : PySem.Expr) (scope : Scope) (cl : List (PySem.Str × Addr)) (env : Env) (nw₀ : List (Addr × Obj)) (s₂ : Shared) (Pre : (PySem.Str → Option Value) → Prop) (n2 : Nat) (Rel : Nat → (PySem.Str → Option Value) → (PySem.Str → Option Value) → Prop) : Prop :=
  ∀ C D oC mc own h tk ys tl (E' : Value → Shared → Prop) (K : Value → Shared → Prop), Pre mc → NsObj oC mc → Fr h₀ L h m → News h₀ L h (own ++ (C, oC) :: (D, lst ys) :: (tl ++ nw₀)) → (∀ p ∈ tl ++ nw₀, p.1 ≠ C ∧ p.1 ≠ D) →
    (∀ I2 fp2 wr2 P2 Md2 St2 h1 tk1, Fr h₀ L h1 m → News h₀ L h1 (own ++ (C, oC) :: (D, lst ys) :: (tl ++ nw₀)) → Src prog w A t2 h₀ L h1 (own ++ (C, oC) :: (D, lst ys) :: (tl ++ nw₀)) I2 fp2 wr2 n2 P2 Md2 St2 →
      AsgM prog w A t2 (compEnvC scope cl C env) h₀ L nw₀ n2 P2 Rel → C ∉ fp2 → D ∉ fp2 → K (.ref I2) { s₂ with heap := h1, toks := tk1 }) →
    wpAny (model prog w) A (eval i2 (compEnvC scope cl C env)) (ItAt prog w A E' K) E' { s₂ with heap := h, toks := tk }
theorem dat_N (X : Src prog w A t1 h₀ L s₂.heap nw₀ I fp wr n P Md St) (hcell : ∀ y ∈ scope.names, y.2 ≠ .cell) (hkind : scope.kind = .function) (hs : ∀ x env, foldedSetIterable i2 env x = pure x) (hh : A.handled = none) (F : Fr h₀ L s₂.heap m) (N : News h₀ L s₂.heap nw₀)
    (asg : ∀ C, AsgN prog w A t1 (compEnvC scope cl C env) h₀ L nw₀ n P Tgt) (n2 : Nat → Nat) (f : Nat → Nat → Dat) (T2 : Nat → Nat → (PySem.Str → Option Value) → Prop) (Rel : Nat → Nat → (PySem.Str → Option Value) → (PySem.Str → Option Value) → Prop)
    (sz : ∀ i, i < n → ∀ k, k < n2 i → (dsN n2 f i ++ (List.range k).map (f i)).length ≤ sizeLine)
    (inn : ∀ i v, i < n → InnE prog w A h₀ L m i2 t2 scope cl env nw₀ s₂ (Tgt i v) (n2 i) (Rel i))
    (hrel : ∀ i v k m m₂, Tgt i v m → Rel i k m m₂ → Tgt i v m₂ ∧ T2 i k m₂)
    (el : ∀ i v k C D oC mc own h tk ys tl (E' : Value → Shared → Prop), i < n → k < n2 i → Tgt i v mc → T2 i k mc → NsObj oC mc → Fr h₀ L h m → News h₀ L h (own ++ (C, oC) :: (D, lst ys) :: (tl ++ nw₀)) →
      wpAny (model prog w) A (eval elt (compEnvC scope cl C env)) (fun y s₄ => LEnd h₀ L m { s₂ with heap := h, toks := tk } (own ++ (C, oC) :: (D, lst ys) :: (tl ++ nw₀)) (tl ++ nw₀) (fun nw' => DatIn nw' y (f i k)) s₄) E' { s₂ with heap := h, toks := tk })
    (fin : ∀ D C h tk mc ys tl, CSep h₀ L C D fp wr [] → CInv h₀ L m C D wr [] h mc ys (tl ++ nw₀) → (∀ p ∈ tl, ∀ q ∈ nw₀, q.1 < p.1) → (∀ q ∈ nw₀, q.1 < D) → DatAll (tl ++ nw₀) ys (dsN n2 f n) → RR (.ref D) C (.ok .next) { s₂ with heap := h, toks := tk }) :
    wpAny (model prog w) A (newList []) (fun acc s₃ => wpAny (model prog w) A (newFunctionEnv scope env.globals cl [] env.qual none .none (some env)) (fun cenv s₄ =>
      codeAny (model prog w) A (.compStart (.ListComp elt [⟨t1, i1, [], 0⟩, ⟨t2, i2, [], 0⟩] scope pos) 0 (.ref I) acc { cenv with scope := relabel scope env }) (RR acc cenv.locals) s₄) E s₃) E s₂ := by
  refine comp_run (rest := [⟨t2, i2, [], 0⟩]) (St0 := St 0) X.self hcell hkind F N X.st X.fpl X.W.sub X.w0 X.Lf X.off fun C D h mc tk S CI st0 lt0 lt1 lt2 => ?_
  refine level (env := compEnvC scope cl C env) (s := { s₂ with heap := h, toks := tk }) (rule_outer (fun x => hs x _) hh) X.W S (InvD nw₀ fun i => dsN n2 f i) st0 CI (InvD.zero rfl)
    (fun P P' E s hP h => wpAny_mono h (fun _ _ h => wpAny_mono h (fun _ _ h => codeAny_mono h fun r s' hr => (by
      cases r with
      | ok fl => exact hP _ hr
      | error y => exact hr)) fun _ _ e => e) fun _ _ e => e) ?_ ?_
  · rintro i v h tk mc ys nw E' hi hP st CI ⟨tl, rfl, ho, hD⟩
    refine asg C i v _ _ _ _ hi hP (fun p hp => CI.N p (appMem p hp)) CI.ns fun h₂ tk₂ m₂ hn₂ ht hk => ?_
    have CI₂ := after_assign (env := compEnvC scope cl C env) S CI hn₂ hk
    have st₂ : St (i + 1) h₂ := X.W.frame _ _ _ st fun b hb o e => hk b o (fun q => S.Cf (by have q' : b = C := q; exact q' ▸ hb)) e
    obtain ⟨oC, eC, hC⟩ := ns_obj hn₂
    have TL := turn_ledger (env := compEnvC scope cl C env) S CI₂ eC
    refine inn i v hi C D oC m₂ _ h₂ tk₂ ys tl E' _ ht hC CI₂.F TL (fun p hp => ⟨(CI₂.off p hp).1, (CI₂.off p hp).2.1⟩) fun I2 fp2 wr2 P2 Md2 St2 h1 tk1 F1 N1 X2 asg2 hC2 hD2 => ?_
    have S2 : CSep h₀ L C D fp2 wr2 (ownOf h₀ fp h₂) :=
      { C0 := S.C0, CL := S.CL, D0 := S.D0, DL := S.DL, CD := S.CD, Cf := hC2, Df := hD2, wf := X2.W.sub, w0 := X2.w0, Lf := X2.Lf,
        z := fun p hp => ⟨fun e => S.Cf (e ▸ ownOf_sub p hp), fun e => S.Df (e ▸ ownOf_sub p hp), X2.off p (List.mem_append_left _ (List.mem_append_left _ hp))⟩ }
    have CI3 : CInv h₀ L m C D wr2 (ownOf h₀ fp h₂) h1 m₂ ys (tl ++ nw₀) :=
      { F := F1, ns := hC.ns (N1 (C, oC) (List.mem_append_right _ List.mem_cons_self)).1, d := (N1 (D, lst ys) (List.mem_append_right _ (List.mem_cons_of_mem _ List.mem_cons_self))).1,
        N := fun p hp => N1 p (List.mem_append_right _ (List.mem_cons_of_mem _ (List.mem_cons_of_mem _ hp))), z := fun p hp => N1 p (List.mem_append_left _ (List.mem_append_left _ hp)),
        off := fun p hp => ⟨(CI₂.off p hp).1, (CI₂.off p hp).2.1, X2.off p (List.mem_append_right _ (List.mem_cons_of_mem _ (List.mem_cons_of_mem _ hp)))⟩ }
    have go := levelM (R := fun r s' => match r with
        | .ok _ => ∃ h' tk' mc' ys' nw', s' = { s₂ with heap := h', toks := tk' } ∧ St (i + 1) h' ∧ CInv h₀ L m C D wr [] h' mc' ys' nw' ∧ InvD nw₀ (fun i => dsN n2 f i) (i + 1) ys' nw'
        | .error y => cameBackBy (model prog w) A (compEnvC scope cl C env) E' y s')
      (env := compEnvC scope cl C env) (s := { s₂ with heap := h1, toks := tk1 }) (rule_inner (acc := .ref D) (elt := elt) (t1 := t1) (i1 := i1) (t2 := t2) (i2 := i2) (scope := scope) (pos := pos)) X2.W S2
      (fun k mc ys' nw' => Tgt i v mc ∧ ∃ tl', nw' = tl' ++ nw₀ ∧ (∀ p ∈ tl', ∀ q ∈ nw₀, q.1 < p.1) ∧ DatAll nw' ys' (dsN n2 f i ++ (List.range k).map (f i)) ∧ ∀ p ∈ nw', p.1 ∉ wr)
      (X2.st _ fun _ _ e => e) CI3 ⟨ht, tl, rfl, ho, by simpa using hD, fun p hp => (CI₂.off p hp).2.2⟩ (fun P P' E s hP h => wpAny_mono h (fun _ _ h => wpAny_mono h (fun _ _ h => hP _ h) fun _ _ e => e) fun _ _ e => e) ?turn2 ?done2
    · exact start_inner go (X2.self _ _ _ (X2.st _ fun _ _ e => e) go)
    case turn2 =>
      rintro k v2 h3 tk3 mc3 ys3 nw3 E3 hk2 hP2 st3 CI4 ⟨ht3, tl3, rfl, ho3, hD3, hw3⟩
      refine asg2 k v2 _ _ _ _ hk2 hP2 (fun p hp => CI4.N p (appMem p hp)) CI4.ns fun h4 tk4 m4 hn4 hrel4 hk4 => ?_
      have CI5 := after_assign (env := compEnvC scope cl C env) S2 CI4 hn4 hk4
      have st5 : St2 (k + 1) h4 := X2.W.frame _ _ _ st3 fun b hb o e => hk4 b o (fun q => hC2 (by have q' : b = C := q; exact q' ▸ hb)) e
      obtain ⟨oC4, eC4, hC4⟩ := ns_obj hn4
      have TL4 := turn_ledger (env := compEnvC scope cl C env) S2 CI5 eC4
      obtain ⟨ht4, hT4⟩ := hrel i v k _ _ ht3 hrel4
      have key := turn_eltM (m := m) (s := { s₂ with heap := h4, toks := tk4 }) (env := compEnvC scope cl C env) (elt := elt) (E' := E3) (s₃ := { s₂ with heap := h4, toks := tk4 }) (tk := tk4) X2.W X2.live S2 (i := k) (ys := ys3) (nw := tl3 ++ nw₀) (mc := m4) (oC := oC4) (h := h4)
        (J := fun ys' nw' => ∃ tl', nw' = tl' ++ nw₀ ∧ (∀ p ∈ tl', ∀ q ∈ nw₀, q.1 < p.1) ∧ DatAll nw' ys' (dsN n2 f i ++ (List.range (k + 1)).map (f i)) ∧ ∀ p ∈ nw', p.1 ∉ wr) ?sz CI5 hC4 st5 ?elk
      · refine wpAny_mono key (fun _ _ h => wpAny_mono h (fun _ _ hp => ?_) fun _ _ e => e) fun _ _ e => e
        obtain ⟨h', tk', ys', nw', rfl, st', CI', hJ'⟩ := hp
        exact ⟨h', tk', m4, ys', nw', rfl, st', CI', ht4, hJ'⟩
      case sz => rw [hD3.length]; exact sz i hi k hk2
      case elk =>
        refine wpAny_mono (el i v k C D oC4 m4 _ h4 tk4 ys3 tl3 E3 hi hk2 ht4 hT4 hC4 CI5.F TL4) (fun y s₄ h₄ => ?_) fun _ _ e => e
        obtain ⟨h', tk', tl', e, F', N', lt, hJ⟩ := h₄
        refine ⟨h', tk', tl', e, F', N', lt, tl' ++ tl3, by rw [List.append_assoc], fun p hp q hq => ?_, ?_, fun p hp => ?_⟩
        · rcases List.mem_append.mp hp with hp | hp
          · exact lt p hp q (List.mem_append_right _ (List.mem_cons_of_mem _ (List.mem_cons_of_mem _ (List.mem_append_right _ hq))))
          · exact ho3 p hp q hq
        · have e9 : dsN n2 f i ++ (List.range (k + 1)).map (f i) = dsN n2 f i ++ (List.range k).map (f i) ++ [f i k] := by rw [List.range_succ, List.map_append, List.append_assoc]; rfl
          rw [e9]
          exact (hD3.mono appMem).append (DatAll.one hJ)
        · rcases List.mem_append.mp hp with hp | hp
          · intro hm
            obtain ⟨o, eo⟩ := X.live _ _ st₂ _ hm
            have := lt p hp _ (List.mem_append_left _ (List.mem_append_right _ (mem_ownOf (X.W.sub _ hm) (X.w0 _ hm) eo)))
            exact Nat.lt_irrefl _ this
          · exact hw3 p hp
    case done2 =>
      rintro h3 tk3 mc3 ys3 nw3 CI4 ⟨_, tl3, rfl, ho3, hD3, hw3⟩
      refine ⟨h3, tk3, mc3, ys3, tl3 ++ nw₀, rfl, X.W.frame _ _ _ st₂ fun b hb o e => ?_, ⟨CI4.F, CI4.ns, CI4.d, CI4.N, (fun _ hp => nomatch hp), fun p hp => ⟨(CI4.off p hp).1, (CI4.off p hp).2.1, hw3 p hp⟩⟩, tl3, rfl, ho3, ?_⟩
      · cases hn : h₀.get? b with
        | some o₀ =>
          have : o₀ = o := by have q := CI₂.F.keep b o₀ hn; rw [e] at q; exact (Option.some.inj q).symm
          exact this ▸ CI4.F.keep b o₀ hn
        | none => exact (CI4.z _ (mem_ownOf hb hn e)).1
      · dsimp only
        rw [dsN_succ]; exact hD3
  · rintro h tk mc ys nw CI ⟨tl, rfl, ho, hD⟩
    exact fin D C h tk mc ys tl S CI ho lt0 hD
end

end
section
open LCg
set_option maxRecDepth 100000
section
variable {prog : Program} {w : World} {A : Around} {E : Value → Shared → Prop} {s : Shared} {h₀ : Heap} {L : Addr} {m : PySem.Str → Option Value} {env : Env} {nw : List (Addr × Obj)}
  {elt iter i2 : PySem.Expr} {scope : Scope} {cl : List (PySem.Str × Addr)} {pos : Pos} {RR : Value → Addr → Result → Shared → Prop}
def RelN (x : PySem.Str) (R : Nat → Value → Prop) (k : Nat) (m m₂ : PySem.Str → Option Value) : Prop := ∃ v, R k v ∧ m₂ = fun z => if z = x then some v else m z
theorem asgM_name {x : PySem.Str} {px : Pos} {n : Nat} {P : Nat → Value → Heap → Prop} {R : Nat → Value → Prop} (hR : ∀ i v h, P i v h → R i v) (hx : env.kindOf x = some .local) (hp : (env.scope.kind == .class || (env.scope.kind == .module && env.locals != env.globals)) = false) :
    AsgM prog w A (.Name x px) env h₀ L nw n P (RelN x R) := by
  rintro i v s Q E m hi hP N hn k
  exact wpAny_assign_Name (wpAny_storeName_local hx hn (fun h' hn' hs' => k h' _ _ hn' ⟨v, hR _ _ _ hP, rfl⟩ fun b o hb e => hs'.extBut b o hb e) hp)
def RelP (a b : PySem.Str) (xy : Nat → Value × Value) (k : Nat) (m m₂ : PySem.Str → Option Value) : Prop := m₂ = fun z => if z = b then some (xy k).2 else if z = a then some (xy k).1 else m z
theorem asgM_pair {a b : PySem.Str} {pa pb tp : Pos} {kk n : Nat} {vs : List Value} {xy : Nat → Value × Value} {P : Nat → Value → Heap → Prop} (hP : ∀ i v h, P i v h → vs[i]? = some v) (hh : A.handled = none) (ha : env.kindOf a = some .local) (hb : env.kindOf b = some .local) (hp : (env.scope.kind == .class || (env.scope.kind == .module && env.locals != env.globals)) = false)
    (ht : ∀ i v, vs[i]? = some v → ∃ T k, v = .ref T ∧ (T, ({ cls := .type "tuple", data := .seq #[(xy i).1, (xy i).2] k } : Obj)) ∈ nw) :
    AsgM prog w A (.Tuple [.Name a pa, .Name b pb] kk tp) env h₀ L nw n P (RelP a b xy) := by
  rintro i v s Q E m hi hv N hn k
  obtain ⟨T, kk', rfl, hm⟩ := ht i v (hP _ _ _ hv)
  exact kcp_assign hh ⟨_, (N _ hm).1, rfl, _, rfl⟩ ha hb hp hn fun h' tk hn' hk => k h' tk _ hn' rfl hk
theorem inn_range {x2 : PySem.Str} {p2 : Pos} {r : Addr} {a b c : Int} {t u v : Tok} {n2 tk1 : Nat} {C D : Addr} {oC : Obj} {own tl nw₀ : List (Addr × Obj)} {ys : List Value} {h1 : Heap} {K : Value → Shared → Prop} (hh : A.handled = none) (hkind : scope.kind = .function) (hx2 : scope.names.lookup x2 = some .local) (F : Fr h₀ L h1 m) (N : News h₀ L h1 (own ++ (C, oC) :: (D, lst ys) :: (tl ++ nw₀)))
    (hr : IsRange h1 r a b c t u v) (hsmall : Builtin.Range.small a b c = true) (hsz : Builtin.Range.rangeSize a b c = (n2 : Int))
    (hK : ∀ I2 fp2 wr2 P2 Md2 St2 h2 tk2, Fr h₀ L h2 m → News h₀ L h2 (own ++ (C, oC) :: (D, lst ys) :: (tl ++ nw₀)) → Src prog w A (.Name x2 p2) h₀ L h2 (own ++ (C, oC) :: (D, lst ys) :: (tl ++ nw₀)) I2 fp2 wr2 n2 P2 Md2 St2 →
      AsgM prog w A (.Name x2 p2) (compEnvC scope cl C env) h₀ L nw₀ n2 P2 (RelN x2 fun k v => ∃ t, v = .int (a + k * c) t) → C ∉ fp2 → D ∉ fp2 → K (.ref I2) { s with heap := h2, toks := tk2 }) :
    ItAt prog w A E K (.ref r) { s with heap := h1, toks := tk1 } := by
  refine it_range (x := x2) (px := p2) (s := { s with heap := h1, toks := tk1 }) hh F N hr hsmall hsz fun I h' F' N' X => ?_
  have hC : C ∉ [I] := fun hm => X.off (C, oC) (List.mem_append_right _ List.mem_cons_self) hm
  have hD : D ∉ [I] := fun hm => X.off (D, lst ys) (List.mem_append_right _ (List.mem_cons_of_mem _ List.mem_cons_self)) hm
  exact hK I [I] [I] _ _ _ h' tk1 F' N' X (asgM_name (fun i v h hp => hp) (lookup_relabel_local hx2) (by simp [compEnvC, relabel, hkind])) hC hD
theorem inn_pairs {a b : PySem.Str} {pa pb tp : Pos} {kk : Nat} {ax k tk1 : Nat} {vs : List Value} {xy : Nat → Value × Value} {C D : Addr} {oC : Obj} {own tl nw₀ : List (Addr × Obj)} {ys : List Value} {h1 : Heap} {K : Value → Shared → Prop} (hh : A.handled = none) (hkind : scope.kind = .function) (ha : scope.names.lookup a = some .local) (hb : scope.names.lookup b = some .local) (F : Fr h₀ L h1 m) (N : News h₀ L h1 (own ++ (C, oC) :: (D, lst ys) :: (tl ++ nw₀)))
    (hm : (ax, listOf vs.toArray k) ∈ nw₀) (off : ∀ p ∈ tl ++ nw₀, p.1 ≠ C ∧ p.1 ≠ D) (ht : ∀ i v, vs[i]? = some v → ∃ T k, v = .ref T ∧ (T, ({ cls := .type "tuple", data := .seq #[(xy i).1, (xy i).2] k } : Obj)) ∈ nw₀)
    (hK : ∀ I2 fp2 wr2 P2 Md2 St2 h2 tk2, Fr h₀ L h2 m → News h₀ L h2 (own ++ (C, oC) :: (D, lst ys) :: (tl ++ nw₀)) → Src prog w A (.Tuple [.Name a pa, .Name b pb] kk tp) h₀ L h2 (own ++ (C, oC) :: (D, lst ys) :: (tl ++ nw₀)) I2 fp2 wr2 vs.length P2 Md2 St2 →
      AsgM prog w A (.Tuple [.Name a pa, .Name b pb] kk tp) (compEnvC scope cl C env) h₀ L nw₀ vs.length P2 (RelP a b xy) → C ∉ fp2 → D ∉ fp2 → K (.ref I2) { s with heap := h2, toks := tk2 }) :
    ItAt prog w A E K (.ref ax) { s with heap := h1, toks := tk1 } := by
  refine it_list (target := .Tuple [.Name a pa, .Name b pb] kk tp) (s := { s with heap := h1, toks := tk1 }) hh F N (List.mem_append_right _ (List.mem_cons_of_mem _ (List.mem_cons_of_mem _ (List.mem_append_right _ hm)))) (fun _ _ _ s Q E hit h => go_list hit h) fun I h' F' N' X => ?_
  have o := off _ (List.mem_append_right tl hm)
  have hC : C ∉ [I, ax] := fun hm => by
    rcases List.mem_cons.mp hm with e | hm
    · exact X.off (C, oC) (List.mem_append_right _ List.mem_cons_self) (by rw [← e]; exact List.mem_cons_self)
    · exact o.1 (List.mem_singleton.mp hm).symm
  have hD : D ∉ [I, ax] := fun hm => by
    rcases List.mem_cons.mp hm with e | hm
    · exact X.off (D, lst ys) (List.mem_append_right _ (List.mem_cons_of_mem _ List.mem_cons_self)) (by rw [← e]; exact List.mem_cons_self)
    · exact o.2 (List.mem_singleton.mp hm).symm
  exact hK I [I, ax] [I] _ _ _ h' tk1 F' N' X (asgM_pair (fun i v h hp => hp) hh (lookup_relabel_local ha) (lookup_relabel_local hb) (by simp [compEnvC, relabel, hkind]) ht) hC hD
theorem nest_range {x1 x2 : PySem.Str} {p1 p2 : Pos} {r : Addr} {a b c : Int} {t u v : Tok} {n : Nat} (hh : A.handled = none) (F : Fr h₀ L s.heap m) (N : News h₀ L s.heap nw) (hr : IsRange s.heap r a b c t u v) (hsmall : Builtin.Range.small a b c = true) (hsz : Builtin.Range.rangeSize a b c = (n : Int))
    (hcell : ∀ y ∈ scope.names, y.2 ≠ .cell) (hkind : scope.kind = .function) (hx1 : scope.names.lookup x1 = some .local) (h12 : ¬ x1 = x2) (hs : ∀ x env, foldedSetIterable i2 env x = pure x) (n2 : Nat → Nat) (f : Nat → Nat → Dat) (a2 c2 : Nat → Int)
    (sz : ∀ i, i < n → ∀ k, k < n2 i → (dsN n2 f i ++ (List.range k).map (f i)).length ≤ sizeLine)
    (inn : ∀ i t h', i < n → InnE prog w A h₀ L m i2 (.Name x2 p2) scope cl env nw { s with heap := h' } (fun mc => mc x1 = some (.int (a + i * c) t)) (n2 i) (RelN x2 fun k v => ∃ t, v = .int (a2 i + k * c2 i) t))
    (el : ∀ i k t1 t2 h', i < n → k < n2 i → ElE prog w A h₀ L m elt scope cl env nw { s with heap := h' } (fun mc => mc x1 = some (.int (a + i * c) t1) ∧ mc x2 = some (.int (a2 i + k * c2 i) t2)) (f i k))
    (fin : ∀ h', FinL h₀ L m nw { s with heap := h' } RR (dsN n2 f n)) :
    ItAt prog w A E (CompK prog w A E env (.ListComp elt [⟨.Name x1 p1, iter, [], 0⟩, ⟨.Name x2 p2, i2, [], 0⟩] scope pos) scope cl RR) (.ref r) s := by
  refine it_range (x := x1) (px := p1) hh F N hr hsmall hsz fun I h' F' N' X => ?_
  refine dat_N (s₂ := { s with heap := h' }) X hcell hkind hs hh F' N' (fun C => asg_name (R := fun i v => ∃ t, v = .int (a + i * c) t) (fun i v h hp => hp) (lookup_relabel_local hx1) (by simp [compEnvC, relabel, hkind])) n2 f
    (fun i k mc => ∃ v, (∃ t, v = .int (a2 i + k * c2 i) t) ∧ mc x2 = some v) (fun i => RelN x2 fun k v => ∃ t, v = .int (a2 i + k * c2 i) t) sz ?_ ?_ ?_ ?_
  · rintro i v hi C D oC mc own h tk ys tl E' K ⟨⟨t, rfl⟩, hmc⟩ hC F2 N2 off hK
    exact inn i t h' hi C D oC mc own h tk ys tl E' K hmc hC F2 N2 off hK
  · rintro i v k m m₂ ⟨hv, hm⟩ ⟨v2, h2, rfl⟩
    exact ⟨⟨hv, by simp [h12, hm]⟩, v2, h2, by simp⟩
  · rintro i v k C D oC mc own h tk ys tl E' hi hk ⟨⟨t1, rfl⟩, hm⟩ ⟨v2, ⟨t2, rfl⟩, hm2⟩ hC F2 N2
    exact el i k t1 t2 h' hi hk C D oC mc own h tk ys tl E' ⟨hm, hm2⟩ hC F2 N2
  · intro D C h tk mc ys tl S CI ho hD hd
    exact fin h' _ _ D C h tk mc ys tl S CI ho hD hd
theorem nest_list {x1 a b : PySem.Str} {p1 pa pb tp : Pos} {kk : Nat} {ax : Addr} {vs : List Value} {k0 : Nat} {xy : Nat → Value × Value} (hh : A.handled = none) (F : Fr h₀ L s.heap m) (N : News h₀ L s.heap nw) (hm : (ax, listOf vs.toArray k0) ∈ nw)
    (hcell : ∀ y ∈ scope.names, y.2 ≠ .cell) (hkind : scope.kind = .function) (hx1 : scope.names.lookup x1 = some .local) (h1a : ¬ x1 = a) (h1b : ¬ x1 = b) (hab : ¬ a = b) (hs : ∀ x env, foldedSetIterable i2 env x = pure x) (n2 : Nat) (f : Nat → Nat → Dat)
    (sz : ∀ i, i < vs.length → ∀ k, k < n2 → (dsN (fun _ => n2) f i ++ (List.range k).map (f i)).length ≤ sizeLine)
    (inn : ∀ (i : Nat) v h', vs[i]? = some v → InnE prog w A h₀ L m i2 (.Tuple [.Name a pa, .Name b pb] kk tp) scope cl env nw { s with heap := h' } (fun mc => mc x1 = some v) n2 (RelP a b xy))
    (el : ∀ (i k : Nat) v h', vs[i]? = some v → k < n2 → ElE prog w A h₀ L m elt scope cl env nw { s with heap := h' } (fun mc => mc x1 = some v ∧ mc a = some (xy k).1 ∧ mc b = some (xy k).2) (f i k))
    (fin : ∀ h', FinL h₀ L m nw { s with heap := h' } RR (dsN (fun _ => n2) f vs.length)) :
    ItAt prog w A E (CompK prog w A E env (.ListComp elt [⟨.Name x1 p1, iter, [], 0⟩, ⟨.Tuple [.Name a pa, .Name b pb] kk tp, i2, [], 0⟩] scope pos) scope cl RR) (.ref ax) s := by
  refine it_list (target := .Name x1 p1) hh F N hm (fun _ _ _ s Q E _ h => wpAny_of_eq rfl h) (fun I h' F' N' X => ?_)
  refine dat_N (s₂ := { s with heap := h' }) X hcell hkind hs hh F' N' (fun C => asg_name (R := fun i v => vs[i]? = some v) (fun i v h hp => hp) (lookup_relabel_local hx1) (by simp [compEnvC, relabel, hkind])) (fun _ => n2) f
    (fun i k mc => mc a = some (xy k).1 ∧ mc b = some (xy k).2) (fun i => RelP a b xy) sz ?_ ?_ ?_ ?_
  · rintro i v hi C D oC mc own h tk ys tl E' K ⟨hv, hmc⟩ hC F2 N2 off hK
    exact inn i v h' hv C D oC mc own h tk ys tl E' K hmc hC F2 N2 off hK
  · rintro i v k m m₂ ⟨hv, hm⟩ rfl
    exact ⟨⟨hv, by simp [h1a, h1b, hm]⟩, by simp [hab], by simp⟩
  · rintro i v k C D oC mc own h tk ys tl E' hi hk ⟨hv, hm⟩ ⟨hm2, hm3⟩ hC F2 N2
    exact el i k v h' hv hk C D oC mc own h tk ys tl E' ⟨hm, hm2, hm3⟩ hC F2 N2
  · intro D C h tk mc ys tl S CI ho hD hd
    exact fin h' _ _ D C h tk mc ys tl S CI ho hD hd
end

end
section
theorem kc_nine {cm : PySem.Str → Option Value} {n₁ n₂ n₃ n₄ n₅ n₆ n₇ n₈ n₉ : PySem.Str} {c₁ c₂ c₃ c₄ c₅ c₆ c₇ c₈ c₉ : Addr} {cells : List (Addr × Obj)} (x : CellsAre cm [(n₁, c₁), (n₂, c₂), (n₃, c₃), (n₄, c₄), (n₅, c₅), (n₆, c₆), (n₇, c₇), (n₈, c₈), (n₉, c₉)] cells) :
    ∃ o₁ o₂ o₃ o₄ o₅ o₆ o₇ o₈ o₉, cells = [(c₁, o₁), (c₂, o₂), (c₃, o₃), (c₄, o₄), (c₅, o₅), (c₆, o₆), (c₇, o₇), (c₈, o₈), (c₉, o₉)] ∧ o₁.data = .cell (cm n₁) ∧ o₂.data = .cell (cm n₂) ∧ o₃.data = .cell (cm n₃) ∧ o₄.data = .cell (cm n₄) ∧ o₅.data = .cell (cm n₅) ∧ o₆.data = .cell (cm n₆) ∧ o₇.data = .cell (cm n₇) ∧ o₈.data = .cell (cm n₈) ∧ o₉.data = .cell (cm n₉) := by
  cases x with | cons h r => obtain ⟨o₂, o₃, o₄, o₅, o₆, o₇, o₈, o₉, rfl, h₂, h₃, h₄, h₅, h₆, h₇, h₈, h₉⟩ := PyProof.Rows.kc_eight r; exact ⟨_, o₂, o₃, o₄, o₅, o₆, o₇, o₈, o₉, rfl, h, h₂, h₃, h₄, h₅, h₆, h₇, h₈, h₉⟩

end
section
open LCg
set_option maxRecDepth 100000
section
variable {prog : Program} {w : World} {A : Around} {E : Value → Shared → Prop} {s : Shared} {h₀ : Heap} {L : Addr} {m : PySem.Str → Option Value} {env : Env} {nw : List (Addr × Obj)}
  {elt iter ct : PySem.Expr} {scope : Scope} {cl : List (PySem.Str × Addr)} {pos : Pos} {RR : Value → Addr → Result → Shared → Prop}
theorem assign_three {env : Env} {a b c : PySem.Str} {pa pb pc tp : Pos} {kk : Nat} {T : Addr} {x y z : Value} {m : PySem.Str → Option Value} {Q : Unit → Shared → Prop} (hh : A.handled = none) (ht : s.heap.IsTuple T #[x, y, z])
    (ha : env.kindOf a = some .local) (hb : env.kindOf b = some .local) (hc : env.kindOf c = some .local) (hp : (env.scope.kind == .class || (env.scope.kind == .module && env.locals != env.globals)) = false) (hn : s.heap.Ns env.locals m)
    (h : ∀ (h' : Heap) (tk : Nat), h'.Ns env.locals (fun u => if u = c then some z else if u = b then some y else if u = a then some x else m u) → (∀ c o, c ≠ env.locals → s.heap.get? c = some o → h'.get? c = some o) → Q () { s with heap := h', toks := tk }) :
    wpAny (model prog w) A (assign (.Tuple [.Name a pa, .Name b pb, .Name c pc] kk tp) env (.ref T)) Q E s := by
  refine wpAny_assign_Tuple hh ht rfl rfl fun h₁ he₁ => ?_
  have hL : env.locals ≠ s.heap.objs.size := Nat.ne_of_lt hn.lt
  have hn₁ : h₁.Ns env.locals m := hn.at' fun o e => he₁ _ o hL e
  have up₁ : ∀ c o, s.heap.get? c = some o → h₁.get? c = some o := fun c o e => he₁ c o (Nat.ne_of_lt (Heap.lt_size e)) e
  show wpAny _ _ (assignInOrder [assign (.Name a pa) env, assign (.Name b pb) env, assign (.Name c pc) env] [x, y, z]) _ _ _
  refine assignInOrder_cons ?_
  refine wpAny_assign_Name (wpAny_storeName_local ha hn₁ (fun h₂ hn₂ hs₂ => ?_) hp)
  refine assignInOrder_cons ?_
  refine wpAny_assign_Name (wpAny_storeName_local hb hn₂ (fun h₃ hn₃ hs₃ => ?_) hp)
  refine assignInOrder_cons ?_
  refine wpAny_assign_Name (wpAny_storeName_local hc hn₃ (fun h₄ hn₄ hs₄ => ?_) hp)
  refine assignInOrder_nil ?_
  exact h h₄ _ hn₄ fun c o hc e => hs₄.extBut c o hc (hs₃.extBut c o hc (hs₂.extBut c o hc (up₁ c o e)))
theorem asg_triple {a b c : PySem.Str} {pa pb pc tp : Pos} {kk n : Nat} {vs : List Value} {xyz : Nat → Value × Value × Value} (hh : A.handled = none) (hab : ¬ a = b) (hac : ¬ a = c) (hbc : ¬ b = c) (ha : env.kindOf a = some .local) (hb : env.kindOf b = some .local) (hc : env.kindOf c = some .local) (hp : (env.scope.kind == .class || (env.scope.kind == .module && env.locals != env.globals)) = false)
    (ht : ∀ i v, vs[i]? = some v → ∃ T k, v = .ref T ∧ (T, ({ cls := .type "tuple", data := .seq #[(xyz i).1, (xyz i).2.1, (xyz i).2.2] k } : Obj)) ∈ nw) :
    AsgN prog w A (.Tuple [.Name a pa, .Name b pb, .Name c pc] kk tp) env h₀ L nw n (fun i v _ => vs[i]? = some v) (fun i v mc => vs[i]? = some v ∧ mc a = some (xyz i).1 ∧ mc b = some (xyz i).2.1 ∧ mc c = some (xyz i).2.2) := by
  rintro i v s Q E m hi hv N hn k
  obtain ⟨T, kk', rfl, hm⟩ := ht i v hv
  exact assign_three hh ⟨_, (N _ hm).1, rfl, _, rfl⟩ ha hb hc hp hn fun h' tk hn' hk => k h' tk _ hn' ⟨hv, by simp [hab, hac], by simp [hbc], by simp⟩ hk
theorem triples_E {a b c : PySem.Str} {pa pb pc tp : Pos} {kk : Nat} {ax : Addr} {vs : List Value} {k : Nat} {xyz : Nat → Value × Value × Value} (hh : A.handled = none) (F : Fr h₀ L s.heap m) (N : News h₀ L s.heap nw) (hm : (ax, listOf vs.toArray k) ∈ nw) (hcell : ∀ y ∈ scope.names, y.2 ≠ .cell) (hkind : scope.kind = .function)
    (hab : ¬ a = b) (hac : ¬ a = c) (hbc : ¬ b = c) (ha : scope.names.lookup a = some .local) (hb : scope.names.lookup b = some .local) (hc : scope.names.lookup c = some .local) (sz : vs.length ≤ sizeLine)
    (ht : ∀ i v, vs[i]? = some v → ∃ T k, v = .ref T ∧ (T, ({ cls := .type "tuple", data := .seq #[(xyz i).1, (xyz i).2.1, (xyz i).2.2] k } : Obj)) ∈ nw) (f : Nat → Dat)
    (el : ∀ i h', i < vs.length → ElE prog w A h₀ L m elt scope cl env nw { s with heap := h' } (fun mc => mc a = some (xyz i).1 ∧ mc b = some (xyz i).2.1 ∧ mc c = some (xyz i).2.2) (f i))
    (fin : ∀ h', FinL h₀ L m nw { s with heap := h' } RR ((List.range vs.length).map f)) :
    ItAt prog w A E (CompK prog w A E env (.ListComp elt [⟨.Tuple [.Name a pa, .Name b pb, .Name c pc] kk tp, iter, [], 0⟩] scope pos) scope cl RR) (.ref ax) s := by
  refine it_list (target := .Tuple [.Name a pa, .Name b pb, .Name c pc] kk tp) hh F N hm (fun _ _ _ s Q E hit h => go_list hit h) (fun I h' F' N' X1 => ?_)
  refine dat_E (s₂ := { s with heap := h' }) X1 hcell hkind F' N' sz (fun C => asg_triple (xyz := xyz) hh hab hac hbc (lookup_relabel_local ha) (lookup_relabel_local hb) (lookup_relabel_local hc) (by simp [compEnvC, relabel, hkind]) ht) f ?_ ?_
  · rintro i v C D oC mc own h tk ys tl E' hi ⟨hv, h1⟩ hC F2 N2
    exact el i h' hi C D oC mc own h tk ys tl E' h1 hC F2 N2
  · intro D C h tk mc ys tl S CI ho hD hd
    exact fin h' _ _ D C h tk mc ys tl S CI ho hD hd
end
section
variable {prog : Program} {w : World} {A : Around} {E : Value → Shared → Prop} {s : Shared} {h₀ : Heap} {L : Addr} {m : PySem.Str → Option Value} {env : Env} {nw : List (Addr × Obj)}
theorem finLA1 {Q : Shared → Prop} {ds : List Dat} {y : PySem.Str} {py : Pos} (hLe : env.locals = L) (hy : env.kindOf y = some .local) (hp : (env.scope.kind == .class || (env.scope.kind == .module && env.locals != env.globals)) = false)
    (h : ∀ v h' tk tl, Fr h₀ L h' (fun z => if z = y then some v else m z) → News h₀ L h' (tl ++ nw) → (∀ p ∈ tl, ∀ q ∈ nw, q.1 < p.1) → (∃ a its k, v = .ref a ∧ (a, listOf (List.toArray its) k) ∈ tl ++ nw ∧ DatAll (tl ++ nw) its ds) → Q { s with heap := h', toks := tk }) :
    FinL h₀ L m nw s (compPost (model prog w) A E (some (assign (.Name y py) env)) (fun _ s' => Q s')) ds := finLA (Q := fun _ s' => Q s') hLe hy hp h
end

end
section
section
variable {α : Type} {β : Type} [DecidableEq α] [DecidableEq β]
/-- a list without repetitions, each by its first place -/
def dd : List α → List α
  | [] => []
  | x :: l => x :: (dd l).filter fun y => !decide (y = x)
theorem dd_mem {x : α} : ∀ {l : List α}, x ∈ dd l ↔ x ∈ l
  | [] => Iff.rfl
  | y :: l => by
    unfold dd
    rw [List.mem_cons, List.mem_cons, List.mem_filter, dd_mem (l := l)]
    constructor
    · rintro (h | ⟨h, _⟩)
      · exact .inl h
      · exact .inr h
    · rintro (h | h)
      · exact .inl h
      · by_cases e : x = y
        · exact .inl e
        · exact .inr ⟨h, by simp [e]⟩
theorem dd_filter (q : α → Bool) : ∀ l : List α, dd (l.filter q) = (dd l).filter q
  | [] => rfl
  | x :: l => by
    cases h : q x with
    | true =>
      rw [List.filter_cons_of_pos h, dd, dd, List.filter_cons_of_pos h, dd_filter q l, List.filter_filter, List.filter_filter]
      refine congrArg _ (List.filter_congr fun a _ => Bool.and_comm _ _)
    | false =>
      rw [List.filter_cons_of_neg (by simp [h]), dd, List.filter_cons_of_neg (by simp [h]), dd_filter q l, List.filter_filter]
      refine List.filter_congr fun a _ => ?_
      cases hq : q a with
      | false => rfl
      | true =>
        have : ¬ a = x := fun e => by rw [e, h] at hq; cases hq
        simp [this]
theorem dd_append : ∀ l r : List α, dd (l ++ r) = dd l ++ (dd r).filter fun y => !decide (y ∈ l)
  | [], r => by
    have : (dd r).filter (fun y => !decide (y ∈ ([] : List α))) = dd r := List.filter_eq_self.mpr fun _ _ => by simp
    rw [this]; rfl
  | x :: l, r => by
    rw [List.cons_append, dd, dd, dd_append l r, List.filter_append, List.filter_filter, List.cons_append]
    congr 2
    refine List.filter_congr fun a _ => ?_
    by_cases e : a = x <;> by_cases e2 : a ∈ l <;> simp [e, e2]
theorem dd_flat (g : α → List β) : ∀ l : List α, dd ((dd l).flatMap g) = dd (l.flatMap g) := by
  intro l
  suffices H : ∀ r : List α, dd ((dd r.reverse).flatMap g) = dd (r.reverse.flatMap g) by
    have := H l.reverse
    rwa [List.reverse_reverse] at this
  intro r
  induction r with
  | nil => rfl
  | cons x r ih =>
    rw [List.reverse_cons, dd_append, List.flatMap_append, List.flatMap_append, dd_append, dd_append, ih]
    congr 1
    have em : ∀ y : β, (y ∈ (dd r.reverse).flatMap g) ↔ y ∈ r.reverse.flatMap g := fun y => by
      simp only [List.mem_flatMap, dd_mem]
    by_cases hx : x ∈ r.reverse
    · have e1 : (dd [x]).filter (fun y => !decide (y ∈ r.reverse)) = [] := by
        show ([x]).filter _ = []
        rw [List.filter_cons_of_neg (by simp only [decide_eq_true hx, Bool.not_true]; exact Bool.false_ne_true)]; rfl
      rw [e1]
      show [] = _
      refine (List.filter_eq_nil_iff.mpr fun y hy => ?_).symm
      rw [dd_mem] at hy
      have hy' : y ∈ g x := by simpa using hy
      have : y ∈ r.reverse.flatMap g := List.mem_flatMap.mpr ⟨x, hx, hy'⟩
      simp only [decide_eq_true this, Bool.not_true]; exact Bool.false_ne_true
    · have e1 : (dd [x]).filter (fun y => !decide (y ∈ r.reverse)) = [x] := by
        show ([x]).filter _ = [x]
        rw [List.filter_cons_of_pos (by simp only [decide_eq_false hx, Bool.not_false])]; rfl
      rw [e1]
      refine List.filter_congr fun y _ => ?_
      rw [decide_eq_decide.mpr (em y)]
theorem dd_map (f : α → β) (l : List α) : dd ((dd l).map f) = dd (l.map f) := by
  have e : ∀ l : List α, l.flatMap (fun x => [f x]) = l.map f := fun l => by
    induction l with
    | nil => rfl
    | cons x l ih => rw [List.flatMap_cons, ih]; rfl
  have := dd_flat (fun x => [f x]) l
  rwa [e, e] at this
end
theorem once_snoc (l : List Pt) (x : Pt) : onceP (l ++ [x]) = onceP l ++ (if x ∈ l then [] else [x]) := by
  unfold onceP
  rw [List.length_append, List.length_singleton, List.range_succ, List.filter_append, List.map_append]
  have hg : ∀ i, i < l.length → (l ++ [x]).getD i (0, 0) = l.getD i (0, 0) := fun i hi => by
    rw [List.getD_eq_getElem?_getD, List.getD_eq_getElem?_getD, List.getElem?_append_left hi]
  have ht : ∀ i, i < l.length → (l ++ [x]).take i = l.take i := fun i hi => List.take_append_of_le_length (Nat.le_of_lt hi)
  have e0 : (List.range l.length).filter (fun i => !decide ((l ++ [x]).getD i (0, 0) ∈ (l ++ [x]).take i)) = (List.range l.length).filter (fun i => !decide (l.getD i (0, 0) ∈ l.take i)) := by
    refine List.filter_congr fun i hi => ?_
    rw [hg i (List.mem_range.mp hi), ht i (List.mem_range.mp hi)]
  rw [e0]
  congr 1
  · refine List.map_congr_left fun i hi => hg i (List.mem_range.mp (List.mem_filter.mp hi).1)
  · have e1 : (l ++ [x]).getD l.length (0, 0) = x := by
      rw [List.getD_eq_getElem?_getD, List.getElem?_append_right (Nat.le_refl _), Nat.sub_self]; rfl
    have e2 : (l ++ [x]).take l.length = l := List.take_left' rfl
    by_cases hx : x ∈ l
    · rw [if_pos hx, List.filter_cons_of_neg (by rw [e1, e2]; simp [hx])]; rfl
    · rw [if_neg hx, List.filter_cons_of_pos (by rw [e1, e2]; simp [hx])]
      show [(l ++ [x]).getD l.length (0, 0)] = _
      rw [e1]
theorem once_dd (l : List Pt) : onceP l = dd l := by
  suffices H : ∀ r : List Pt, onceP r.reverse = dd r.reverse by
    have := H l.reverse
    rwa [List.reverse_reverse] at this
  intro r
  induction r with
  | nil => rfl
  | cons x r ih =>
    rw [List.reverse_cons, once_snoc, dd_append, ih]
    congr 1
    show _ = ([x]).filter _
    by_cases hx : x ∈ r.reverse
    · rw [if_pos hx, List.filter_cons_of_neg (by simpa using hx)]; rfl
    · rw [if_neg hx, List.filter_cons_of_pos (by simpa using hx)]; rfl
abbrev Cnt := Nat × Nat × Nat
/-- the counts that sum to n, those with more of the first ahead, then those with more of the second -/
def counts (n : Nat) : List Cnt := (List.range (n + 1)).flatMap fun i => (List.range (i + 1)).map fun k => (n - i, i - k, k)
def ups (c : Cnt) : List Cnt := [(c.1 + 1, c.2.1, c.2.2), (c.1, c.2.1 + 1, c.2.2), (c.1, c.2.1, c.2.2 + 1)]
theorem counts_up : ∀ n, n < 4 → dd ((counts n).flatMap ups) = counts (n + 1)
  | 0, _ => by decide
  | 1, _ => by decide
  | 2, _ => by decide +kernel
  | 3, _ => by decide +kernel
/-- the place to which counts lead -/
def ev (p m0 m1 m2 : Pt) (c : Cnt) : Pt := (p.1 + c.1 * m0.1 + c.2.1 * m1.1 + c.2.2 * m2.1, p.2 + c.1 * m0.2 + c.2.1 * m1.2 + c.2.2 * m2.2)
def sumsP (p m0 m1 m2 : Pt) (n : Nat) : List Pt := (counts n).map (ev p m0 m1 m2)
theorem ev_up (p m0 m1 m2 : Pt) (c : Cnt) : [m0, m1, m2].map (mv (ev p m0 m1 m2 c)) = (ups c).map (ev p m0 m1 m2) := by
  obtain ⟨i, j, k⟩ := c
  simp only [List.map_cons, List.map_nil, ups, mv, ev, Int.natCast_add, Int.natCast_one, Int.add_mul, Int.one_mul]
  refine congr (congrArg _ (Prod.ext ?_ ?_)) (congr (congrArg _ (Prod.ext ?_ ?_)) (congr (congrArg _ (Prod.ext ?_ ?_)) rfl)) <;> dsimp only <;> omega
theorem sums_up (p m0 m1 m2 : Pt) {n : Nat} (hn : n < 4) : dd (leads (sumsP p m0 m1 m2 n) [m0, m1, m2]) = dd (sumsP p m0 m1 m2 (n + 1)) := by
  have e : leads (sumsP p m0 m1 m2 n) [m0, m1, m2] = ((counts n).flatMap ups).map (ev p m0 m1 m2) := by
    unfold leads sumsP
    rw [List.flatMap_map, List.map_flatMap]
    congr 1
    funext c
    exact ev_up p m0 m1 m2 c
  rw [e, ← dd_map, counts_up n hn]
  rfl
/-- the rounds as the counts tell them -/
def dst (p m0 m1 m2 : Pt) : Nat → List Pt × List Pt × List (List Pt)
  | 0 => ([p], [p], [])
  | i + 1 => ((dst p m0 m1 m2 i).1 ++ offP (onceP (sumsP p m0 m1 m2 (i + 1))) (dst p m0 m1 m2 i).1, offP (onceP (sumsP p m0 m1 m2 (i + 1))) (dst p m0 m1 m2 i).1,
      (dst p m0 m1 m2 i).2.2 ++ [(leads (dst p m0 m1 m2 i).2.1 [m0, m1, m2]).filter fun x => decide (x ∈ offP (onceP (sumsP p m0 m1 m2 (i + 1))) (dst p m0 m1 m2 i).1)])
theorem mem_off {x : Pt} {ps ks : List Pt} : x ∈ offP ps ks ↔ x ∈ ps ∧ x ∉ ks := by
  unfold offP
  rw [List.mem_filter]
  simp
theorem mem_leads {x : Pt} {ws ms : List Pt} : x ∈ leads ws ms ↔ ∃ p ∈ ws, ∃ m ∈ ms, mv p m = x := by
  unfold leads
  simp only [List.mem_flatMap, List.mem_map]
/-- one round: the fresh places are the counts' -/
theorem round_eq {S kp kn wv ms : List Pt} (h1 : wv = onceP (offP S kp)) (h2 : ∀ p ∈ kp, ∀ m ∈ ms, mv p m ∈ kn) : onceP (offP (leads wv ms) kn) = offP (dd (leads S ms)) kn := by
  have e1 : offP (leads (offP S kp) ms) kn = offP (leads S ms) kn := by
    unfold leads
    clear h1
    induction S with
    | nil => rfl
    | cons x S ih =>
      have ea : ∀ a b : List Pt, offP (a ++ b) kn = offP a kn ++ offP b kn := fun a b => List.filter_append ..
      by_cases hx : x ∈ kp
      · have : offP (x :: S) kp = offP S kp := List.filter_cons_of_neg (by simp [hx])
        rw [this, List.flatMap_cons, ea, ih]
        have : offP (ms.map (mv x)) kn = [] := List.filter_eq_nil_iff.mpr fun y hy => by
          obtain ⟨m, hm, rfl⟩ := List.mem_map.mp hy
          simp [h2 x hx m hm]
        rw [this]; rfl
      · have : offP (x :: S) kp = x :: offP S kp := List.filter_cons_of_pos (by simp [hx])
        rw [this, List.flatMap_cons, List.flatMap_cons, ea, ea, ih]
  have e2 : ∀ l : List Pt, dd (offP l kn) = offP (dd l) kn := fun l => dd_filter _ l
  rw [once_dd, e2, h1, once_dd]
  unfold leads
  rw [dd_flat, ← e2]
  show dd (offP (leads (offP S kp) ms) kn) = _
  rw [e1, e2]
  rfl
theorem wst_inv (p m0 m1 m2 : Pt) : ∀ i, i ≤ 4 → ∃ kp, (wst p [m0, m1, m2] i).2.1 = onceP (offP (sumsP p m0 m1 m2 i) kp) ∧ (∀ q ∈ kp, ∀ m ∈ [m0, m1, m2], mv q m ∈ (wst p [m0, m1, m2] i).1) ∧ (wst p [m0, m1, m2] i).1 = kp ++ (wst p [m0, m1, m2] i).2.1
  | 0, _ => by
    refine ⟨[], ?_, fun q hq => absurd hq List.not_mem_nil, rfl⟩
    have : sumsP p m0 m1 m2 0 = [p] := by
      show [ev p m0 m1 m2 (0, 0, 0)] = [p]
      congr 1
      show (_, _) = _
      simp
    rw [this]
    show [p] = _
    rw [once_dd]
    rfl
  | i + 1, h => by
    obtain ⟨kp, h1, h2, h3⟩ := wst_inv p m0 m1 m2 i (by omega)
    refine ⟨(wst p [m0, m1, m2] i).1, ?_, fun q hq m hm => ?_, rfl⟩
    · show onceP (offP (leads (wst p [m0, m1, m2] i).2.1 [m0, m1, m2]) (wst p [m0, m1, m2] i).1) = _
      rw [round_eq h1 h2, sums_up p m0 m1 m2 (by omega), once_dd]
      exact (dd_filter _ _).symm
    · show mv q m ∈ (wst p [m0, m1, m2] i).1 ++ onceP (offP (leads (wst p [m0, m1, m2] i).2.1 [m0, m1, m2]) (wst p [m0, m1, m2] i).1)
      rw [List.mem_append]
      rw [h3, List.mem_append] at hq
      rcases hq with hq | hq
      · exact .inl (h2 q hq m hm)
      · by_cases hk : mv q m ∈ (wst p [m0, m1, m2] i).1
        · exact .inl hk
        · refine .inr ?_
          rw [once_dd, dd_mem, mem_off]
          exact ⟨mem_leads.mpr ⟨q, hq, m, hm, rfl⟩, hk⟩
/-- the plain law -/
theorem wst_dst (p m0 m1 m2 : Pt) : ∀ i, i ≤ 4 → wst p [m0, m1, m2] i = dst p m0 m1 m2 i
  | 0, _ => rfl
  | i + 1, h => by
    have ih := wst_dst p m0 m1 m2 i (by omega)
    obtain ⟨kp, h1, h2, h3⟩ := wst_inv p m0 m1 m2 i (by omega)
    have e : onceP (offP (leads (wst p [m0, m1, m2] i).2.1 [m0, m1, m2]) (wst p [m0, m1, m2] i).1) = offP (onceP (sumsP p m0 m1 m2 (i + 1))) (wst p [m0, m1, m2] i).1 := by
      rw [round_eq h1 h2, sums_up p m0 m1 m2 (by omega), once_dd]
    have e2 : offP (leads (wst p [m0, m1, m2] i).2.1 [m0, m1, m2]) (wst p [m0, m1, m2] i).1 = (leads (wst p [m0, m1, m2] i).2.1 [m0, m1, m2]).filter fun x => decide (x ∈ offP (onceP (sumsP p m0 m1 m2 (i + 1))) (wst p [m0, m1, m2] i).1) := by
      refine List.filter_congr fun x hx => ?_
      rw [← e]
      by_cases hk : x ∈ (wst p [m0, m1, m2] i).1
      · rw [decide_eq_true hk, decide_eq_false (by rw [once_dd, dd_mem, mem_off]; exact fun h => h.2 hk)]; rfl
      · rw [decide_eq_false hk, decide_eq_true (by rw [once_dd, dd_mem, mem_off]; exact ⟨hx, hk⟩)]; rfl
    show (_, _, _) = (_, _, _)
    rw [← ih, e, e2]

end
section
local macro_rules | `(tactic| k_all) => `(tactic| (intro p9 hp9; (rename (∀ p ∈ (_ : List (Addr × Obj)), p.1 < (_ : Addr)) => h8); have h9 := ltN (h8 p9 hp9); k_ne))
local macro_rules | `(tactic| k_cells $Y:ident) => `(tactic| (have hY := kc_nine $Y; obtain ⟨o', o2', o3', o4', o5', o6', o7', o8', o9', hE', d1', d2', d3', d4', d5', d6', d7', d8', d9'⟩ := hY; subst hE'; clear $Y))
local macro_rules | `(tactic| walk_at "call ref") => `(tactic| (refine Paused.of ?_))
set_option maxRecDepth 100000
theorem down_small {i : Nat} (h : i ≤ 4) : Builtin.Range.small (i : Int) (-1) (-1) = true ∧ Builtin.Range.rangeSize (i : Int) (-1) (-1) = ((i + 1 : Nat) : Int) := by
  have : i = 0 ∨ i = 1 ∨ i = 2 ∨ i = 3 ∨ i = 4 := by omega
  rcases this with rfl | rfl | rfl | rfl | rfl <;> decide
theorem down_val (n i : Nat) : (n : Int) - (n + i * (-1)) = (i : Int) := by omega
def cntD (n i k : Nat) : Dat := .tuple [.int ((n : Int) + i * (-1)), .int (((n : Int) - (n + i * (-1))) + k * (-1)), .int ((n : Int) - (n + i * (-1)) - (((n : Int) - (n + i * (-1))) + k * (-1)))]
theorem cnt_len {n : Nat} (hn : n ≤ 4) : ∀ i, i ≤ n + 1 → (dsN (fun i => i + 1) (cntD n) i).length ≤ 5 * i
  | 0, _ => Nat.le_refl _
  | i + 1, h => by
    rw [dsN_succ, List.length_append, List.length_map, List.length_range]
    have := cnt_len hn i (by omega)
    omega
/-- counts as a tuple -/
def cD (c : Cnt) : Dat := .tuple [.int (c.1 : Int), .int (c.2.1 : Int), .int (c.2.2 : Int)]
theorem cnt_all (n : Nat) : dsN (fun i => i + 1) (cntD n) (n + 1) = (counts n).map cD := by
  unfold dsN counts
  rw [List.map_flatMap]
  simp only [List.flatMap_def]
  congr 1
  refine List.map_congr_left fun i hi => ?_
  rw [List.map_map]
  refine List.map_congr_left fun k hk => ?_
  have h1 := List.mem_range.mp hi
  have h2 := List.mem_range.mp hk
  unfold cntD cD
  dsimp only [Function.comp]
  rw [show (n : Int) + i * (-1) = ((n - i : Nat) : Int) by omega, show (n : Int) - ((n - i : Nat) : Int) + k * (-1) = ((i - k : Nat) : Int) by omega, show (n : Int) - ((n - i : Nat) : Int) - ((i - k : Nat) : Int) = (k : Int) by omega]
theorem triple_dat {nw : List (Addr × Obj)} {v : Value} {p : Cnt} (h : DatIn nw v (cD p)) : ∃ T k t1 t2 t3, v = .ref T ∧ (T, ({ cls := .type "tuple", data := .seq #[.int (p.1 : Int) t1, .int (p.2.1 : Int) t2, .int (p.2.2 : Int) t3] k } : Obj)) ∈ nw := by
  unfold cD at h
  cases h with
  | tuple hm hd =>
    cases hd with
    | cons h1 hd =>
      cases hd with
      | cons h2 hd =>
        cases hd with
        | cons h3 hd =>
          cases hd
          cases h1
          cases h2
          cases h3
          exact ⟨_, _, _, _, _, rfl, hm⟩
theorem getD_mapC {f : Cnt → Dat} {ps : List Cnt} {i : Nat} (hi : i < ps.length) : (ps.map f).getD i .none = f (ps.getD i (0, 0, 0)) := by
  rw [List.getD_eq_getElem?_getD, List.getD_eq_getElem?_getD, List.getElem?_map, List.getElem?_eq_getElem hi]; rfl
theorem triples_of {nw : List (Addr × Obj)} {its : List Value} {ps : List Cnt} (h : DatAll nw its (ps.map cD)) :
    ∃ xyz : Nat → Value × Value × Value, (∀ i v, its[i]? = some v → ∃ T k, v = .ref T ∧ (T, ({ cls := .type "tuple", data := .seq #[(xyz i).1, (xyz i).2.1, (xyz i).2.2] k } : Obj)) ∈ nw) ∧
      ∀ i, i < its.length → ∃ t1 t2 t3, xyz i = (.int ((ps.getD i (0, 0, 0)).1 : Int) t1, .int ((ps.getD i (0, 0, 0)).2.1 : Int) t2, .int ((ps.getD i (0, 0, 0)).2.2 : Int) t3) := by
  have hl : its.length = ps.length := by rw [h.length, List.length_map]
  have H : ∀ i, ∃ x : Value × Value × Value, (∀ v, its[i]? = some v → ∃ T k, v = .ref T ∧ (T, ({ cls := .type "tuple", data := .seq #[x.1, x.2.1, x.2.2] k } : Obj)) ∈ nw) ∧
      (i < its.length → ∃ t1 t2 t3, x = (.int ((ps.getD i (0, 0, 0)).1 : Int) t1, .int ((ps.getD i (0, 0, 0)).2.1 : Int) t2, .int ((ps.getD i (0, 0, 0)).2.2 : Int) t3)) := by
    intro i
    cases hv : its[i]? with
    | none => exact ⟨(.none, .none, .none), fun v h => (by cases h), fun h => absurd h (Nat.not_lt.mpr (List.getElem?_eq_none_iff.mp hv))⟩
    | some v =>
      have hi : i < ps.length := by rw [← hl]; exact (List.getElem?_eq_some_iff.mp hv).1
      have d := datAll_at h hv
      rw [getD_mapC hi] at d
      obtain ⟨T, k, t1, t2, t3, rfl, hm⟩ := triple_dat d
      exact ⟨(.int _ t1, .int _ t2, .int _ t3), fun v h => by cases h; exact ⟨T, k, rfl, hm⟩, fun _ => ⟨t1, t2, t3, rfl⟩⟩
  obtain ⟨xyz, hxyz⟩ := Classical.axiomOfChoice H
  exact ⟨xyz, fun i v hv => (hxyz i).1 v hv, fun i hi => (hxyz i).2 hi⟩
theorem ptD_ok (p : Pt) : kqdOk 8 (ptD p) = true := by rfl
theorem range_mapC {f : Cnt → Dat} (ps : List Cnt) : (List.range ps.length).map (fun i => f (ps.getD i (0, 0, 0))) = ps.map f := by
  refine List.ext_getElem (by simp) fun i h1 h2 => ?_
  have hi : i < ps.length := by simpa using h1
  simp [List.getD_eq_getElem?_getD, List.getElem?_eq_getElem hi]
theorem cnt_in {n : Nat} {c : Cnt} (h : c ∈ counts n) : c.1 ≤ n ∧ c.2.1 ≤ n ∧ c.2.2 ≤ n := by
  unfold counts at h
  obtain ⟨i, hi, h⟩ := List.mem_flatMap.mp h
  obtain ⟨k, hk, rfl⟩ := List.mem_map.mp h
  have h1 := List.mem_range.mp hi
  have h2 := List.mem_range.mp hk
  refine ⟨?_, ?_, ?_⟩ <;> dsimp only <;> omega
theorem small_mul {x : Nat} (b : Int) (h : x ≤ 4) : IntMulOk (x : Int) b := IntMulOk.of_left (intBits_le_64 (by omega) (by omega))
local macro_rules | `(tactic| mul_fits) => `(tactic| with_reducible assumption)
set_option maxHeartbeats 8000000 in
theorem counted (w : World) (loose : List PySem.Str) (mean : ExcName → Option Value) (mg mb : PySem.Str → Option Value) (p0 m0 m1 m2 : Pt) (n : Nat) (hn : n ≤ 4) :
    Co w loose mean mg mb 80 3 (fun news vs => ∃ t1 t2 t3 am k T0 T1 T2 k0 k1 k2 u0 u1 u2 w0 w1 w2, vs = [.int p0.1 t1, .int p0.2 t2, .ref am, .int n t3] ∧ (am, listOf #[.ref T0, .ref T1, .ref T2] k) ∈ news ∧
      (T0, ({ cls := .type "tuple", data := .seq #[.int m0.1 u0, .int m0.2 w0] k0 } : Obj)) ∈ news ∧ (T1, ({ cls := .type "tuple", data := .seq #[.int m1.1 u1, .int m1.2 w1] k1 } : Obj)) ∈ news ∧ (T2, ({ cls := .type "tuple", data := .seq #[.int m2.1 u2, .int m2.2 w2] k2 } : Obj)) ∈ news)
      (fun news r => ListD news r ((onceP (sumsP p0 m0 m1 m2 n)).map ptD)) := by
  unfold Co Con
  k_fill
  intro dp un gd cn cs a ccd cl outer A₀ base h₀ L m news s vs Q E B F X N T hk hR hd hu hret
  obtain ⟨t1, t2, t3, am, k, T0, T1, T2, k0, k1, k2, u0, u1, u2, w0, w1, w2, rfl, hm, hT0, hT1, hT2⟩ := hR
  refine wpAny_call ?_
  k_dflt cell_enter
  rename Below _ _ _ _ => B'
  rename Frag.In _ _ => X'
  rename Top _ _ _ _ _ _ => T'
  k_steps
  rename IsRange _ _ _ _ _ _ _ _ => hr
  rename Fr _ _ _ _ => F1
  rename News _ _ _ _ => N1
  refine nest_range (n := n + 1) rfl F1 N1 hr (down_small hn).1 (down_small hn).2 (by decide) (by rfl) (by rfl) (by decide) (by intro _ _; rfl) (fun i => i + 1) (cntD n) (fun i => (n : Int) - (n + i * (-1))) (fun _ => -1) ?sz ?inn ?el ?fin
  case sz =>
    intro i hi k hk
    have := cnt_len hn i (by omega)
    rw [List.length_append, List.length_map, List.length_range, sizeLine_eq]
    omega
  case inn =>
    rintro i t h' hi C D oC mc own h tk ys tl E' K hmc hC F2 N2 off hK
    clear F1 N1 hr
    k_steps
    rename IsRange _ _ _ _ _ _ _ _ => hr2
    rename Fr _ _ _ _ => F3
    rename News _ _ _ _ => N3
    refine inn_range rfl (by rfl) (by rfl) F3 N3 hr2 (by rw [down_val]; exact (down_small (by omega)).1) (by rw [down_val]; exact (down_small (by omega)).2) hK
  case el =>
    rintro i k t1 t2 h' hi hk2 C D oC mc own h tk ys tl E' ⟨hmi, hmj⟩ hC F2 N2
    clear F1 N1 hr
    k_steps
    rename Fr _ _ _ _ => F3
    rename News _ _ _ _ => N3
    rename (∀ p ∈ own ++ _, p.1 < _) => l3
    refine ⟨_, _, [(_, _)], rfl, F3, N3, fun p hp => ?_, DatIn.tuple List.mem_cons_self (.cons (.int _ _) (.cons (.int _ _) (.cons (.int _ _) .nil)))⟩
    rw [List.mem_singleton.mp hp]
    exact l3
  case fin =>
    intro h'
    refine finLA1 ?e1 ?e2 ?e3 fun v h2 tk2 tl2 F2 N2 lt2 hv2 => ?_
    case e1 => rfl
    case e2 => rfl
    case e3 => rfl
    obtain ⟨av, cits, kc, rfl, hcm, hcD⟩ := hv2
    clear F1 N1 hr
    k_steps
    rw [cnt_all] at hcD
    obtain ⟨xyz, hx1, hx2⟩ := triples_of hcD
    have hcl : cits.length = (counts n).length := by rw [hcD.length, List.length_map]
    refine triples_E (xyz := xyz) rfl F2 N2 hcm (by decide) (by rfl) (by decide) (by decide) (by decide) (by rfl) (by rfl) (by rfl) ?sz2 hx1 (fun i => ptD (ev p0 m0 m1 m2 ((counts n).getD i (0, 0, 0)))) ?el2 ?fin2
    case sz2 =>
      rw [hcl, ← List.length_map (f := cD), ← cnt_all]
      have := cnt_len hn (n + 1) (Nat.le_refl _)
      rw [sizeLine_eq]; omega
    case el2 =>
      intro i h3 hi C D oC mc own h tk ys tl E' ⟨hi1, hi2, hi3⟩ hC F3 N3
      obtain ⟨ta, tb, tc, exy⟩ := hx2 i hi
      rw [exy] at hi1 hi2 hi3
      have hil : i < (counts n).length := by rw [← hcl]; exact hi
      have hcn : (counts n).getD i (0, 0, 0) ∈ counts n := by
        rw [List.getD_eq_getElem?_getD, List.getElem?_eq_getElem hil]; exact List.getElem_mem hil
      dsimp only at hi1 hi2 hi3 ⊢
      generalize (counts n).getD i (0, 0, 0) = c at hi1 hi2 hi3 hcn ⊢
      have hc4 := cnt_in hcn
      have q1 := small_mul m0.1 (Nat.le_trans hc4.1 hn)
      have q2 := small_mul m1.1 (Nat.le_trans hc4.2.1 hn)
      have q3 := small_mul m2.1 (Nat.le_trans hc4.2.2 hn)
      have q4 := small_mul m0.2 (Nat.le_trans hc4.1 hn)
      have q5 := small_mul m1.2 (Nat.le_trans hc4.2.1 hn)
      have q6 := small_mul m2.2 (Nat.le_trans hc4.2.2 hn)
      clear F2 N2
      k_steps
      rename Fr _ _ _ _ => F4
      rename News _ _ _ _ => N4
      rename (∀ p ∈ own ++ _, p.1 < _) => l4
      refine ⟨_, _, [(_, _)], rfl, F4, N4, fun p hp => ?_, DatIn.tuple List.mem_cons_self (.cons (.int _ _) (.cons (.int _ _) .nil))⟩
      rw [List.mem_singleton.mp hp]
      exact l4
    case fin2 =>
      intro h3
      refine finL fun v h4 tk4 tl4 F4 N4 lt4 hv4 => ?_
      clear F2 N2
      k_steps
      unfold Paused
      rename Fr _ _ _ _ => F5
      rename News _ _ _ _ => N5
      obtain ⟨av4, its4, kc4, rfl, hm4, hd4⟩ := hv4
      rw [hcl, range_mapC (f := fun c => ptD (ev p0 m0 m1 m2 c)), show (counts n).map (fun c => ptD (ev p0 m0 m1 m2 c)) = (sumsP p0 m0 m1 m2 n).map ptD by unfold sumsP; rw [List.map_map]; rfl] at hd4
      k_dflt (refine once w loose mean mg mb ((sumsP p0 m0 m1 m2 n).map ptD) ?ok8 ?len _ _ _ _ _ _ _ _ _ _ _ _ _ _ _ _ _ _ _ B' F5 X' N5 T' rfl ⟨_, rfl, av4, its4, kc4, rfl, hm4, hd4⟩ (by ktr_room) (by ktr_units) ?_)
      case ok8 =>
        intro d hd
        obtain ⟨q, hq, rfl⟩ := List.mem_map.mp hd
        exact ptD_ok q
      case len =>
        rw [← hd4.length, hd4.length, List.length_map]
        unfold sumsP
        rw [List.length_map, ← List.length_map (f := cD), ← cnt_all]
        have := cnt_len hn (n + 1) (Nat.le_refl _)
        omega
      intro r tlo h6 tk6 F6 N6 lto hOut
      k_steps
      rename Fr h₀ _ _ _ => kF
      rename News h₀ _ _ _ => kN
      rename (∀ p ∈ news, p.1 < _) => l1
      obtain ⟨ao, oits, ko, rfl, hom, hoD⟩ := hOut
      rw [once_map (fun p _ q _ e => ptD_inj e)] at hoD
      have e9 : ∀ (a b c d e f g h i : Addr × Obj), tlo ++ (tl4 ++ (tl2 ++ a :: b :: c :: d :: e :: f :: g :: h :: i :: news)) = (tlo ++ (tl4 ++ (tl2 ++ [a, b, c, d, e, f, g, h, i]))) ++ news := by
        intros; simp only [List.append_assoc, List.cons_append, List.nil_append]
      dsimp only at kN
      rw [e9] at kN hom hoD
      refine hret _ _ _ _ kF kN (fun p hp q hq => ?_) ⟨ao, oits, ko, rfl, hom, hoD⟩
      have lq := ltN (l1 q hq)
      rcases List.mem_append.mp hp with hp | hp
      · exact lto p hp q (by simp only [List.mem_append, List.mem_cons]; simp [hq])
      rcases List.mem_append.mp hp with hp | hp
      · exact lt4 p hp q (by simp only [List.mem_append, List.mem_cons]; simp [hq])
      rcases List.mem_append.mp hp with hp | hp
      · exact lt2 p hp q (by simp only [List.mem_append, List.mem_cons]; simp [hq])
      simp only [List.mem_cons, List.not_mem_nil, or_false] at hp
      rcases hp with rfl | rfl | rfl | rfl | rfl | rfl | rfl | rfl | rfl
      all_goals (show @LT.lt Nat _ _ _; dsimp only; omega)

end
section
open LCg
set_option maxRecDepth 100000
mutual
theorem datIn_swap {n1 n2 : List (Addr × Obj)} (hs : ∀ p ∈ n1, (∀ v, p.2.data ≠ .cell v) → p ∈ n2) : ∀ {v : Value} {d : Dat}, DatIn n1 v d → DatIn n2 v d
  | _, _, .none => .none
  | _, _, .bool b => .bool b
  | _, _, .int i t => .int i t
  | _, _, .str x t => .str x t
  | _, _, .bytes b t => .bytes b t
  | _, _, .tuple h r => .tuple (hs _ h (fun _ e => by cases e)) (datAll_swap hs r)
  | _, _, .list h r => .list (hs _ h (fun _ e => by cases e)) (datAll_swap hs r)
theorem datAll_swap {n1 n2 : List (Addr × Obj)} (hs : ∀ p ∈ n1, (∀ v, p.2.data ≠ .cell v) → p ∈ n2) : ∀ {vs : List Value} {ds : List Dat}, DatAll n1 vs ds → DatAll n2 vs ds
  | _, _, .nil => .nil
  | _, _, .cons h r => .cons (datIn_swap hs h) (datAll_swap hs r)
end
section
variable {prog : Program} {w : World} {A : Around} {E : Value → Shared → Prop} {s : Shared} {h₀ : Heap} {L : Addr} {m : PySem.Str → Option Value} {env : Env} {nw : List (Addr × Obj)}
theorem finL2 {Q : Value → Shared → Prop} {ds : List Dat}
    (h : ∀ a its k h' tk tl, Fr h₀ L h' m → News h₀ L h' (tl ++ nw) → (∀ p ∈ tl, ∀ q ∈ nw, q.1 < p.1) → (a, listOf (List.toArray its) k) ∈ tl → DatAll (tl ++ nw) its ds → Q (.ref a) { s with heap := h', toks := tk }) :
    FinL h₀ L m nw s (compPost (model prog w) A E none Q) ds := by
  intro fp wr D C hh tk mc ys tl S X ho hD hd
  refine comp_fin S X fun h' F' N' => h D ys _ h' tk ((D, lst ys) :: tl) F' N' (fun p hp q hq => ?_) List.mem_cons_self (hd.mono fun p hp => List.mem_cons_of_mem _ hp)
  rcases List.mem_cons.mp hp with rfl | hp
  · exact hD q hq
  · exact ho p hp q hq
theorem finLA2 {Q : Shared → Prop} {ds : List Dat} {y : PySem.Str} {py : Pos} (hLe : env.locals = L) (hy : env.kindOf y = some .local) (hp : (env.scope.kind == .class || (env.scope.kind == .module && env.locals != env.globals)) = false)
    (h : ∀ a its k h' tk tl, Fr h₀ L h' (fun z => if z = y then some (.ref a) else m z) → News h₀ L h' (tl ++ nw) → (∀ p ∈ tl, ∀ q ∈ nw, q.1 < p.1) → (a, listOf (List.toArray its) k) ∈ tl → DatAll (tl ++ nw) its ds → Q { s with heap := h', toks := tk }) :
    FinL h₀ L m nw s (compPost (model prog w) A E (some (assign (.Name y py) env)) (fun _ s' => Q s')) ds := by
  intro fp wr D C hh tk mc ys tl S X ho hD hd
  refine comp_finA (Q := fun _ s' => Q s') hLe S X hy hp fun h' tk' F' N' => h D ys _ h' tk' ((D, lst ys) :: tl) F' N' (fun p hp q hq => ?_) List.mem_cons_self (hd.mono fun p hp => List.mem_cons_of_mem _ hp)
  rcases List.mem_cons.mp hp with rfl | hp
  · exact hD q hq
  · exact ho p hp q hq
end
section
variable {prog : Program} {w : World} {A : Around} {E : Value → Shared → Prop} {s : Shared} {h₀ : Heap} {L : Addr} {m : PySem.Str → Option Value} {env : Env} {nw : List (Addr × Obj)}
  {elt iter : PySem.Expr} {scope : Scope} {cl : List (PySem.Str × Addr)} {pos : Pos} {RR : Value → Addr → Result → Shared → Prop}
theorem range_E {x : PySem.Str} {px : Pos} {r : Addr} {a b c : Int} {t u v : Tok} {n : Nat} (hh : A.handled = none) (F : Fr h₀ L s.heap m) (N : News h₀ L s.heap nw) (hr : IsRange s.heap r a b c t u v) (hsmall : Builtin.Range.small a b c = true) (hsz : Builtin.Range.rangeSize a b c = (n : Int))
    (hcell : ∀ y ∈ scope.names, y.2 ≠ .cell) (hkind : scope.kind = .function) (hx : scope.names.lookup x = some .local) (sz : n ≤ sizeLine) (f : Nat → Dat)
    (el : ∀ i t h', i < n → ElE prog w A h₀ L m elt scope cl env nw { s with heap := h' } (fun mc => mc x = some (.int (a + i * c) t)) (f i))
    (fin : ∀ h', FinL h₀ L m nw { s with heap := h' } RR ((List.range n).map f)) :
    ItAt prog w A E (CompK prog w A E env (.ListComp elt [⟨.Name x px, iter, [], 0⟩] scope pos) scope cl RR) (.ref r) s := by
  refine it_range (x := x) (px := px) hh F N hr hsmall hsz fun I h' F' N' X => ?_
  refine dat_E (s₂ := { s with heap := h' }) X hcell hkind F' N' sz (fun C => asg_name (R := fun i v => ∃ t, v = .int (a + i * c) t) (fun i v h hp => hp) (lookup_relabel_local hx) (by simp [compEnvC, relabel, hkind])) f ?_ ?_
  · rintro i v C D oC mc own h tk ys tl E' hi ⟨⟨t, rfl⟩, h1⟩ hC F2 N2
    exact el i t h' hi C D oC mc own h tk ys tl E' h1 hC F2 N2
  · intro D C h tk mc ys tl S CI ho hD hd
    exact fin h' _ _ D C h tk mc ys tl S CI ho hD hd
end
theorem ints_mem : ∀ {vs : List Value} {ns : List Int}, IntsAre vs ns → ∀ v ∈ vs, ∃ n t, v = .int n t
  | _, _, .cons n t h, v, hv => by
    rcases List.mem_cons.mp hv with rfl | hv
    · exact ⟨n, t, rfl⟩
    · exact ints_mem h v hv
theorem ints_of : ∀ {vs : List Value}, (∀ v ∈ vs, ∃ n t, v = .int n t) → ∃ ms, IntsAre vs ms
  | [], _ => ⟨[], .nil⟩
  | v :: vs, h => by
    obtain ⟨n, t, rfl⟩ := h v List.mem_cons_self
    obtain ⟨ms, hm⟩ := ints_of fun u hu => h u (List.mem_cons_of_mem _ hu)
    exact ⟨n :: ms, .cons n t hm⟩
theorem ints_pick {vs : List Value} {ns : List Int} (h : IntsAre vs ns) (lo hi st : Option Int) : ∃ ms, IntsAre (slicePick vs.toArray lo hi st).toList ms := by
  refine ints_of fun v hv => ?_
  unfold slicePick at hv
  simp only [List.toList_toArray, List.mem_filterMap] at hv
  obtain ⟨i, _, hi⟩ := hv
  refine ints_mem h v ?_
  rw [List.getElem?_toArray] at hi
  exact List.mem_of_getElem? hi
section
variable {prog : Program} {w : World} {A : Around} {E : Value → Shared → Prop} {s : Shared} {h₀ : Heap} {L l : Addr} {m : PySem.Str → Option Value} {news : List (Addr × Obj)}
theorem slice_by {value slice : PySem.Expr} {vs ops : List Value} {i j : Int} {k : Nat} {t u : Tok} {Q : Value → Shared → Prop} (F : Fr h₀ L s.heap m) (N : News h₀ L s.heap news) (hm : (l, listOf vs.toArray k) ∈ news) (hz : vs.length ≤ sizeLine) (hj : j ≠ 0)
    (h : ∀ D h', Fr h₀ L h' m → News h₀ L h' ((D, listOf (slicePick vs.toArray (some i) none (some j)).toList.toArray 0) :: news) → (∀ p ∈ news, p.1 < D) → Q (.ref D) { s with heap := h' })
    (hs : subscripted slice false (.ref l) (.ref s.heap.objs.size) = operate ops (getItem (.ref l) (.ref s.heap.objs.size)) := by with_unfolding_all rfl) (ht : ∀ r, letTemporaryGo value (.ref l) r = pure () := by intro _; with_unfolding_all rfl) :
    wpAny (model prog w) A (subscriptTail value slice (.ref l) (.ref s.heap.objs.size)) Q E { s with heap := s.heap.push { cls := .type "slice", data := .fields #[.int i t, .none, .int j u] } } := by
  refine slice_list3 F N (N.isList hm) (.int i t) .none (.int j u) (by simpa using hj) (fun h' F' N' => h _ h' F' ?_ fun p hp => Nat.lt_succ_of_lt (Heap.lt_size (N p hp).1)) hs ht (by simpa using hz)
  rw [Array.toArray_toList]
  exact N'
end

end
section
set_option maxRecDepth 100000
def mmD (p0 : Pt) (t1 t2 t3 : Tok) (wv rw : Value) (k ld : Option Value) : PySem.Str → Option Value := fun y =>
  if y = "wave" then some wv else if y = "rows" then some rw else if y = "k" then k else if y = "leads" then ld else
  if y = "line" then some (.int p0.1 t1) else if y = "col" then some (.int p0.2 t2) else if y = "many" then some (.int 4 t3) else none
abbrev tup2 (x y : Value) (k : Nat) : Obj := { cls := .type "tuple", data := .seq #[x, y] k }
/-- where the loop stands: i rounds are over -/
def DJ (g : Heap) (L' c1 c2 c3 : Nat) (p0 m0 m1 m2 : Pt) (t1 t2 t3 : Tok) (oM : Obj) (news : List (Addr × Obj)) (s : Shared) (I rw : Nat) (n : Nat) (s' : Shared) : Prop :=
  ∃ (i : Nat) (h : Heap) (tk : Nat) (kn wv kk kw kR : Nat) (kits wits rs : List Value) (k ld : Option Value) (o2 o3 : Obj) (v3 : Option Value) (tl : List (Addr × Obj)),
    n = 4 - i ∧ i ≤ 4 ∧ s' = { s with heap := h, toks := tk } ∧ Fr g L' h (mmD p0 t1 t2 t3 (.ref wv) (.ref rw) k ld) ∧
    News g L' h ((I, rgObj ((i + 1 : Nat) : Int) ((4 - i : Nat) : Int) 1) :: (rw, listOf rs.toArray kR) :: (c3, o3) :: (c2, o2) :: (c1, oM) :: (tl ++ news)) ∧ o2.data = .cell (some (.ref kn)) ∧ o3.data = .cell v3 ∧
    (kn, listOf kits.toArray kk) ∈ tl ++ news ∧ DatAll (tl ++ news) kits ((dst p0 m0 m1 m2 i).1.map ptD) ∧ (wv, listOf wits.toArray kw) ∈ tl ++ news ∧ DatAll (tl ++ news) wits ((dst p0 m0 m1 m2 i).2.1.map ptD) ∧
    DatAll (tl ++ news) rs ((dst p0 m0 m1 m2 i).2.2.map rowD) ∧ (∀ p ∈ tl ++ news, p.1 ≠ I) ∧ (∀ p ∈ tl ++ news, p.1 ≠ rw) ∧ (∀ p ∈ tl ++ news, p.1 ≠ c3) ∧ (∀ p ∈ tl ++ news, p.1 ≠ c2) ∧ (∀ p ∈ tl ++ news, p.1 ≠ c1) ∧
    (∀ p ∈ tl, ∀ q ∈ news, q.1 < p.1)
theorem dj_start {g h : Heap} {L' : Nat} {p0 m0 m1 m2 : Pt} {t1 t2 t3 : Tok} {oM o2 o3 : Obj} {news : List (Addr × Obj)} {s : Shared} {I rw wv kn A1 A2 D tk kA kB : Nat} {oD : Obj} {mm : PySem.Str → Option Value} {v3 : Option Value}
    (F : Fr g L' h mm) (N : News g L' h ((I, rgObj 1 4 1) :: (D, oD) :: (rw, listOf #[] 0) :: (wv, listOf #[.ref A2] 0) :: (A2, tup2 (.int p0.1 t1) (.int p0.2 t2) kB) :: (kn, listOf #[.ref A1] 0) :: (A1, tup2 (.int p0.1 t1) (.int p0.2 t2) kA) :: (L' + 1 + 1 + 1, o3) :: (L' + 1 + 1, o2) :: (L' + 1, oM) :: news))
    (hm : ∀ y, mm y = mmD p0 t1 t2 t3 (.ref wv) (.ref rw) none none y) (d2 : o2.data = .cell (some (.ref kn))) (d3 : o3.data = .cell v3) (l0 : ∀ p ∈ news, p.1 < L') (l1 : L' + 1 + 1 + 1 < A1) (l2 : A1 < kn) (l3 : kn < A2) (l4 : A2 < wv) (l5 : wv < rw) (l6 : rw < D) (l7 : D < I) :
    DJ g L' (L' + 1) (L' + 1 + 1) (L' + 1 + 1 + 1) p0 m0 m1 m2 t1 t2 t3 oM news s I rw 4 { s with heap := h, toks := tk } := by
  have ne : ∀ c : Nat, c ≠ D → c ≠ wv → c ≠ kn → c ≠ A1 → c ≠ A2 → L' ≤ c → ∀ p ∈ [(D, oD), (wv, listOf #[.ref A2] 0), (A2, tup2 (.int p0.1 t1) (.int p0.2 t2) kB), (kn, listOf #[.ref A1] 0), (A1, tup2 (.int p0.1 t1) (.int p0.2 t2) kA)] ++ news, p.1 ≠ c := by
    intro c h1 h2 h3 h4 h5 h6 p hp
    simp only [List.cons_append, List.nil_append, List.mem_cons] at hp
    rcases hp with rfl | rfl | rfl | rfl | rfl | hp
    · exact Ne.symm h1
    · exact Ne.symm h2
    · exact Ne.symm h5
    · exact Ne.symm h3
    · exact Ne.symm h4
    · exact Nat.ne_of_lt (Nat.lt_of_lt_of_le (l0 p hp) h6)
  refine ⟨0, h, tk, kn, wv, 0, 0, 0, [.ref A1], [.ref A2], [], none, none, o2, o3, v3, [(D, oD), (wv, listOf #[.ref A2] 0), (A2, tup2 (.int p0.1 t1) (.int p0.2 t2) kB), (kn, listOf #[.ref A1] 0), (A1, tup2 (.int p0.1 t1) (.int p0.2 t2) kA)], rfl, Nat.zero_le _, rfl, fr_same F hm, ?_, d2, d3, ?_,
    DatAll.one (DatIn.tuple (a := A1) (n := kA) (vs := [.int p0.1 t1, .int p0.2 t2]) ?_ (.cons (.int _ _) (.cons (.int _ _) .nil))), ?_, DatAll.one (DatIn.tuple (a := A2) (n := kB) (vs := [.int p0.1 t1, .int p0.2 t2]) ?_ (.cons (.int _ _) (.cons (.int _ _) .nil))), DatAll.nil,
    ne I (by omega) (by omega) (by omega) (by omega) (by omega) (by omega), ne rw (by omega) (by omega) (by omega) (by omega) (by omega) (by omega), ne _ (by omega) (by omega) (by omega) (by omega) (by omega) (by omega), ne _ (by omega) (by omega) (by omega) (by omega) (by omega) (by omega), ne _ (by omega) (by omega) (by omega) (by omega) (by omega) (by omega), ?_⟩
  · intro p hp
    refine N p ?_
    simp only [List.cons_append, List.nil_append, List.mem_cons] at hp ⊢
    rcases hp with h | h | h | h | h | h | h | h | h | h | h
    · exact .inl h
    · exact .inr (.inr (.inl h))
    · exact .inr (.inr (.inr (.inr (.inr (.inr (.inr (.inl h)))))))
    · exact .inr (.inr (.inr (.inr (.inr (.inr (.inr (.inr (.inl h))))))))
    · exact .inr (.inr (.inr (.inr (.inr (.inr (.inr (.inr (.inr (.inl h)))))))))
    · exact .inr (.inl h)
    · exact .inr (.inr (.inr (.inl h)))
    · exact .inr (.inr (.inr (.inr (.inl h))))
    · exact .inr (.inr (.inr (.inr (.inr (.inl h)))))
    · exact .inr (.inr (.inr (.inr (.inr (.inr (.inl h))))))
    · exact .inr (.inr (.inr (.inr (.inr (.inr (.inr (.inr (.inr (.inr h)))))))))
  · simp
  · simp
  · simp
  · simp
  · intro p hp q hq
    have := ltN (l0 q hq)
    simp only [List.mem_cons, List.not_mem_nil, or_false] at hp
    rcases hp with rfl | rfl | rfl | rfl | rfl
    all_goals (show @LT.lt Nat _ _ _; dsimp only; omega)
/-- pairs of ints do not lie in lists, cells, iterators -/
theorem datP_swap {n1 n2 : List (Addr × Obj)} (hs : ∀ p ∈ n1, p.2.cls = .type "tuple" → (∀ v, p.2.data ≠ .cell v) → p ∈ n2) : ∀ {its : List Value} {ps : List Pt}, DatAll n1 its (ps.map ptD) → DatAll n2 its (ps.map ptD)
  | [], [], _ => DatAll.nil
  | [], _ :: _, h => by cases h
  | _ :: _, [], h => by cases h
  | v :: its, p :: ps, h => by
    cases h with
    | cons h1 h2 =>
      obtain ⟨T, k, t1, t2, rfl, hm⟩ := pair_dat h1
      exact DatAll.cons (DatIn.tuple (vs := [.int p.1 t1, .int p.2 t2]) (hs _ hm rfl (fun _ e => by cases e)) (.cons (.int _ _) (.cons (.int _ _) .nil))) (datP_swap hs h2)
/-- a list of pairs is not the list of rows -/
theorem list_restP {g h : Heap} {L : Addr} {a : Addr} {its : List Value} {ps : List Pt} {kg : Nat} {tl pre rest : List (Addr × Obj)} (N : News g L h (tl ++ (pre ++ rest))) (hm : (a, listOf its.toArray kg) ∈ tl ++ (pre ++ rest)) (hd : DatAll (tl ++ (pre ++ rest)) its (ps.map ptD)) (hne : ps ≠ [])
    (hp : ∀ p ∈ pre, p.2.cls ≠ .type "list" ∨ (∃ v, p.2.data = .cell v) ∨ ∃ (rs : List Value) (k : Nat) (qs : List (List Pt)), p.2 = listOf rs.toArray k ∧ DatAll (tl ++ (pre ++ rest)) rs (qs.map rowD)) : (a, listOf its.toArray kg) ∈ tl ++ rest := by
  rcases List.mem_append.mp hm with h1 | h1
  · exact List.mem_append_left _ h1
  rcases List.mem_append.mp h1 with h1 | h1
  · exfalso
    rcases hp _ h1 with h2 | ⟨v, h2⟩ | ⟨rs, k, qs, h2, h3⟩
    · exact absurd rfl h2
    · cases h2
    · have e := congrArg Obj.data h2
      simp only [Data.seq.injEq, Array.mk.injEq] at e
      obtain ⟨e, _⟩ := e
      have e2 : its = rs := e
      subst e2
      cases ps with
      | nil => exact hne rfl
      | cons p ps =>
        cases its with
        | nil => cases hd
        | cons v its =>
          cases qs with
          | nil => cases h3
          | cons q qs =>
            cases hd with
            | cons d1 _ =>
              cases h3 with
              | cons d2 _ =>
                obtain ⟨T, k, t1, t2, rfl, hT⟩ := pair_dat d1
                unfold rowD at d2
                cases d2 with
                | list hl _ =>
                  have e1 := (N _ hT).1
                  have e2 := (N _ hl).1
                  rw [e1] at e2
                  have := congrArg Obj.cls (Option.some.inj e2)
                  exact absurd this (by show ¬ (Value.type "tuple" = .type "list"); decide)
  · exact List.mem_append_right _ h1
theorem once_ne {l : List Pt} (h : l ≠ []) : onceP l ≠ [] := by
  rw [once_dd]
  cases l with
  | nil => exact absurd rfl h
  | cons x l => exact List.cons_ne_nil _ _
theorem sums_ne (p m0 m1 m2 : Pt) (n : Nat) : sumsP p m0 m1 m2 n ≠ [] := by
  unfold sumsP counts
  intro h
  have := List.map_eq_nil_iff.mp h
  rw [List.range_succ_eq_map, List.flatMap_cons] at this
  have := (List.append_eq_nil_iff.mp this).1
  cases this
theorem filter_range {f : Pt → Dat} {q : Pt → Bool} (ps : List Pt) : ((List.range ps.length).filter fun i => q (ps.getD i (0, 0))).map (fun i => f (ps.getD i (0, 0))) = (ps.filter q).map f := by
  have e : ps = (List.range ps.length).map fun i => ps.getD i (0, 0) := by
    refine List.ext_getElem (by simp) fun i h1 h2 => ?_
    simp [List.getD_eq_getElem?_getD, List.getElem?_eq_getElem h1]
  conv => rhs; rw [e, List.filter_map, List.map_map]
  rfl
theorem sums_len {n : Nat} (hn : n ≤ 4) (p m0 m1 m2 : Pt) : (sumsP p m0 m1 m2 n).length ≤ 25 := by
  unfold sumsP
  rw [List.length_map, ← List.length_map (f := cD), ← cnt_all]
  have := cnt_len hn (n + 1) (Nat.le_refl _)
  omega
theorem dst_len {p m0 m1 m2 : Pt} : ∀ i, i ≤ 4 → (dst p m0 m1 m2 i).1.length ≤ 1 + 25 * i ∧ (dst p m0 m1 m2 i).2.1.length ≤ 25
  | 0, _ => by simp [dst]
  | i + 1, h => by
    obtain ⟨a, b⟩ := dst_len (p := p) (m0 := m0) (m1 := m1) (m2 := m2) i (by omega)
    have c : (offP (onceP (sumsP p m0 m1 m2 (i + 1))) (dst p m0 m1 m2 i).1).length ≤ 25 := Nat.le_trans (off_len _ _) (Nat.le_trans (once_len _) (sums_len h p m0 m1 m2))
    refine ⟨?_, c⟩
    show List.length (_ ++ _) ≤ _
    rw [List.length_append]
    omega
/-- the data's addresses are none of the loop's own objects' -/
structure Off (c1 c2 c3 rw I : Nat) (news D : List (Addr × Obj)) : Prop where
  nI : ∀ p ∈ D ++ news, p.1 ≠ I
  nr : ∀ p ∈ D ++ news, p.1 ≠ rw
  n3 : ∀ p ∈ D ++ news, p.1 ≠ c3
  n2 : ∀ p ∈ D ++ news, p.1 ≠ c2
  n1 : ∀ p ∈ D ++ news, p.1 ≠ c1
  lt : ∀ p ∈ D, ∀ q ∈ news, q.1 < p.1
theorem Off.more {c1 c2 c3 rw I : Nat} {news D tl7 : List (Addr × Obj)} {oI oR o3 o2 o1 : Obj} (O : Off c1 c2 c3 rw I news D) (lt7 : ∀ p ∈ tl7, ∀ q ∈ (I, oI) :: (rw, oR) :: (c3, o3) :: (c2, o2) :: (c1, o1) :: (D ++ news), q.1 < p.1) : Off c1 c2 c3 rw I news (tl7 ++ D) := by
  have go : ∀ (c : Nat) (o : Obj), (c, o) ∈ (I, oI) :: (rw, oR) :: (c3, o3) :: (c2, o2) :: (c1, o1) :: (D ++ news) → (∀ p ∈ D ++ news, p.1 ≠ c) → ∀ p ∈ (tl7 ++ D) ++ news, p.1 ≠ c := by
    intro c o hc h p hp
    rw [List.append_assoc] at hp
    rcases List.mem_append.mp hp with hp | hp
    · exact Nat.ne_of_gt (lt7 p hp (c, o) hc)
    · exact h p hp
  refine ⟨go I oI (by simp) O.nI, go rw oR (by simp) O.nr, go c3 o3 (by simp) O.n3, go c2 o2 (by simp) O.n2, go c1 o1 (by simp) O.n1, fun p hp q hq => ?_⟩
  rcases List.mem_append.mp hp with hp | hp
  · exact lt7 p hp q (List.mem_cons_of_mem _ (List.mem_cons_of_mem _ (List.mem_cons_of_mem _ (List.mem_cons_of_mem _ (List.mem_cons_of_mem _ (List.mem_append_right _ hq))))))
  · exact O.lt p hp q hq
theorem led_move {g h : Heap} {L : Addr} {tl7 D news : List (Addr × Obj)} {a b c d e : Addr × Obj} (N : News g L h (tl7 ++ (a :: b :: c :: d :: e :: (D ++ news)))) : News g L h (a :: b :: c :: d :: e :: ((tl7 ++ D) ++ news)) := fun p hp => N p (by
  simp only [List.mem_cons, List.mem_append] at hp ⊢
  rcases hp with h | h | h | h | h | (h | h) | h
  all_goals simp [h])
/-- pairs, found among the data -/
theorem datP_move {tl7 D news : List (Addr × Obj)} {a b c d e : Addr × Obj} {its : List Value} {ps : List Pt} (ha : a.2.cls ≠ .type "tuple") (hb : b.2.cls ≠ .type "tuple") (hc : ∃ v, c.2.data = .cell v) (hd : ∃ v, d.2.data = .cell v) (he : ∃ v, e.2.data = .cell v)
    (h : DatAll (tl7 ++ (a :: b :: c :: d :: e :: (D ++ news))) its (ps.map ptD)) : DatAll ((tl7 ++ D) ++ news) its (ps.map ptD) := datP_swap (fun p hp hcl hne => by
  simp only [List.mem_cons, List.mem_append] at hp ⊢
  rcases hp with h | rfl | rfl | rfl | rfl | rfl | h | h
  · simp [h]
  · exact absurd hcl ha
  · exact absurd hcl hb
  · obtain ⟨v, q⟩ := hc; exact absurd q (hne v)
  · obtain ⟨v, q⟩ := hd; exact absurd q (hne v)
  · obtain ⟨v, q⟩ := he; exact absurd q (hne v)
  · simp [h]
  · simp [h]) h
theorem dsN_leads (W : List Pt) (m0 m1 m2 : Pt) : dsN (fun _ => 3) (fun i k => ptD (mv (W.getD i (0, 0)) ([m0, m1, m2].getD k (0, 0)))) W.length = (leads W [m0, m1, m2]).map ptD := by
  have e : W = (List.range W.length).map fun i => W.getD i (0, 0) := by
    refine List.ext_getElem (by simp) fun i h1 h2 => ?_
    simp [List.getD_eq_getElem?_getD, List.getElem?_eq_getElem h1]
  unfold dsN leads
  rw [List.map_flatMap]
  conv => rhs; rw [e, List.flatMap_map]
  rfl
theorem dst_in {MB : Nat} {p m0 m1 m2 : Pt} (h0 : InB MB p) (hm : ∀ q ∈ [m0, m1, m2], InB 2 q) {i : Nat} (hi : i ≤ 4) : ∀ q ∈ leads (dst p m0 m1 m2 i).2.1 [m0, m1, m2], InB (MB + 2 * i + 2) q := by
  rw [← wst_dst p m0 m1 m2 i hi]
  exact leads_in (wst_bounds h0 hm (Nat.le_refl 3) i).2.1 hm
theorem in5 {own tl D news : List (Addr × Obj)} {x y a b c d e p : Addr × Obj} (h : p ∈ D ++ news) : p ∈ own ++ x :: y :: (tl ++ (a :: b :: c :: d :: e :: (D ++ news))) :=
  List.mem_append_right _ (List.mem_cons_of_mem _ (List.mem_cons_of_mem _ (List.mem_append_right _ (List.mem_cons_of_mem _ (List.mem_cons_of_mem _ (List.mem_cons_of_mem _ (List.mem_cons_of_mem _ (List.mem_cons_of_mem _ h))))))))
theorem okP (l : List Pt) : ∀ d ∈ l.map ptD, kqdOk 8 d = true := fun d hd => by
  obtain ⟨q, _, rfl⟩ := List.mem_map.mp hd
  exact ptD_ok q
theorem dj_next {g h : Heap} {L' c1 c2 c3 : Nat} {p0 m0 m1 m2 : Pt} {t1 t2 t3 : Tok} {oM o2 o3 : Obj} {news dw : List (Addr × Obj)} {s : Shared} {I rw i tk kT kK kR kf : Nat} {TP KA : Addr} {af : Nat} {mm : PySem.Str → Option Value} {k ld v3 : Option Value} {kits fits rs : List Value}
    (hi : i < 4) (F : Fr g L' h mm) (N : News g L' h ((TP, tup2 (.ref KA) (.ref af) kT) :: (KA, listOf kits.toArray kK) :: (I, rgObj ((i + 1 + 1 : Nat) : Int) ((4 - (i + 1) : Nat) : Int) 1) :: (rw, listOf rs.toArray kR) :: (c3, o3) :: (c2, o2) :: (c1, oM) :: (dw ++ news)))
    (hm : ∀ y, mm y = mmD p0 t1 t2 t3 (.ref af) (.ref rw) k ld y) (d2 : o2.data = .cell (some (.ref KA))) (d3 : o3.data = .cell v3) (O : Off c1 c2 c3 rw I news dw)
    (lK : ∀ c : Nat, (c = I ∨ c = rw ∨ c = c3 ∨ c = c2 ∨ c = c1 ∨ ∃ q ∈ dw ++ news, c = q.1) → c < KA) (lT : KA < TP)
    (hkD : DatAll (dw ++ news) kits ((dst p0 m0 m1 m2 (i + 1)).1.map ptD)) (haf : (af, listOf fits.toArray kf) ∈ dw ++ news) (hfD : DatAll (dw ++ news) fits ((dst p0 m0 m1 m2 (i + 1)).2.1.map ptD)) (hrs : DatAll (dw ++ news) rs ((dst p0 m0 m1 m2 (i + 1)).2.2.map rowD)) :
    DJ g L' c1 c2 c3 p0 m0 m1 m2 t1 t2 t3 oM news s I rw (4 - (i + 1)) { s with heap := h, toks := tk } := by
  have lK2 : ∀ q ∈ (I, rgObj ((i + 1 + 1 : Nat) : Int) ((4 - (i + 1) : Nat) : Int) 1) :: (rw, listOf rs.toArray kR) :: (c3, o3) :: (c2, o2) :: (c1, oM) :: (dw ++ news), q.1 < KA := by
    intro q hq
    simp only [List.mem_cons] at hq
    rcases hq with rfl | rfl | rfl | rfl | rfl | hq
    · exact lK _ (.inl rfl)
    · exact lK _ (.inr (.inl rfl))
    · exact lK _ (.inr (.inr (.inl rfl)))
    · exact lK _ (.inr (.inr (.inr (.inl rfl))))
    · exact lK _ (.inr (.inr (.inr (.inr (.inl rfl)))))
    · exact lK _ (.inr (.inr (.inr (.inr (.inr ⟨q, hq, rfl⟩)))))
  have O2 := O.more (tl7 := [(TP, tup2 (.ref KA) (.ref af) kT), (KA, listOf kits.toArray kK)]) (oI := rgObj ((i + 1 + 1 : Nat) : Int) ((4 - (i + 1) : Nat) : Int) 1) (oR := listOf rs.toArray kR) (o3 := o3) (o2 := o2) (o1 := oM) (by
    intro p hp q hq
    simp only [List.mem_cons, List.not_mem_nil, or_false] at hp
    rcases hp with rfl | rfl
    · exact Nat.lt_trans (lK2 q hq) lT
    · exact lK2 q hq)
  have up : ∀ {p : Addr × Obj}, p ∈ dw ++ news → p ∈ ([(TP, tup2 (.ref KA) (.ref af) kT), (KA, listOf kits.toArray kK)] ++ dw) ++ news := fun h => by rw [List.append_assoc]; exact List.mem_append_right _ h
  exact ⟨i + 1, h, tk, KA, af, kK, kf, kR, kits, fits, rs, k, ld, o2, o3, v3, [(TP, tup2 (.ref KA) (.ref af) kT), (KA, listOf kits.toArray kK)] ++ dw, rfl, hi, rfl, fr_same F hm, led_move (tl7 := [(TP, tup2 (.ref KA) (.ref af) kT), (KA, listOf kits.toArray kK)]) N, d2, d3,
    List.mem_append_left _ (List.mem_append_left _ (by simp)), hkD.mono fun p hp => up hp, up haf, hfD.mono fun p hp => up hp, hrs.mono fun p hp => up hp, O2.nI, O2.nr, O2.n3, O2.n2, O2.n1, O2.lt⟩
/-- where it stands in the context, the walk pauses at a subscript -/
def MkStop : Prop := True

end
section
local macro_rules | `(tactic| walk_at "subscriptTail") => `(tactic| ((rename MkStop => hMk); refine Paused.of ?_))
local macro_rules | `(tactic| walk_at "subscriptTail Name Constant ref int") => `(tactic| ((rename MkStop => hMk); refine Paused.of ?_))
local macro_rules | `(tactic| walk_at "call builtin:list.append") => `(tactic| (refine Paused.of ?_))
local macro_rules | `(tactic| walk_at "binaryOp Mod str ref") => `(tactic| (refine Paused.of ?_))
local macro_rules | `(tactic| walk_at "binaryOp Add ref ref") => `(tactic| (refine Paused.of ?_))
local macro_rules | `(tactic| walk_at "compareOp NotIn") => `(tactic| (refine Paused.of ?_))
local macro_rules | `(tactic| walk_at "compareOp NotIn ref ref") => `(tactic| (refine Paused.of ?_))
local macro_rules | `(tactic| walk_at "compareOp In") => `(tactic| (refine Paused.of ?_))
local macro_rules | `(tactic| walk_at "compareOp In ref ref") => `(tactic| (refine Paused.of ?_))
local macro_rules | `(tactic| walk_at "exec For") => `(tactic| (refine Paused.of ?_))
local macro_rules | `(tactic| walk_at "exec For Name Name cons nil") => `(tactic| (refine Paused.of ?_))
local macro_rules | `(tactic| walk_at "exec For Name Call cons nil") => `(tactic| (refine Paused.of ?_))
local macro_rules | `(tactic| walk_at "call ref") => `(tactic| (refine Paused.of ?_))
local macro_rules | `(tactic| k_all) => `(tactic| first | assumption | (refine List.forall_mem_append.mpr ⟨?_, ?_⟩ <;> k_all) | (intro p9 hp9; (rename (∀ p ∈ (_ : List (Addr × Obj)), p.1 < (_ : Addr)) => h8); have h9 := ltN (h8 p9 hp9); k_ne))
set_option maxRecDepth 100000
open Classical in
set_option maxHeartbeats 8000000 in
theorem due (w : World) (loose : List PySem.Str) (mean : ExcName → Option Value) (mg mb : PySem.Str → Option Value) (p0 m0 m1 m2 : Pt) {MB : Nat} (hp0 : InB MB p0) (hMB : MB + 10 < 10 ^ 40) (hmv : ∀ p ∈ [m0, m1, m2], InB 2 p) :
    Co w loose mean mg mb 85 8 (fun news vs => ∃ t1 t2 t3 am k T0 T1 T2 k0 k1 k2 u0 u1 u2 w0 w1 w2, vs = [.int p0.1 t1, .int p0.2 t2, .ref am, .int 4 t3] ∧ (am, listOf #[.ref T0, .ref T1, .ref T2] k) ∈ news ∧
      (T0, ({ cls := .type "tuple", data := .seq #[.int m0.1 u0, .int m0.2 w0] k0 } : Obj)) ∈ news ∧ (T1, ({ cls := .type "tuple", data := .seq #[.int m1.1 u1, .int m1.2 w1] k1 } : Obj)) ∈ news ∧ (T2, ({ cls := .type "tuple", data := .seq #[.int m2.1 u2, .int m2.2 w2] k2 } : Obj)) ∈ news)
      (fun news r => ListD news r ((dst p0 m0 m1 m2 4).2.2.map rowD)) := by
  unfold Co Con
  k_fill
  intro dp un gd cn cs a ccd cl outer A₀ base h₀ L m news s vs Q E B F X N T hk hR hd hu hret
  obtain ⟨t1, t2, t3, am, k, T0, T1, T2, k0, k1, k2, u0, u1, u2, w0, w1, w2, rfl, hm, hT0, hT1, hT2⟩ := hR
  refine wpAny_call ?_
  refine' code_defC B F X N T rfl rfl hk ?k6 ?k7 ?k8 ?k9 ?kB ?kD ?_ ?c2 ?c3 ?c4
  case k6 => k_is
  case k7 => k_is
  case k8 => ktr_room
  case k9 => exact BindsTo.of_eq rfl
  case kB => exact rfl
  case kD => decide +kernel
  case c2 => exact rfl
  case c3 => exact rfl
  case c4 => exact rfl
  k_whole
  intro g' L' h' tk' cells' FG' F' N' Y' B' X' T' l1
  obtain ⟨oF, oK, oM, hE', dF, dK, dM⟩ := CellsAre.three Y'
  subst hE'
  clear Y'
  try simp only [List.cons_append, List.nil_append] at N'
  try dsimp only
  try k_fold
  k_steps
  unfold Paused
  refine wpAny_For ?_
  k_steps
  rename IsRange _ _ _ _ _ _ _ _ => hr
  rename Fr _ _ _ _ => F1
  rename News _ _ _ _ => N1
  rename (_ = Data.cell (some (Value.ref _))) => dK1
  refine wpAny_pyIter_range hr (by decide) ?_
  have hlt := fun (p : Addr × Obj) hp => Heap.lt_size (N1 p hp).1
  replace N1 := N1.push F1 (rgObj 1 4 1)
  replace F1 := F1.push (rgObj 1 4 1)
  rename_i rwA _ _ _ _ _ _ _ _ _ _ _ _ hI _ _ _ _ _
  have orI : @LT.lt Nat _ rwA hI.objs.size := hlt (rwA, listOf #[] 0) (by simp)
  have c3r : @LT.lt Nat _ (L' + 1 + 1 + 1) rwA := by omega
  refine for_turns (DJ g' L' (L' + 1) (L' + 1 + 1) (L' + 1 + 1 + 1) p0 m0 m1 m2 t1 t2 t3 oM news s _ _) 4 (dj_start F1 N1 (fun y => ?hm) dK1 dF l1 ?o1 ?o2 ?o3 ?o4 ?o5 ?o6 ?o7) PassesOwn.leaving ?turn
  case hm =>
    by_cases h1 : y = "wave"
    · subst h1; rfl
    by_cases h2 : y = "rows"
    · subst h2; rfl
    by_cases h3 : y = "k"
    · subst h3; rfl
    by_cases h4 : y = "leads"
    · subst h4; rfl
    by_cases h5 : y = "line"
    · subst h5; rfl
    by_cases h6 : y = "col"
    · subst h6; rfl
    by_cases h7 : y = "many"
    · subst h7; rfl
    unfold mmD
    rw [if_neg h1, if_neg h2, if_neg h3, if_neg h4, if_neg h5, if_neg h6, if_neg h7, if_neg h1, if_neg h2]
    show (if y = "many" then _ else if y = "col" then _ else if y = "line" then _ else none) = none
    rw [if_neg h5, if_neg h6, if_neg h7]
  case o1 => omega
  case o2 => omega
  case o3 => omega
  case o4 => omega
  case o5 => omega
  case o6 => omega
  case o7 => exact hlt (_, _) List.mem_cons_self
  clear F1 N1 hr hlt
  rintro n s' ⟨i, h, tkJ, kn, wv, kk, kw, kR, kits, wits, rs, kv, ld, o2, o3, v3, tl, rfl, hi4, rfl, F1, N1, d2, d3, hkn, hkD, hwv, hwD, hrs, nI, nr, n3, n2, n1, lt⟩
  have nI2 : ∀ p ∈ (rwA, listOf rs.toArray kR) :: (L' + 1 + 1 + 1, o3) :: (L' + 1 + 1, o2) :: (L' + 1, oM) :: (tl ++ news), p.1 ≠ hI.objs.size := by
    refine List.forall_mem_cons.mpr ⟨neN (by dsimp only; exact Nat.ne_of_lt orI), List.forall_mem_cons.mpr ⟨neN (by dsimp only; omega), List.forall_mem_cons.mpr ⟨neN (by dsimp only; omega), List.forall_mem_cons.mpr ⟨neN (by dsimp only; omega), nI⟩⟩⟩⟩
  rcases Nat.lt_or_ge i 4 with hi | hi
  · refine range_next F1 N1 nI2 (by omega) fun h2 F2 N2 => ?_
    have er : rgObj (((i + 1 : Nat) : Int) + 1) (((4 - i : Nat) : Int) - 1) 1 = rgObj ((i + 1 + 1 : Nat) : Int) ((4 - (i + 1) : Nat) : Int) 1 := by
      rw [show ((4 - i : Nat) : Int) - 1 = ((4 - (i + 1) : Nat) : Int) by omega, show ((i + 1 : Nat) : Int) + 1 = ((i + 1 + 1 : Nat) : Int) by omega]
    rw [er] at N2
    clear F1 N1 nI2
    dsimp only
    k_steps
    unfold Paused
    rename Fr _ _ _ _ => F3
    rename News _ _ _ _ => N3
    dsimp only at N3
    have hMv : DatAll news [.ref T0, .ref T1, .ref T2] ([m0, m1, m2].map ptD) := .cons (DatIn.tuple (vs := [.int m0.1 u0, .int m0.2 w0]) hT0 (.cons (.int _ _) (.cons (.int _ _) .nil))) (.cons (DatIn.tuple (vs := [.int m1.1 u1, .int m1.2 w1]) hT1 (.cons (.int _ _) (.cons (.int _ _) .nil))) (.cons (DatIn.tuple (vs := [.int m2.1 u2, .int m2.2 w2]) hT2 (.cons (.int _ _) (.cons (.int _ _) .nil))) .nil))
    have up : ∀ {p : Addr × Obj}, p ∈ news → p ∈ [(hI.objs.size, rgObj ((i + 1 + 1 : Nat) : Int) ((4 - (i + 1) : Nat) : Int) 1), (rwA, listOf rs.toArray kR), (L' + 1 + 1 + 1, o3), (L' + 1 + 1, o2), (L' + 1, oM)] ++ (tl ++ news) := fun h => List.mem_append_right _ (List.mem_append_right _ h)
    k_dflt (refine con_call (pre := [(hI.objs.size, rgObj ((i + 1 + 1 : Nat) : Int) ((4 - (i + 1) : Nat) : Int) 1), (rwA, listOf rs.toArray kR), (L' + 1 + 1 + 1, o3), (L' + 1 + 1, o2), (L' + 1, oM)]) (rest := tl ++ news) (counted w loose mean mg mb p0 m0 m1 m2 (i + 1) (by omega)) B' F3 X' N3 T' rfl ⟨t1, t2, tkJ, am, k, T0, T1, T2, k0, k1, k2, u0, u1, u2, w0, w1, w2, rfl, up hm, up hT0, up hT1, up hT2⟩ (by ktr_room) (by ktr_units) ?_)
    intro r tlo h5 tk5 F6 N6 lto hOut
    obtain ⟨ao, oits, ko, rfl, hom, hoD⟩ := hOut
    have N6' : News g' L' h5 (tlo ++ ([(hI.objs.size, rgObj ((i + 1 + 1 : Nat) : Int) ((4 - (i + 1) : Nat) : Int) 1), (rwA, listOf rs.toArray kR), (L' + 1 + 1 + 1, o3), (L' + 1 + 1, o2), (L' + 1, oM)] ++ (tl ++ news))) := fun p hp => N6 p (by
      rcases List.mem_append.mp hp with h | h
      · exact List.mem_append_right _ (List.mem_append_left _ h)
      rcases List.mem_append.mp h with h | h
      · exact List.mem_append_left _ h
      · exact List.mem_append_right _ (List.mem_append_right _ h))
    have hom2 := list_restP N6' hom hoD (once_ne (sums_ne p0 m0 m1 m2 (i + 1))) (List.forall_mem_cons.mpr ⟨.inl (show Value.type "range_iterator" ≠ .type "list" by decide), List.forall_mem_cons.mpr ⟨.inr (.inr ⟨rs, _, _, rfl, hrs.mono fun p hp => List.mem_append_right _ (List.mem_append_right _ hp)⟩), List.forall_mem_cons.mpr ⟨.inr (.inl ⟨_, d3⟩), List.forall_mem_cons.mpr ⟨.inr (.inl ⟨_, d2⟩), List.forall_mem_cons.mpr ⟨.inr (.inl ⟨_, dM⟩), fun _ h => absurd h List.not_mem_nil⟩⟩⟩⟩⟩)
    have hoD2 : DatAll (tlo ++ (tl ++ news)) oits ((onceP (sumsP p0 m0 m1 m2 (i + 1))).map ptD) := datP_swap (fun p hp hc hne => by
      rcases List.mem_append.mp hp with h | h
      · exact List.mem_append_left _ h
      rcases List.mem_append.mp h with h | h
      · simp only [List.mem_cons, List.not_mem_nil, or_false] at h
        rcases h with rfl | rfl | rfl | rfl | rfl
        · exact absurd hc (show ¬ (Value.type "range_iterator" = .type "tuple") by decide)
        · exact absurd hc (show ¬ (Value.type "list" = .type "tuple") by decide)
        · exact absurd d3 (hne _)
        · exact absurd d2 (hne _)
        · exact absurd dM (hne _)
      · exact List.mem_append_right _ h) hoD
    have O5 : Off (L' + 1) (L' + 1 + 1) (L' + 1 + 1 + 1) rwA hI.objs.size news (tlo ++ tl) := Off.more ⟨nI, nr, n3, n2, n1, lt⟩ lto
    have hom3 : (ao, listOf oits.toArray ko) ∈ (tlo ++ tl) ++ news := by rw [List.append_assoc]; exact hom2
    simp only [List.cons_append, List.nil_append] at N6
    rw [← List.append_assoc] at N6 hoD2
    obtain ⟨dt, hdt⟩ : ∃ dt, dt = tlo ++ tl := ⟨_, rfl⟩
    have toD : ∀ {p : Addr × Obj}, p ∈ tl ++ news → p ∈ dt ++ news := fun h => by rw [hdt, List.append_assoc]; exact List.mem_append_right _ h
    rw [← hdt] at N6 hoD2 O5 hom3
    replace hkn := toD hkn
    replace hwv := toD hwv
    replace hkD := hkD.mono fun p hp => toD hp
    replace hwD := hwD.mono fun p hp => toD hp
    replace hrs := hrs.mono fun p hp => toD hp
    clear F3 N3 N6' hom hoD lto hom2 toD nI nr n3 n2 n1 lt
    clear hdt
    obtain ⟨ps, hps⟩ : ∃ ps, ps = onceP (sumsP p0 m0 m1 m2 (i + 1)) := ⟨_, rfl⟩
    rw [← hps] at hoD2
    have hol : oits.length = ps.length := by rw [hoD2.length, List.length_map]
    have hpl : ps.length ≤ 25 := by rw [hps]; exact Nat.le_trans (once_len _) (sums_len (by omega) ..)
    have hdl := dst_len (p := p0) (m0 := m0) (m1 := m1) (m2 := m2) i hi4
    refine list_T (vs := oits) rfl F6 N6 (List.mem_cons_of_mem _ (List.mem_cons_of_mem _ (List.mem_cons_of_mem _ (List.mem_cons_of_mem _ (List.mem_cons_of_mem _ hom3))))) (by decide) (by rfl) (by rfl) (by rw [hol, sizeLine_eq]; omega) (fun j => ptD (ps.getD j (0, 0))) (fun j => !decide (ps.getD j (0, 0) ∈ (dst p0 m0 m1 m2 i).1)) ?el1 ?fin1
    case el1 =>
      rintro j v h6 hv C D oC mc own h7 tk7 ys tl7 E' hka hC F8 N8
      have hjl : j < ps.length := by rw [← hol]; exact (List.getElem?_eq_some_iff.mp hv).1
      have dv := datAll_at hoD2 hv
      rw [getD_map hjl] at dv
      clear F6 N6
      k_steps
      unfold Paused
      have inR : ∀ {p : Addr × Obj}, p ∈ dt ++ news → p ∈ own ++ (C, oC) :: (D, LCg.lst ys) :: (tl7 ++ ((hI.objs.size, rgObj ((i + 1 + 1 : Nat) : Int) ((4 - (i + 1) : Nat) : Int) 1) :: (rwA, listOf rs.toArray kR) :: (L' + 1 + 1 + 1, o3) :: (L' + 1 + 1, o2) :: (L' + 1, oM) :: (dt ++ news))) :=
        fun h => List.mem_append_right _ (List.mem_cons_of_mem _ (List.mem_cons_of_mem _ (List.mem_append_right _ (List.mem_cons_of_mem _ (List.mem_cons_of_mem _ (List.mem_cons_of_mem _ (List.mem_cons_of_mem _ (List.mem_cons_of_mem _ h))))))))
      have okP : ∀ l : List Pt, ∀ d ∈ l.map ptD, kqdOk 8 d = true := fun l d hd => by
        obtain ⟨q, _, rfl⟩ := List.mem_map.mp hd
        exact ptD_ok q
      k_dflt (refine kqd_notIn N8 (inR hkn) rfl rfl hkD (fun p hp => inR hp) dv (fun p hp => inR hp) (okP _) (ptD_ok _) (by ktr_units) ?_)
      have ed : (!decide (ptD (ps.getD j (0, 0)) ∈ (dst p0 m0 m1 m2 i).1.map ptD)) = !decide (ps.getD j (0, 0) ∈ (dst p0 m0 m1 m2 i).1) := by
        congr 1
        refine decide_eq_decide.mpr ⟨fun h => ?_, fun h => List.mem_map_of_mem h⟩
        obtain ⟨q, hq, e⟩ := List.mem_map.mp h
        rw [← ptD_inj e]; exact hq
      refine wpAny_truthy_bool ⟨ed, ?_⟩
      rw [ed]
      cases hb : (!decide (ps.getD j (0, 0) ∈ (dst p0 m0 m1 m2 i).1)) with
      | true =>
        rw [if_pos rfl]
        k_steps
        refine ⟨_, _, [], rfl, F8, N8, fun p hp => absurd hp List.not_mem_nil, ?_⟩
        exact dv.mono fun p hp => List.mem_append_right _ (List.mem_cons_of_mem _ (List.mem_cons_of_mem _ (List.mem_cons_of_mem _ (List.mem_cons_of_mem _ (List.mem_cons_of_mem _ hp)))))
      | false =>
        rw [if_neg Bool.false_ne_true]
        exact ⟨_, _, [], rfl, F8, N8, fun p hp => absurd hp List.not_mem_nil, trivial⟩
    case fin1 =>
      intro h6
      refine finL2 fun af fits kf h7 tk7 tl7 F8 N8 lt7 hfm hfD => ?_
      rw [hol, filter_range (f := ptD) (q := fun p => !decide (p ∈ (dst p0 m0 m1 m2 i).1))] at hfD
      clear F6 N6
      replace N8 := led_move N8
      replace hfD := datP_move (show Value.type "range_iterator" ≠ .type "tuple" by decide) (show Value.type "list" ≠ .type "tuple" by decide) ⟨_, d3⟩ ⟨_, d2⟩ ⟨_, dM⟩ hfD
      replace O5 := O5.more lt7
      have hfm2 : (af, listOf fits.toArray kf) ∈ (tl7 ++ dt) ++ news := List.mem_append_left _ (List.mem_append_left _ hfm)
      obtain ⟨du, hdu⟩ : ∃ du, du = tl7 ++ dt := ⟨_, rfl⟩
      have toD : ∀ {p : Addr × Obj}, p ∈ dt ++ news → p ∈ du ++ news := fun h => by rw [hdu, List.append_assoc]; exact List.mem_append_right _ h
      rw [← hdu] at N8 hfD O5 hfm2
      replace hkn := toD hkn
      replace hwv := toD hwv
      replace hkD := hkD.mono fun p hp => toD hp
      replace hwD := hwD.mono fun p hp => toD hp
      replace hrs := hrs.mono fun p hp => toD hp
      clear lt7 hfm hoD2 hom3 toD hdu
      have n35 := O5.n3
      k_steps
      rename Fr _ _ _ _ => F9
      rename News _ _ _ _ => N9
      rename (_ = Data.cell (some (Value.ref af))) => d5
      obtain ⟨xy, hxy, hxyv⟩ := pairs_of hMv
      have hwl : wits.length = (dst p0 m0 m1 m2 i).2.1.length := by rw [hwD.length, List.length_map]
      refine nest_list (vs := wits) (xy := xy) rfl F9 N9 (List.mem_cons_of_mem _ (List.mem_cons_of_mem _ (List.mem_cons_of_mem _ (List.mem_cons_of_mem _ (List.mem_cons_of_mem _ hwv))))) (by decide) (by rfl) (by rfl) (by decide) (by decide) (by decide) (by intro _ _; rfl) 3
        (fun i' k' => ptD (mv ((dst p0 m0 m1 m2 i).2.1.getD i' (0, 0)) ([m0, m1, m2].getD k' (0, 0)))) ?sz2 ?inn2 ?el2 ?fin2
      case sz2 =>
        intro i' hi' k' hk'
        have hn : ∀ (f : Nat → Nat → Dat) (n : Nat), (dsN (fun _ => 3) f n).length = n * 3 := fun f n => by
          induction n with
          | zero => rfl
          | succ n ih => rw [dsN_succ, List.length_append, ih, List.length_map, List.length_range]; omega
        rw [List.length_append, List.length_map, List.length_range, sizeLine_eq, hn]
        omega
      case inn2 =>
        rintro i' v' h8 hv' C D oC mc own h9 tk9 ys tl9 E' K hmc hC F10 N10 off hK
        clear F9 N9
        k_steps
        exact inn_pairs rfl (by rfl) (by rfl) (by rfl) F10 N10 (List.mem_cons_of_mem _ (List.mem_cons_of_mem _ (List.mem_cons_of_mem _ (List.mem_cons_of_mem _ (List.mem_cons_of_mem _ (List.mem_append_right _ hm)))))) off (fun i v hv => let ⟨T, k, e, hm⟩ := hxy i v hv; ⟨T, k, e, List.mem_cons_of_mem _ (List.mem_cons_of_mem _ (List.mem_cons_of_mem _ (List.mem_cons_of_mem _ (List.mem_cons_of_mem _ (List.mem_append_right _ hm)))))⟩) hK
      case el2 =>
        rintro i' k' v' h8 hv' hk' C D oC mc own h9 tk9 ys tl9 E' ⟨hm1, hm2, hm3⟩ hC F10 N10
        have hil : i' < (dst p0 m0 m1 m2 i).2.1.length := by rw [← hwl]; exact (List.getElem?_eq_some_iff.mp hv').1
        have dv := datAll_at hwD hv'
        rw [getD_map hil] at dv
        obtain ⟨Tv, kT, ta, tb, rfl, hTv⟩ := pair_dat dv
        obtain ⟨tc, td, exy⟩ := hxyv k' hk'
        rw [exy] at hm2 hm3
        dsimp only at hm2 hm3
        clear F9 N9

        have hMk : MkStop := trivial
        k_steps
        unfold Paused
        k_dflt (refine item_tupleL (l := [.int _ ta, .int _ tb]) (j := 0) ⟨_, (N10 _ (in5 hTv)).1, rfl, _, rfl⟩ (by decide) (by decide) rfl rfl ?_)
        k_steps
        unfold Paused
        k_dflt (refine item_tupleL (l := [.int _ ta, .int _ tb]) (j := 1) ⟨_, (N10 _ (in5 hTv)).1, rfl, _, rfl⟩ (by decide) (by decide) rfl rfl ?_)
        k_steps
        rename Fr _ _ _ _ => F11
        rename News _ _ _ _ => N11
        rename (∀ p ∈ own ++ _, p.1 < _) => l11
        refine ⟨_, _, [(_, _)], rfl, F11, N11, fun p hp => ?_, DatIn.tuple List.mem_cons_self (.cons (.int _ _) (.cons (.int _ _) .nil))⟩
        rw [List.mem_singleton.mp hp]
        exact l11
      case fin2 =>
        intro h8
        refine finLA2 ?e1 ?e2 ?e3 fun al lits kl h9 tk9 tl9 F10 N10 lt9 hlm hlD => ?_
        case e1 => rfl
        case e2 => rfl
        case e3 => rfl
        clear F9 N9
        rw [hwl, dsN_leads] at hlD
        replace N10 := led_move N10
        replace hlD := datP_move (show Value.type "range_iterator" ≠ .type "tuple" by decide) (show Value.type "list" ≠ .type "tuple" by decide) ⟨_, d5⟩ ⟨_, d2⟩ ⟨_, dM⟩ hlD
        replace O5 := O5.more lt9
        have hlm2 : (al, listOf lits.toArray kl) ∈ (tl9 ++ du) ++ news := List.mem_append_left _ (List.mem_append_left _ hlm)
        obtain ⟨dv, hdv⟩ : ∃ dv, dv = tl9 ++ du := ⟨_, rfl⟩
        have toD : ∀ {p : Addr × Obj}, p ∈ du ++ news → p ∈ dv ++ news := fun h => by rw [hdv, List.append_assoc]; exact List.mem_append_right _ h
        rw [← hdv] at N10 hlD O5 hlm2
        replace hkn := toD hkn
        replace hfm2 := toD hfm2
        replace hkD := hkD.mono fun p hp => toD hp
        replace hfD := hfD.mono fun p hp => toD hp
        replace hrs := hrs.mono fun p hp => toD hp
        clear lt9 hlm hwv hwD hwl hxy hxyv xy toD hdv n35
        obtain ⟨fr, hfr⟩ : ∃ fr, fr = offP ps (dst p0 m0 m1 m2 i).1 := ⟨_, rfl⟩
        obtain ⟨lds, hlds⟩ : ∃ lds, lds = leads (dst p0 m0 m1 m2 i).2.1 [m0, m1, m2] := ⟨_, rfl⟩
        have hldB : ∀ q ∈ lds, InB (MB + 10) q := fun q hq => (dst_in hp0 hmv hi4 q (hlds ▸ hq)).mono (by omega)
        have hldl : lds.length ≤ 75 := by
          rw [hlds, leads_len]
          exact Nat.mul_le_mul hdl.2 (Nat.le_refl 3)
        change DatAll (dv ++ news) fits ((offP ps (dst p0 m0 m1 m2 i).1).map ptD) at hfD
        rw [← hfr] at hfD
        rw [← hlds] at hlD
        have hll : lits.length = lds.length := by rw [hlD.length, List.length_map]
        k_steps
        rename Fr _ _ _ _ => F12
        rename News _ _ _ _ => N12
        refine list_T (vs := lits) rfl F12 N12 (List.mem_cons_of_mem _ (List.mem_cons_of_mem _ (List.mem_cons_of_mem _ (List.mem_cons_of_mem _ (List.mem_cons_of_mem _ hlm2))))) (by decide) (by rfl) (by rfl) (by rw [hll, sizeLine_eq]; omega) (fun j => stD (lds.getD j (0, 0))) (fun j => decide (lds.getD j (0, 0) ∈ fr)) ?el3 ?fin3
        case el3 =>
          rintro j v h10 hv C D oC mc own h11 tk11 ys tl11 E' hka hC F13 N13
          have hjl : j < lds.length := by rw [← hll]; exact (List.getElem?_eq_some_iff.mp hv).1
          have dj := datAll_at hlD hv
          rw [getD_map hjl] at dj
          obtain ⟨Tj, kj, ta, tb, rfl, hTj⟩ := pair_dat dj
          have hjB := (hldB _ (getD_mem hjl)).sm hMB
          clear F12 N12
          k_steps
          unfold Paused
          k_dflt (refine kqd_isIn N13 (in5 hfm2) rfl rfl hfD (fun p hp => in5 hp) dj (fun p hp => in5 hp) (okP _) (ptD_ok _) (by ktr_units) ?_)
          have ed : decide (ptD (lds.getD j (0, 0)) ∈ fr.map ptD) = decide (lds.getD j (0, 0) ∈ fr) := by
            refine decide_eq_decide.mpr ⟨fun h => ?_, fun h => List.mem_map_of_mem h⟩
            obtain ⟨q, hq, e⟩ := List.mem_map.mp h
            rw [← ptD_inj e]; exact hq
          refine wpAny_truthy_bool ⟨ed, ?_⟩
          rw [ed]
          cases hb : decide (lds.getD j (0, 0) ∈ fr) with
          | true =>
            rw [if_pos rfl]
            k_steps
            unfold Paused
            refine fmt_mod N13 (in5 hTj) hjB.1 hjB.2 fun t9 k9 => ?_
            exact ⟨_, _, [], rfl, F13, N13, fun p hp => absurd hp List.not_mem_nil, DatIn.str _ t9⟩
          | false =>
            rw [if_neg Bool.false_ne_true]
            exact ⟨_, _, [], rfl, F13, N13, fun p hp => absurd hp List.not_mem_nil, trivial⟩
        case fin3 =>
          intro h10
          refine finL2 fun ar rits kr h11 tk11 tl11 F13 N13 lt11 hrm hrD => ?_
          rw [hll, filter_range (f := stD) (q := fun p => decide (p ∈ fr))] at hrD
          clear F12 N12
          replace N13 := led_move N13
          replace O5 := O5.more lt11
          have hrm2 : (ar, listOf rits.toArray kr) ∈ (tl11 ++ dv) ++ news := List.mem_append_left _ (List.mem_append_left _ hrm)
          obtain ⟨dw, hdw⟩ : ∃ dw, dw = tl11 ++ dv := ⟨_, rfl⟩
          have toD : ∀ {p : Addr × Obj}, p ∈ dv ++ news → p ∈ dw ++ news := fun h => by rw [hdw, List.append_assoc]; exact List.mem_append_right _ h
          rw [← hdw] at N13 O5 hrm2
          replace hkn := toD hkn
          replace hfm2 := toD hfm2
          replace hkD := hkD.mono fun p hp => toD hp
          replace hfD := hfD.mono fun p hp => toD hp
          replace hrs := hrs.mono fun p hp => toD hp
          clear lt11 hrm hlD hlm2 toD hdw hll
          k_steps
          unfold Paused
          rename Fr _ _ _ _ => F14
          rename News _ _ _ _ => N14
          have hrl : rs.length ≤ 4 := by
            rw [hrs.length, List.length_map]
            exact Nat.le_trans (Nat.le_of_eq (by rw [← wst_dst p0 m0 m1 m2 i hi4]; exact wst_rows p0 [m0, m1, m2] i)) hi4
          have c2r : @Ne Nat (L' + 1 + 1) rwA := by omega
          have c1r : @Ne Nat (L' + 1) rwA := by omega
          have c3r2 : @Ne Nat (L' + 1 + 1 + 1) rwA := by omega
          have Ir : @Ne Nat hI.objs.size rwA := by omega
          refine append_K F14 N14 (Upd.tail Ir (Upd.head ?al)) (fun h12 F15 N15 => ?_) (by rw [List.size_toArray, sizeLine_eq]; omega)
          case al => exact List.forall_mem_cons.mpr ⟨c3r2, List.forall_mem_cons.mpr ⟨c2r, List.forall_mem_cons.mpr ⟨c1r, O5.nr⟩⟩⟩
          have epush : rs.toArray.push (.ref ar) = (rs ++ [Value.ref ar]).toArray := List.push_toArray ..
          rw [epush] at N15
          clear F14 N14
          k_steps
          unfold Paused
          rename Fr _ _ _ _ => F16
          rename News _ _ _ _ => N16
          refine add_l F16 N16 (List.mem_cons_of_mem _ (List.mem_cons_of_mem _ (List.mem_cons_of_mem _ (List.mem_cons_of_mem _ (List.mem_cons_of_mem _ hkn))))) (List.mem_cons_of_mem _ (List.mem_cons_of_mem _ (List.mem_cons_of_mem _ (List.mem_cons_of_mem _ (List.mem_cons_of_mem _ hfm2))))) ?sz fun KA h13 F17 N17 lKA => ?_
          case sz =>
            have b1 := off_len ps (dst p0 m0 m1 m2 i).1
            rw [hkD.length, hfD.length, List.length_map, List.length_map, hfr, sizeLine_eq]
            omega
          have lKI : @LT.lt Nat _ hI.objs.size KA := lKA (hI.objs.size, rgObj ((i + 1 + 1 : Nat) : Int) ((4 - (i + 1) : Nat) : Int) 1) List.mem_cons_self
          have n25 := O5.n2
          clear F16 N16
          k_steps
          rename Fr _ _ _ _ => F18
          rename News _ _ _ _ => N18
          rename (_ = Data.cell (some (Value.ref KA))) => d6
          rename (KA < _ ∧ _) => lTP
          rw [hps] at hfr
          refine ⟨_, Nat.sub_lt_sub_left hi (Nat.lt_succ_self i), dj_next hi F18 N18 (k := some (.int ((i + 1 : Nat) : Int) tkJ)) (ld := some (.ref al)) (fun y => ?hm18) d6 d5 O5 ?lK lTP.1 ?hkD18 hfm2 ?hfD18 ?hrs18⟩
          case hm18 =>
            by_cases h1 : y = "wave"
            · subst h1; rfl
            by_cases h2 : y = "leads"
            · subst h2; rfl
            by_cases h3 : y = "k"
            · subst h3; rfl
            unfold mmD
            rw [if_neg h1, if_neg h2, if_neg h3]
            simp only [if_neg h1, if_neg h2, if_neg h3]
          case lK =>
            rintro c (rfl | rfl | rfl | rfl | rfl | ⟨q, hq, rfl⟩)
            · exact lKI
            · exact lKA (_, listOf (rs ++ [Value.ref ar]).toArray (kR + 1)) (List.mem_cons_of_mem _ List.mem_cons_self)
            · exact lKA (_, _) (List.mem_cons_of_mem _ (List.mem_cons_of_mem _ List.mem_cons_self))
            · exact lKA (_, o2) (List.mem_cons_of_mem _ (List.mem_cons_of_mem _ (List.mem_cons_of_mem _ List.mem_cons_self)))
            · exact lKA (_, oM) (List.mem_cons_of_mem _ (List.mem_cons_of_mem _ (List.mem_cons_of_mem _ (List.mem_cons_of_mem _ List.mem_cons_self))))
            · exact lKA q (List.mem_cons_of_mem _ (List.mem_cons_of_mem _ (List.mem_cons_of_mem _ (List.mem_cons_of_mem _ (List.mem_cons_of_mem _ hq)))))
          case hkD18 =>
            show DatAll _ _ (((dst p0 m0 m1 m2 i).1 ++ offP (onceP (sumsP p0 m0 m1 m2 (i + 1))) (dst p0 m0 m1 m2 i).1).map ptD)
            rw [List.map_append, ← hfr]
            exact hkD.append hfD
          case hfD18 =>
            show DatAll _ _ ((offP (onceP (sumsP p0 m0 m1 m2 (i + 1))) (dst p0 m0 m1 m2 i).1).map ptD)
            rw [← hfr]
            exact hfD
          case hrs18 =>
            show DatAll _ _ (((dst p0 m0 m1 m2 i).2.2 ++ [(leads (dst p0 m0 m1 m2 i).2.1 [m0, m1, m2]).filter fun x => decide (x ∈ offP (onceP (sumsP p0 m0 m1 m2 (i + 1))) (dst p0 m0 m1 m2 i).1)]).map rowD)
            rw [List.map_append, ← hfr, ← hlds]
            exact hrs.append (DatAll.one (DatIn.list hrm2 (dat_str hrD)))
  · obtain rfl : i = 4 := Nat.le_antisymm hi4 hi
    refine range_stop rfl F1 N1 nI2 (by decide) fun h2 F2 N2 => ?_
    clear F1 N1 nI2
    dsimp only
    k_steps
    rename Fr h₀ _ _ _ => kF
    rename News h₀ _ _ _ => kN
    refine hret _ ((rwA, listOf rs.toArray kR) :: (L' + 1 + 1 + 1, o3) :: (L' + 1 + 1, o2) :: (L' + 1, oM) :: tl) _ _ kF kN ?_ ⟨_, rs, kR, rfl, List.mem_cons_self, hrs.mono fun p hp => List.mem_cons_of_mem _ (List.mem_cons_of_mem _ (List.mem_cons_of_mem _ (List.mem_cons_of_mem _ hp)))⟩
    intro p hp q hq
    have lq := ltN (l1 q hq)
    rcases List.mem_cons.mp hp with rfl | hp
    · show @LT.lt Nat _ _ _; dsimp only; omega
    rcases List.mem_cons.mp hp with rfl | hp
    · show @LT.lt Nat _ _ _; dsimp only; omega
    rcases List.mem_cons.mp hp with rfl | hp
    · show @LT.lt Nat _ _ _; dsimp only; omega
    rcases List.mem_cons.mp hp with rfl | hp
    · show @LT.lt Nat _ _ _; dsimp only; omega
    · exact lt p hp q hq

end
section
set_option maxRecDepth 100000
local macro_rules | `(tactic| k_all) => `(tactic| first | assumption | (refine List.forall_mem_append.mpr ⟨?_, ?_⟩ <;> k_all))
local macro_rules | `(tactic| walk_at "call ref") => `(tactic| (refine Paused.of ?_))
local macro_rules | `(tactic| walk_at "binaryOp Mod str ref") => `(tactic| (refine Paused.of ?_))
local macro_rules | `(tactic| walk_at "compareOp Eq ref ref") => `(tactic| (refine Paused.of ?_))
local macro_rules | `(tactic| walk_at "compareOp Eq") => `(tactic| (refine Paused.of ?_))
local macro_rules | `(tactic| walk_at "call builtin:sum") => `(tactic| (refine Paused.of ?_))
local macro_rules | `(tactic| walk_at "subscriptTail") => `(tactic| ((rename MkStop => hMk); refine Paused.of ?_))
theorem three_of {nw : List (Addr × Obj)} {its : List Value} {m0 m1 m2 : Pt} (h : DatAll nw its [ptD m0, ptD m1, ptD m2]) : ∃ T0 T1 T2 k0 k1 k2 u0 u1 u2 w0 w1 w2, its = [.ref T0, .ref T1, .ref T2] ∧
    (T0, ({ cls := .type "tuple", data := .seq #[.int m0.1 u0, .int m0.2 w0] k0 } : Obj)) ∈ nw ∧ (T1, ({ cls := .type "tuple", data := .seq #[.int m1.1 u1, .int m1.2 w1] k1 } : Obj)) ∈ nw ∧ (T2, ({ cls := .type "tuple", data := .seq #[.int m2.1 u2, .int m2.2 w2] k2 } : Obj)) ∈ nw := by
  cases h with
  | cons h0 h =>
    cases h with
    | cons h1 h =>
      cases h with
      | cons h2 h =>
        cases h
        obtain ⟨T0, k0, u0, w0, rfl, e0⟩ := pair_dat h0
        obtain ⟨T1, k1, u1, w1, rfl, e1⟩ := pair_dat h1
        obtain ⟨T2, k2, u2, w2, rfl, e2⟩ := pair_dat h2
        exact ⟨T0, T1, T2, k0, k1, k2, u0, u1, u2, w0, w1, w2, rfl, e0, e1, e2⟩
theorem mv_in (S : Int) : InB 2 (Int.fmod S 5 - 2, Int.fmod (Int.fdiv S 5) 5 - 2) := by
  rw [Int.fmod_eq_emod_of_nonneg _ (by decide), Int.fmod_eq_emod_of_nonneg _ (by decide)]
  constructor
  · show (S % 5 - 2).natAbs ≤ 2; omega
  · show (S.fdiv 5 % 5 - 2).natAbs ≤ 2; omega
theorem law_in (S : Int) : InB (10 ^ 30 + 10) (1 + S.fmod (10 ^ Int.toNat 30), 9 + (S.fdiv 7).fmod (10 ^ Int.toNat 30)) := by
  have e : ((10 : Int) ^ Int.toNat 30) = 1000000000000000000000000000000 := by decide
  rw [e, Int.fmod_eq_emod_of_nonneg _ (by decide), Int.fmod_eq_emod_of_nonneg _ (by decide)]
  constructor
  · show (1 + S % 1000000000000000000000000000000).natAbs ≤ _; omega
  · show (9 + S.fdiv 7 % 1000000000000000000000000000000).natAbs ≤ _; omega
theorem rowD_ok (rows : List (List Pt)) : ∀ d ∈ rows.map rowD, kqdOk 8 d = true := fun d hd => by
  obtain ⟨r, _, rfl⟩ := List.mem_map.mp hd
  unfold rowD
  simp only [kqdOk, List.all_eq_true, List.mem_map]
  rintro d ⟨p, _, rfl⟩
  exact txt_ok p
set_option maxHeartbeats 8000000 in
theorem holds : PySem.Challenge.rw_ij0069_01.Holds := hd (by
  k_go0
  all_goals try k_fold
  k_steps
  rename List Int => script
  rename IsRange _ _ _ _ _ _ _ _ => hr
  rename Fr _ _ _ _ => F1
  rename News _ _ _ _ => N1
  rename IntsAre _ (List.take _ _) => hI
  rename (_ = Data.cell (some (Value.ref _))) => dD
  rename Frag.In _ _ => X0
  rename Top _ _ _ _ _ _ => TT
  rename Below _ _ _ _ => K0
  rename (List.take 12 _).length = _ => hlen
  have hwl : ∀ {A B : Nat}, A = min 12 B → A ≤ 12 := fun h => by omega
  replace hlen := hwl hlen
  rw [← hI.length] at hlen
  obtain ⟨mm, hmm⟩ := Classical.axiomOfChoice (fun k : Nat => ints_pick hI (some (k : Int)) none (some 3))
  refine range_E (n := 3) rfl F1 N1 hr (by decide) (by decide) (by decide) (by rfl) (by rfl) (by decide) (fun k => .int ((mm k).sum + [23, 7, 6].getD k 0)) ?el1 ?fin1
  case el1 =>
    rintro i t h' hi C D oC mc own h tk ys tl E' hk hC F2 N2
    have hi3 : i = 0 ∨ i = 1 ∨ i = 2 := by omega
    have hmi := hmm i
    clear F1 N1 hr
    rcases hi3 with rfl | rfl | rfl
    case' inl => rw [show (0 : Int) + ((0 : Nat) : Int) * 1 = 0 from rfl] at hk
    case' inr.inl => rw [show (0 : Int) + ((1 : Nat) : Int) * 1 = 1 from rfl] at hk
    case' inr.inr => rw [show (0 : Int) + ((2 : Nat) : Int) * 1 = 2 from rfl] at hk
    all_goals
      have hMk : MkStop := trivial
      k_steps
      unfold Paused
      rename MkStop => hMk
      clear hMk
      k_dflt (refine slice_by F2 N2 (k := 0) (List.mem_append_right _ (List.mem_cons_of_mem _ (List.mem_cons_of_mem _ (List.mem_append_right _ List.mem_cons_self)))) (by rw [sizeLine_eq]; omega) (by decide) fun D' h7 F3 N3 l3 => ?_)
      k_steps
      unfold Paused
      refine sumK rfl F3 N3 (N3.isList List.mem_cons_self) hmi fun h8 tk8 t8 F4 N4 => ?_
      clear F3 N3
      k_steps
      rename Fr _ _ _ _ => F5
      rename News _ _ _ _ => N5
      rename (D' < _ ∧ _) => l5
      refine ⟨_, _, [(_, _), (_, _)], rfl, F5, N5, fun p hp q hq => ?_, DatIn.int _ _⟩
      rcases List.mem_cons.mp hp with rfl | hp
      · exact allLt_all l5.2 q hq
      · rw [List.mem_singleton.mp hp]
        exact l3 q hq
  case fin1 =>
    intro h1
    refine finLA2 ?e1 ?e2 ?e3 fun as sits ks h2 tk2 tl2 F2 N2 lt2 hsm hsD => ?_
    case e1 => rfl
    case e2 => rfl
    case e3 => rfl
    clear F1 N1 hr
    have hsl : sits.length = 3 := by rw [hsD.length]; rfl
    k_steps
    rename Fr _ _ _ _ => F3
    rename News _ _ _ _ => N3
    refine list_E (vs := sits) rfl F3 N3 (List.mem_append_left _ hsm) (by decide) (by rfl) (by rfl) (by rw [hsl, sizeLine_eq]; omega) (fun i => ptD (Int.fmod ((mm i).sum + [23, 7, 6].getD i 0) 5 - 2, Int.fmod (Int.fdiv ((mm i).sum + [23, 7, 6].getD i 0) 5) 5 - 2)) ?el2 ?fin2
    case el2 =>
      rintro i v h3 hv C D oC mc own h4 tk4 ys tl4 E' hk hC F4 N4
      have hi3 : i < 3 := by rw [← hsl]; exact (List.getElem?_eq_some_iff.mp hv).1
      have dv := datAll_at hsD hv
      rw [List.getD_eq_getElem?_getD, List.getElem?_map, List.getElem?_range hi3] at dv
      dsimp only [Option.map, Option.getD] at dv
      generalize ((mm i).sum + [23, 7, 6].getD i 0) = S at dv ⊢
      cases dv
      rename Tok => tS
      clear F3 N3
      k_steps
      rename Fr _ _ _ _ => F5
      rename News _ _ _ _ => N5
      rename (∀ p ∈ own ++ _, p.1 < _) => l5
      refine ⟨_, _, [(_, _)], rfl, F5, N5, fun p hp => ?_, DatIn.tuple List.mem_cons_self (.cons (.int _ _) (.cons (.int _ _) .nil))⟩
      rw [List.mem_singleton.mp hp]
      exact l5
    case fin2 =>
      intro h3
      refine finLA2 ?e4 ?e5 ?e6 fun am mits km h4 tk4 tl4 F4 N4 lt4 hsm4 hmD => ?_
      case e4 => rfl
      case e5 => rfl
      case e6 => rfl
      clear F3 N3
      rw [hsl] at hmD
      change DatAll _ mits [ptD _, ptD _, ptD _] at hmD
      have b0 := mv_in ((mm 0).sum + [23, 7, 6].getD 0 0)
      have b1 := mv_in ((mm 1).sum + [23, 7, 6].getD 1 0)
      have b2 := mv_in ((mm 2).sum + [23, 7, 6].getD 2 0)
      obtain ⟨m0, hm0⟩ : ∃ q : Pt, q = (Int.fmod ((mm 0).sum + [23, 7, 6].getD 0 0) 5 - 2, Int.fmod (Int.fdiv ((mm 0).sum + [23, 7, 6].getD 0 0) 5) 5 - 2) := ⟨_, rfl⟩
      obtain ⟨m1, hm1⟩ : ∃ q : Pt, q = (Int.fmod ((mm 1).sum + [23, 7, 6].getD 1 0) 5 - 2, Int.fmod (Int.fdiv ((mm 1).sum + [23, 7, 6].getD 1 0) 5) 5 - 2) := ⟨_, rfl⟩
      obtain ⟨m2, hm2⟩ : ∃ q : Pt, q = (Int.fmod ((mm 2).sum + [23, 7, 6].getD 2 0) 5 - 2, Int.fmod (Int.fdiv ((mm 2).sum + [23, 7, 6].getD 2 0) 5) 5 - 2) := ⟨_, rfl⟩
      rw [← hm0] at b0 hmD
      rw [← hm1] at b1 hmD
      rw [← hm2] at b2 hmD
      clear hm0 hm1 hm2 hmm hsD
      have hmv : ∀ p ∈ [m0, m1, m2], InB 2 p := List.forall_mem_cons.mpr ⟨b0, List.forall_mem_cons.mpr ⟨b1, List.forall_mem_cons.mpr ⟨b2, fun _ h => absurd h List.not_mem_nil⟩⟩⟩
      obtain ⟨T0, T1, T2, k0, k1, k2, u0, u1, u2, w0, w1, w2, rfl, hT0, hT1, hT2⟩ := three_of hmD
      k_steps
      unfold Paused
      refine sumK rfl F4 N4 (N4.isList (List.mem_append_right _ (List.mem_append_right _ List.mem_cons_self))) hI fun h5 tk5 t5 F5 N5 => ?_
      clear F4 N4
      k_steps
      unfold Paused
      refine sumK rfl F5 N5 (N5.isList (List.mem_append_right _ (List.mem_append_right _ List.mem_cons_self))) hI fun h6 tk6 t6 F6 N6 => ?_
      clear F5 N5
      k_steps
      unfold Paused
      rename Fr _ _ _ _ => F7
      rename News _ _ _ _ => N7
      have hB := law_in (List.take 12 script).sum
      have hM : 10 ^ 30 + 10 < 10 ^ 40 := by decide
      have hM2 : 10 ^ 30 + 10 + 10 < 10 ^ 40 := by decide
      refine fmt_mod N7 List.mem_cons_self (hB.sm hM).1 (hB.sm hM).2 fun t7 k7 => ?_
      k_steps
      unfold Paused
      have inL : ∀ {p : Addr × Obj} {x y : Addr × Obj} {l : List (Addr × Obj)}, p ∈ l → p ∈ x :: y :: l := fun h => List.mem_cons_of_mem _ (List.mem_cons_of_mem _ h)
      have hmD2 : DatAll _ [.ref T0, .ref T1, .ref T2] ([m0, m1, m2].map ptD) := hmD
      k_dflt (refine rounds _ _ _ _ _ _ [m0, m1, m2] hB hM2 hmv (Nat.le_refl 3) _ _ _ _ _ _ _ _ _ _ _ _ _ _ _ _ _ _ _ am km [.ref T0, .ref T1, .ref T2] K0 F7 X0 N7 TT rfl (inL (List.mem_append_left _ hsm4)) (hmD2.mono fun p hp => inL hp) (by decide) (by decide) ?_)
      intro r1 tl8 h8 tk8 F8 N8 lt8 hOut1
      obtain ⟨ar, rits, kr, rfl, hrm, hrD⟩ := hOut1
      clear F7 N7
      k_steps
      unfold Paused
      rename Fr _ _ _ _ => F9
      rename News _ _ _ _ => N9
      have inA : ∀ {p : Addr × Obj} {x y : Addr × Obj} {l k : List (Addr × Obj)}, p ∈ l → p ∈ k ++ x :: y :: l := fun h => List.mem_append_right _ (inL h)
      k_dflt (refine due _ _ _ _ _ _ m0 m1 m2 hB hM2 hmv _ _ _ _ _ _ _ _ _ _ _ _ _ _ _ _ _ _ _ K0 F9 X0 N9 TT rfl ⟨_, _, _, am, km, T0, T1, T2, k0, k1, k2, u0, u1, u2, w0, w1, w2, rfl, inA (List.mem_append_left _ hsm4), inA hT0, inA hT1, inA hT2⟩ (by decide) (by decide) ?_)
      intro r2 tl9 h9 tk9 F10 N10 lt10 hOut2
      obtain ⟨ad, dits, kd, rfl, hdm, hdD⟩ := hOut2
      clear F9
      k_steps
      unfold Paused
      have eR : (wst (1 + (List.take 12 script).sum.fmod (10 ^ Int.toNat 30), 9 + ((List.take 12 script).sum.fdiv 7).fmod (10 ^ Int.toNat 30)) [m0, m1, m2] 4).2.2.map rowD = (dst (1 + (List.take 12 script).sum.fmod (10 ^ Int.toNat 30), 9 + ((List.take 12 script).sum.fdiv 7).fmod (10 ^ Int.toNat 30)) m0 m1 m2 4).2.2.map rowD := by
        rw [wst_dst _ _ _ _ 4 (Nat.le_refl 4)]
      k_dflt (refine kqd_eq N10 (List.mem_append_right _ hrm) rfl rfl hrD (fun p hp => List.mem_append_right _ hp) hdm rfl rfl hdD (fun p hp => hp) (rowD_ok _) (rowD_ok _) (by ktr_units) ?_)
      have eD := fun i => @decide_eq_true _ i eR
      rw [eD]
      k_steps)

end
end Mine
theorem PySem.Challenge.cw_ij0069_01_holds : PySem.Challenge.rw_ij0069_01.Holds :=
  Mine.holds

