import PyProof.Rows.All
import Wide.All
import OpenK.AllK
import Wide.FinOn
import PySem.Challenge.RW_ik0032_01
set_option Elab.async false
set_option compiler.extract_closed false
section -- Hd
open PySem PySem.W PyProof.Rows
namespace Mine
set_option maxRecDepth 100000
set_option maxHeartbeats 8000000 
open_top hd for PySem.Challenge.rw_ik0032_01
end Mine
end
section -- Cn
open PySem PySem.W PySem.Calls PyProof.Rows
namespace Mine
set_option maxRecDepth 100000
noncomputable abbrev loose0 : List Str := looseW Mine.hd.view_39 ["capwords", "_format_final_exc_line", "_safe_string"]
noncomputable abbrev prog0 : Program := PySem.Challenge.rw_ik0032_01.row.prog

/-- a way's end, kept shut for the walk -/
noncomputable def Ends (P : Value → Shared → Prop) (v : Value) (s : Shared) : Prop := P v s

/-- a place where the walk is to stop -/
structure Stp (P : Prop) : Prop where
  out : P

/-- what the caller says of its heap -/
structure Giv (P : Heap → Prop) (h : Heap) : Prop where
  out : P h

section
variable {prog : Program} {w : World} {A₀ A : Around} {s : Shared} {base h₀ : Heap} {outer : List Env} {L : Addr} {m : Str → Option Value} {env : Env} {K : Frag} {p : Program} {loose : List Str} {mean : ExcName → Option Value} {mg mb : Str → Option Value}
  {R : Result → Shared → Prop} {P : Heap → Prop} {name qual : Str} {params : Arguments} {body : List Stmt} {scope : Scope} {dV kV doc pm cdv ct oc : Value} {an od : Option Addr} {osl : Array (Option Value)} {f : Addr} {args : Args} {binds : List (Str × Value)}

/-- a def entered over the caller's whole heap: nothing of the caller's is changed -/
theorem code_pure (B : Below A₀ base outer h₀) (F : Fr h₀ L s.heap m) (X₀ : K.In h₀) (T : Top p loose mean mg mb h₀) (hA : A.frames = some (env :: outer)) (hf : env.frame = some L) (hke : env.scope.kind = .function)
    (ho : K.lookup f = some ⟨oc, od, .func (fnOf name qual params body scope dV kV doc pm an cdv ct), osl⟩) (hcd : codeIn K cdv qual = true) (hroom : A.depth < recursionLimit)
    (hbind : BindsTo s (fnOf name qual params body scope dV kV doc pm an cdv ct) args binds) (hloc : ∀ y ∈ binds, scope.names.lookup y.1 = some .local)
    (hP : Giv P s.heap)
    (h : ∀ g L' h₁ tk, 0 < tk → Giv P g → (∀ b o, s.heap.get? b = some o → g.get? b = some o) → Fr g L' h₁ (fun y => binds.reverse.lookup y) → News g L' h₁ [] → Below A base (env :: outer) g → K.In g → Top p loose mean mg mb g →
      wpAny (model prog w) (A.deeper (envOf qual scope L' f cdv)) (execs body (envOf qual scope L' f cdv))
        (fun fl s' => Ends (fun v s' => R (.ok (.ret v)) s') (match fl with | .ret v => v | _ => .none) s')
        (fun e s' => wpAny (model prog w) (A.deeper (envOf qual scope L' f cdv)) (leaving (envOf qual scope L' f cdv) e) (fun _ s'' => R (.error e) s'') (fun e' s'' => R (.error e') s'') s')
        { s with heap := h₁, toks := tk })
    (hb1 : 0 < binds.length) (hco : scope.isCoroutine = false) (hgen : scope.isGenerator = false) (hk : scope.kind = .function)
    (hcell : ∀ x ∈ scope.names, x.2 ≠ .cell) : codeAny (model prog w) A (.call (.ref f) args) R s := by
  refine codeAny_call_def (fd := fnOf name qual params body scope dV kV doc pm an cdv ct) (body := body) (binds := binds) hroom ((X₀.keeps F.keep) _ _ ho) rfl (T.nolimit.keeps F.keep) (codeRec_of (X₀.keeps F.keep) hcd) rfl hbind hcell hloc (fun h₁ hns hk₁ => ?_) hco hgen hk
  have B₁ := pushX B F hf hke
  have B₂ : Below A base (env :: outer) s.heap := ⟨hA, B₁.stays, B₁.frames⟩
  exact h s.heap s.heap.objs.size h₁ _ (by (first | lia | omega)) hP (fun _ _ e => e) ⟨hns, hk₁, Nat.le_refl _⟩ News.nil B₂ (X₀.keeps F.keep) (T.keeps F.keep)
end

/-- what the caller goes on with -/
structure Ret (s : Shared) (Post : Heap → Heap → Value → Prop) (Q : Value → Shared → Prop) : Prop where
  out : ∀ v (h' : Heap) (tk' : Nat), (∀ b o, s.heap.get? b = some o → h'.get? b = some o) → Post s.heap h' v → Q v { s with heap := h', toks := tk' }

/-- a def of the program that changes nothing of its caller's: called in a def's frame with no exception handled; Post: of what it gives, at the heap where it gave it -/
noncomputable def Con (w : World) (mean : ExcName → Option Value) (mg mb : Str → Option Value) (dn du : Nat) (fn : Value) (vs : List Value) (kw : List (Str × Value)) (Pre : Heap → Prop) (Post : Heap → Heap → Value → Prop) : Prop :=
  ∀ (dp un : Nat) (gd : Option (List Code)) (cn : Str) (cs : Scope) (a : Addr) (ccd : Value) (cl : List (Str × Addr)) (outer : List Env) (A₀ : Around) (base h₀ : Heap) (L : Addr) (m : Str → Option Value) (s : Shared) (Q E : Value → Shared → Prop),
    Below A₀ base outer h₀ → Fr h₀ L s.heap m → (Mine.hd.heap_39 w.params).In h₀ → Top Mine.hd.view_39 loose0 mean mg mb h₀ → cs.kind = .function → Giv Pre s.heap → dp + dn < recursionLimit → un + du < cLine →
    Ret s Post Q →
    wpAny (model PySem.Challenge.rw_ik0032_01.row.prog w) (ktrTop dp un gd cn cs L a ccd cl outer) (call fn vs kw) Q E s

theorem Con.use {w : World} {mean : ExcName → Option Value} {mg mb : Str → Option Value} {dn du : Nat} {fn : Value} {vs : List Value} {kw : List (Str × Value)} {Pre : Heap → Prop} {Post : Heap → Heap → Value → Prop}
    (C : Con w mean mg mb dn du fn vs kw Pre Post) {dp un : Nat} {gd : Option (List Code)} {cn : Str} {cs : Scope} {a : Addr} {ccd : Value} {cl : List (Str × Addr)} {outer : List Env} {A₀ : Around} {base h₀ : Heap} {L : Addr} {m : Str → Option Value} {s : Shared} {Q E : Value → Shared → Prop} {news : List (Addr × Obj)}
    (B : Below A₀ base outer h₀) (F : Fr h₀ L s.heap m) (X : (Mine.hd.heap_39 w.params).In h₀) (T : Top Mine.hd.view_39 loose0 mean mg mb h₀) (hk : cs.kind = .function) (N : News h₀ L s.heap news) (hp : Giv Pre s.heap) (hd : dp + dn < recursionLimit) (hu : un + du < cLine)
    (ret : ∀ v (h' : Heap) (tk' : Nat), Post s.heap h' v → Fr h₀ L h' m → News h₀ L h' news → (∀ b o, s.heap.get? b = some o → h'.get? b = some o) → Q v { s with heap := h', toks := tk' }) :
    wpAny (model PySem.Challenge.rw_ik0032_01.row.prog w) (ktrTop dp un gd cn cs L a ccd cl outer) (call fn vs kw) Q E s :=
  C _ _ _ _ _ _ _ _ _ _ _ _ _ _ _ _ _ B F X T hk hp hd hu ⟨fun v h' tk' st po => ret v h' tk' po (F.keeps st) (N.keepsAll st) st⟩
/-- a way's end of a contract: nothing of the caller's is changed, and what comes back is as told -/
theorem ret_go {s : Shared} {Q : Value → Shared → Prop} {Post : Heap → Heap → Value → Prop} {g' h' : Heap} {L' : Addr} {m' : Str → Option Value} {v : Value} {tk : Nat}
    (R : Ret s Post Q)
    (hg : ∀ b o, s.heap.get? b = some o → g'.get? b = some o) (F : Fr g' L' h' m') (hp : Post s.heap h' v) : Q v { s with heap := h', toks := tk } :=
  R.out v h' tk (fun b o e => F.keep b o (hg b o e)) hp
end Mine
end
section -- Sp
open PySem PySem.W PyProof.Rows
namespace Mine
/-- a text by its signs' numbers -/
noncomputable def T (l : List Nat) : Str := ⟨l.toArray⟩
theorem T_len (l : List Nat) : (T l).length = l.length := by simp [T, Str.length]
theorem T_cps (l : List Nat) : (T l).cps.toList = l := by simp [T]
theorem T_of (x : Str) : T x.cps.toList = x := by cases x; simp [T]
theorem T_app (a b : List Nat) : T a ++ T b = T (a ++ b) := by
  refine PySem.Str.ext' ?_
  rw [PySem.Str.cps_append]; simp [T]
theorem T_inj {a b : List Nat} (h : T a = T b) : a = b := by
  have := congrArg (fun x : Str => x.cps.toList) h
  simpa [T] using this
theorem T_eq (a b : List Nat) : (T a == T b) = decide (a = b) := by
  by_cases h : a = b
  · subst h; simp
  · simp only [h, decide_false]
    refine beq_eq_false_iff_ne.mpr fun e => h (T_inj e)

/-- the great and the small sign of a sign below 128 -/
noncomputable def up (c : Nat) : Nat := if 97 ≤ c ∧ c ≤ 122 then c - 32 else c
noncomputable def lo (c : Nat) : Nat := if 65 ≤ c ∧ c ≤ 90 then c + 32 else c
/-- the signs that occur -/
noncomputable abbrev Fine (c : Nat) : Prop := c < 128 ∨ c = 160

noncomputable def esc (c : Nat) : List Nat := if c = 9 then [92, 116] else if c = 10 then [92, 110] else if c = 11 then [92, 120, 48, 98] else if c = 31 then [92, 120, 49, 102] else if c = 160 then [92, 120, 97, 48] else [c]
noncomputable def qt (l : List Nat) : List Nat := 39 :: (l.flatMap esc ++ [39])

noncomputable def signs14 : List Nat := [97, 66, 99, 58, 32, 9, 98, 90, 121, 10, 11, 31, 160]
noncomputable def OkKinds (ks : List (List Nat)) : Prop := (∃ r rest, ks = (97 :: 66 :: r) :: rest) ∧ (∀ k ∈ ks, ∀ c ∈ k, c ∈ signs14) ∧ (ks.map List.length).sum + ks.length ≤ 66

noncomputable def isSp (c : Nat) : Bool := c == 32 || c == 9 || c == 10 || c == 11 || c == 31 || c == 160
/-- the words of a text, a great letter in front; begun: the last one may still grow -/
noncomputable def wordsGo : List (List Nat) → Bool → List Nat → List (List Nat)
  | ws, _, [] => ws
  | ws, b, c :: r => if isSp c then wordsGo ws false r else if b then wordsGo (ws.dropLast ++ [ws.getLast?.getD [] ++ [lo c]]) true r else wordsGo (ws ++ [[up c]]) true r
noncomputable def joinL (sep : List Nat) : List (List Nat) → List Nat
  | [] => []
  | [a] => a
  | a :: b :: r => a ++ sep ++ joinL sep (b :: r)
noncomputable def wordsL (l : List Nat) : List Nat := joinL [32] (wordsGo [] false l)

/-- fresh: at the beginning or behind the mark; col: behind a colon -/
noncomputable def capGo : Bool → Bool → List Nat → List Nat
  | _, _, [] => []
  | fr, col, c :: r => (if fr then up c else lo c) :: capGo (col && c == 32) (c == 58) r
noncomputable def capL (l : List Nat) : List Nat := capGo true false l

/-- the empty ones at the end left out -/
noncomputable def trim : List (List Nat) → List (List Nat)
  | [] => []
  | a :: r => match trim r with
    | [] => if a = [] then [] else [a]
    | b :: t => a :: b :: t
noncomputable def rowL (ks : List (List Nat)) : List Nat := joinL [58, 32] (trim ks)
end Mine
end
section -- Ru
open PySem PySem.W PyProof.Rows
set_option maxRecDepth 100000
namespace Mine
theorem join_T (sep : List Nat) : ∀ ks : List (List Nat), Str.join (T sep) (ks.map T) = T (joinL sep ks)
  | [] => rfl
  | [a] => rfl
  | a :: b :: r => by
    have ih := join_T sep (b :: r)
    show T a ++ T sep ++ Str.join (T sep) ((b :: r).map T) = _
    rw [ih, T_app, T_app]; rfl
theorem strValues_of : ∀ {vs : List Value} {xs : List Str}, StrsAre vs xs → ∃ l : List (Str × Tok), vs = strValues l ∧ l.map (·.1) = xs
  | _, _, .nil => ⟨[], rfl, rfl⟩
  | _, _, .cons x t h => by
    obtain ⟨l, e1, e2⟩ := strValues_of h
    exact ⟨(x, t) :: l, by rw [e1]; rfl, by rw [← e2]; rfl⟩
theorem sum_T (ks : List (List Nat)) : ((ks.map T).map (·.length)).sum = (ks.map List.length).sum := by
  rw [List.map_map]
  congr 1
section
variable {prog : Program} {w : World} {A : Around} {E : Value → Shared → Prop} {s : Shared} {Q : Value → Shared → Prop}
theorem my_join {sep : List Nat} {x : Str} {t : Tok} {D : Addr} {vs : List Value} {ks : List (List Nat)} (hx : x = T sep) (hl : s.heap.IsList D vs.toArray) (hS : StrsAre vs (ks.map T)) (hw : (ks.map List.length).sum + ks.length ≤ 100000) (hs : sep.length ≤ 16)
    (hq : ∀ t' k, Q (.str (T (joinL sep ks)) t') { s with toks := k }) : wpAny (model prog w) A (call (.builtin "str.join") [.str x t, .ref D]) Q E s := by
  obtain ⟨l, rfl, e⟩ := strValues_of hS
  subst hx
  refine SC.join hl e (joinOk_of_weight ?_ ?_) fun t' k => ?_
  · rw [sum_T, List.length_map]; (first | lia | omega)
  · rw [T_len]; exact hs
  · have : Txt.join (T sep) (ks.map T) = T (joinL sep ks) := by
      rw [← join_T]; exact StrLaws.glued_eq_join _ _
    rw [this]; exact hq _ _
end
theorem trim_nil : ∀ ks : List (List Nat), (∀ k ∈ ks, k = []) → trim ks = []
  | [], _ => rfl
  | a :: r, h => by
    have ih := trim_nil r fun k hk => h k (.tail _ hk)
    have ha := h a (.head _)
    simp [trim, ih, ha]
theorem trim_take : ∀ (ks : List (List Nat)) (k : Nat), k ≤ ks.length → (∀ x ∈ ks.drop k, x = []) → (∀ x, 0 < k → ks[k - 1]? = some x → x ≠ []) → trim ks = ks.take k
  | [], k, _, _, _ => by simp [trim]
  | a :: r, 0, _, h1, _ => by
    rw [List.take_zero]
    exact trim_nil _ (by simpa using h1)
  | a :: r, k + 1, hk, h1, h2 => by
    have hk' : k ≤ r.length := Nat.le_of_succ_le_succ hk
    rw [List.take_succ_cons]
    rcases Nat.eq_zero_or_pos k with rfl | hp
    · have hr : trim r = [] := trim_nil r (by simpa using h1)
      have ha : a ≠ [] := h2 a (by (first | lia | omega)) (by simp)
      simp [trim, hr, ha]
    · have ih := trim_take r k hk' (by simpa using h1) fun x _ hx => h2 x (by (first | lia | omega)) (by
        have : (a :: r)[k + 1 - 1]? = r[k - 1]? := by
          obtain ⟨j, rfl⟩ : ∃ j, k = j + 1 := ⟨k - 1, by (first | lia | omega)⟩
          simp
        rw [this]; exact hx)
      have hne : r.take k ≠ [] := by
        intro e
        have := congrArg List.length e
        simp only [List.length_take, List.length_nil] at this
        (first | lia | omega)
      cases hq : r.take k with
      | nil => exact absurd hq hne
      | cons b t => simp [trim, ih, hq]
theorem StrsAre.pick_upto {vs : List Value} {xs : List Str} (h : StrsAre vs xs) {k : Int} (h0 : 0 ≤ k) : StrsAre (slicePick vs.toArray none (some k) none).toList (xs.take k.toNat) := by
  obtain ⟨n, rfl⟩ := Int.eq_ofNat_of_zero_le h0
  rw [slicePick_upto']
  simpa using h.take' n
end Mine
end
section -- Mp
open PySem PySem.W PyProof.Rows
set_option maxRecDepth 100000
namespace Mine
theorem owner_map : Manifest.owners.lookup (String.ofList ['p', 'a', 'm'].reverse) = some Manifest.sig_map := by kernel_rfl
theorem slot_map_next : Slot "map" "__next__" "map.__next__" :=
  .of (owner := "map") (n := "__next__") (by rw [typeLookup_type, builtinLookup_eq_fast]; kernel_rfl) (by decide +kernel) (by decide +kernel) (by decide +kernel)
    (by first | exact .inl (by decide +kernel) | exact .inr (by decide +kernel)) (by rw [isSubtype_type]; kernel_rfl)
theorem entry_map_next : entryFor table "map.__next__" = some Builtin.«map.__next__» := entryFor_of_tree (by kernel_rfl)
theorem args_map_next_1 (a : Value) : argsOk "map.__next__" ⟨[a], []⟩ := by
  unfold argsOk; rw [signature?_of (id := "map.__next__") (n := ['_', '_', 't', 'x', 'e', 'n', '_', '_']) (o := ['p', 'a', 'm']) (by kernel_rfl) owner_map]; kernel_rfl
theorem slot_map_iter : Slot "map" "__iter__" "map.__iter__" :=
  .of (owner := "map") (n := "__iter__") (by rw [typeLookup_type, builtinLookup_eq_fast]; kernel_rfl) (by decide +kernel) (by decide +kernel) (by decide +kernel)
    (by first | exact .inl (by decide +kernel) | exact .inr (by decide +kernel)) (by rw [isSubtype_type]; kernel_rfl)
theorem args_map_iter_1 (a : Value) : argsOk "map.__iter__" ⟨[a], []⟩ := by
  unfold argsOk; rw [signature?_of (id := "map.__iter__") (n := ['_', '_', 'r', 'e', 't', 'i', '_', '_']) (o := ['p', 'a', 'm']) (by kernel_rfl) owner_map]; kernel_rfl
theorem entry_map_iter : entryFor table "map.__iter__" = some Builtin.«dict_keyiterator.__iter__» :=
  entryFor_alias (id' := "dict_keyiterator.__iter__") (by kernel_rfl) (by first | rfl | decide +kernel | (unfold String.splitOn; simp +decide [String.splitOnAux])) (by decide +kernel) (by kernel_rfl)
theorem slot_map_init : Slot "map" "__init__" "object.__init__" :=
  .of (owner := "object") (n := "__init__") (by rw [typeLookup_type, builtinLookup_eq_fast]; kernel_rfl) (by decide +kernel) (by decide +kernel) (by decide +kernel)
    (by first | exact .inl (by decide +kernel) | exact .inr (by decide +kernel)) (by rw [isSubtype_type]; kernel_rfl)
theorem mro_map : mroOf (.type "map") = pure [.type "map", .type "object"] := by rw [mroOf_type]; kernel_rfl
theorem lookup_map_new : typeLookup (.type "map") "__new__" = pure (some (.builtin "map.__new__")) := by rw [typeLookup_type, builtinLookup_eq_fast]; kernel_rfl
theorem called_map : TypeCalled "map" "map.__new__" "object.__init__" :=
  ⟨by decide +kernel, by decide +kernel, ⟨_, _, mro_map⟩, madeBy_type mro_map lookup_map_new (by decide +kernel), by decide +kernel, by rw [isSubtype_type]; kernel_rfl, slot_map_init⟩
theorem typeCall_map_2 (a b : Value) : checkTypeCall "map" ⟨[a, b], []⟩ = pure () := by kernel_rfl
theorem newCall_map_2 (a b : Value) : checkBuiltinCall "map.__new__" ⟨[.type "map", a, b], []⟩ = pure () := by kernel_rfl
theorem entry_map_new : entryFor table "map.__new__" = some Builtin.«map.__new__» := entryFor_of_tree (by kernel_rfl)
theorem sub_map : isSubtype (.type "map") (.type "map") = pure true := by rw [isSubtype_type]; kernel_rfl
theorem nolen_map : typeLookup (.type "map") "__len__" = pure none := by rw [typeLookup_type, builtinLookup_eq_fast]; kernel_rfl
theorem nohint_map : typeLookup (.type "map") "__length_hint__" = pure none := by rw [typeLookup_type, builtinLookup_eq_fast]; kernel_rfl

noncomputable abbrev IsMap (h : Heap) (z TI : Addr) (f : Value) : Prop := h.get? z = some { cls := .type "map", dict := none, data := .fields #[.ref TI, f], slots := #[] }
noncomputable abbrev mapH1 (h : Heap) (l : Addr) : Heap := h.push { cls := .type "list_iterator", data := .fields #[.ref l, .int 0 0] }
noncomputable abbrev mapH2 (h : Heap) (l : Addr) : Heap := (mapH1 h l).push { cls := .type "tuple", data := .seq #[.ref h.objs.size] }
noncomputable abbrev mapH3 (h : Heap) (l : Addr) (f : String) : Heap := (mapH2 h l).push { cls := .type "map", data := .fields #[.ref (mapH1 h l).objs.size, .builtin f] }
noncomputable abbrev IsOne (h : Heap) (T : Addr) (a : Value) : Prop := h.get? T = some { cls := .type "tuple", data := .seq #[a] }

theorem meets_map_new (f : String) (l : Addr) (xs : Array Value) :
    Meets (Builtin.«map.__new__» ⟨[.type "map", .builtin f, .ref l], []⟩) (fun _ R s => s.heap.IsList l xs ∧
      R (.ok (.ret (.ref (mapH2 s.heap l).objs.size))) { s with heap := mapH3 s.heap l f }) :=
  .of_wp fun prog w A R s h => by
    obtain ⟨hp, g, d, tk, os⟩ := s; obtain ⟨hl1, h⟩ := h
    have hsub := sub_map
    have hL1 : Heap.IsList (Shared.heap ⟨hp, g, d, tk, os⟩) l xs := hl1
    wp_walk using wpAny_pyIter_list hL1
    exact ⟨_, rfl, h⟩

section
variable {prog : Program} {w : World} {A : Around} {E : Value → Shared → Prop} {s : Shared}

theorem call_map {f : String} {l : Addr} {xs : Array Value} {Q : Value → Shared → Prop} (hl : s.heap.IsList l xs)
    (h : ∀ h', IsMap h' (s.heap.objs.size + 2) (s.heap.objs.size + 1) (.builtin f) → IsOne h' (s.heap.objs.size + 1) (.ref s.heap.objs.size) → h'.IsListIter s.heap.objs.size l 0 → h'.objs.size = s.heap.objs.size + 3 →
      (∀ c o, s.heap.get? c = some o → h'.get? c = some o) → Q (.ref (s.heap.objs.size + 2)) { s with heap := h' }) :
    wpAny (model prog w) A (call (.type "map") [.builtin f, .ref l]) Q E s := by
  refine callType_new called_map (by decide) (typeCall_map_2 _ _) (newCall_map_2 _ _) (fun obj => F.args_object_init_3 obj _ _) entry_map_new
    (meets_map_new f l xs) ⟨hl, ?_⟩
  have s1 : (mapH1 s.heap l).objs.size = s.heap.objs.size + 1 := Heap.size_push ..
  have s2 : (mapH2 s.heap l).objs.size = s.heap.objs.size + 2 := by rw [Heap.size_push, s1]
  have s3 : (mapH3 s.heap l f).objs.size = s.heap.objs.size + 3 := by rw [Heap.size_push, s2]
  have g3 : (mapH3 s.heap l f).get? (mapH2 s.heap l).objs.size = some _ := Heap.get?_push_size _ rfl
  have g2 : (mapH3 s.heap l f).get? (mapH1 s.heap l).objs.size = some _ := Heap.get?_push_of_some _ (Heap.get?_push_size _ rfl)
  have g1 : (mapH3 s.heap l f).get? s.heap.objs.size = some _ := Heap.get?_push_of_some _ (Heap.get?_push_of_some _ (Heap.get?_push_size _ rfl))
  show _ ∧ _
  rw [s1, s2] at g3
  rw [s1] at g2
  rw [s2]
  exact ⟨⟨_, g3, rfl⟩, h _ g3 g2 ⟨_, g1, rfl, rfl⟩ s3 fun c o x => Heap.get?_push_of_some _ (Heap.get?_push_of_some _ (Heap.get?_push_of_some _ x))⟩

theorem map_next_item {z TI J l : Addr} {k : Nat} {f : String} {xs : Array Value} {x : Value} {Q : Value → Shared → Prop} (hz : IsMap s.heap z TI (.builtin f)) (hTI : IsOne s.heap TI (.ref J)) (h1 : s.heap.IsListIter J l k) (hl : s.heap.IsList l xs) (hx : xs[k]? = some x)
    (hzJ : z ≠ J)
    (hc : ∀ h', h'.IsListIter J l (k + 1) → Heap.SameBut J s.heap h' → wpAny (model prog w) A (call (.builtin f) [x]) Q E { s with heap := h' }) :
    wpAny (model prog w) A (Builtin.«map.__next__» ⟨[.ref z], []⟩) (fun fin s' => ∃ v, fin = .done (.ret v) ∧ Q v s') E s := by
  show wpAny _ _ (field (.ref z) 0 >>= _) _ _ _
  refine wpAny_bind (wpAny_field hz rfl (x := .ref TI) rfl ?_)
  refine wpAny_bind (wpAny_seqItems hTI rfl ?_)
  dsimp only
  refine wpAny_bind ?_
  simp only [Array.forIn_toList.symm, List.forIn_cons, List.forIn_nil]
  refine wpAny_bind (wpAny_bind (wpAny_holding (wpAny_nextOf_list_item h1 hl hx fun h₂ h1₂ hs₂ => ?_)))
  refine wpAny_pure (wpAny_pure ?_)
  have hz₂ : IsMap h₂ z TI (.builtin f) := hs₂.extBut _ _ hzJ hz
  refine wpAny_bind (wpAny_field hz₂ rfl (x := .builtin f) rfl ?_)
  refine wpAny_bind (wpAny_holding ?_)
  refine wpAny_mono (hc h₂ h1₂ hs₂) (fun v s₃ q => ?_) fun _ _ e => e
  exact wpAny_bind (wpAny_letGo (wpAny_pure ⟨_, rfl, q⟩))

theorem map_next_end {z TI J l : Addr} {k : Nat} {f : String} {xs : Array Value} {Q : Fin → Shared → Prop} (hh : A.handled = none) (hz : IsMap s.heap z TI (.builtin f)) (hTI : IsOne s.heap TI (.ref J)) (h1 : s.heap.IsListIter J l k) (hl : s.heap.IsList l xs) (hx : xs[k]? = none)
    (hE : ∀ h' e, Heap.ExtBut J s.heap h' → (∃ o, h'.get? e = some o ∧ o.cls = .type "StopIteration") → E (.ref e) { s with heap := h' }) :
    wpAny (model prog w) A (Builtin.«map.__next__» ⟨[.ref z], []⟩) Q E s := by
  show wpAny _ _ (field (.ref z) 0 >>= _) _ _ _
  refine wpAny_bind (wpAny_field hz rfl (x := .ref TI) rfl ?_)
  refine wpAny_bind (wpAny_seqItems hTI rfl ?_)
  dsimp only
  refine wpAny_bind ?_
  simp only [Array.forIn_toList.symm, List.forIn_cons, List.forIn_nil]
  exact wpAny_bind (wpAny_bind (wpAny_holding (wpAny_nextOf_list_end hh h1 hl hx hE)))

theorem wpAny_pyNext_map_item {z TI J l : Addr} {k : Nat} {f : String} {xs : Array Value} {x : Value} {Q : Option Value → Shared → Prop} (hz : IsMap s.heap z TI (.builtin f)) (hTI : IsOne s.heap TI (.ref J)) (h1 : s.heap.IsListIter J l k) (hl : s.heap.IsList l xs) (hx : xs[k]? = some x)
    (hzJ : z ≠ J)
    (hc : ∀ h', h'.IsListIter J l (k + 1) → Heap.SameBut J s.heap h' → ∀ (Q' : Value → Shared → Prop) (A' : Around) (E' : Value → Shared → Prop), (∀ v tk, Q (some v) { s with heap := h', toks := tk } → Q' v { s with heap := h', toks := tk }) → wpAny (model prog w) A' (call (.builtin f) [x]) Q' E' { s with heap := h' }) :
    wpAny (model prog w) A (pyNext (.ref z)) Q E s := by
  have hT : s.TypeIs (.ref z) "map" := ⟨_, hz, rfl⟩
  unfold pyNext
  refine wpAny_bind (wpAny_attempt (wpAny_callSpecial?_slot (name := Str.ofString "__next__") hT slot_map_next
    (wpAny_call_entry slot_map_next hT entry_map_next (map_next_item hz hTI h1 hl hx hzJ fun h' a1 a2 => ?_) (args_map_next_1 _))))
  exact hc h' a1 a2 _ _ _ fun v tk q => wpAny_pure q

theorem wpAny_pyNext_map_end {z TI J l : Addr} {k : Nat} {f : String} {xs : Array Value} {Q : Option Value → Shared → Prop} (hh : A.handled = none) (hz : IsMap s.heap z TI (.builtin f)) (hTI : IsOne s.heap TI (.ref J)) (h1 : s.heap.IsListIter J l k) (hl : s.heap.IsList l xs) (hx : xs[k]? = none)
    (hQ : ∀ h', Heap.ExtBut J s.heap h' → Q none { s with heap := h' }) : wpAny (model prog w) A (pyNext (.ref z)) Q E s := by
  have hT : s.TypeIs (.ref z) "map" := ⟨_, hz, rfl⟩
  unfold pyNext
  refine wpAny_bind (wpAny_attempt (wpAny_callSpecial?_slot (name := Str.ofString "__next__") hT slot_map_next
    (wpAny_call_entry slot_map_next hT entry_map_next (map_next_end hh hz hTI h1 hl hx fun h' e hk he => ?_) (args_map_next_1 _))))
  obtain ⟨o, ho, hc⟩ := he
  refine wpAny_bind (wpAny_isInstance (T := "StopIteration") (b := true) ⟨o, ho, hc⟩ isSubtype_stop ?_)
  exact wpAny_pure (hQ _ hk)

theorem wpAny_pyIter_map {z TI : Addr} {f : Value} {Q : Value → Shared → Prop} (hz : IsMap s.heap z TI f) (h : Q (.ref z) s) : wpAny (model prog w) A (pyIter (.ref z)) Q E s := by
  have hT : s.TypeIs (.ref z) "map" := ⟨_, hz, rfl⟩
  refine wpAny_pyIter_slot hT slot_map_iter (wpAny_call_entry slot_map_iter hT entry_map_iter ?_ (args_map_iter_1 _))
  show wpAny _ _ (ret (.ref z)) _ _ s
  exact wpAny_pure ⟨_, rfl, "map", _, hT, slot_map_next.lookup, h⟩
end

/-- the walk over map(str.capitalize, a list of texts) -/
theorem walks_cap {prog : Program} {w : World} {A : Around} (hh : A.handled = none) (z TI J l : Addr) (hzJ : z ≠ J) (hTJ : TI ≠ J) (hlJ : l ≠ J) (vs : List Value) (xs : List Str) (hS : StrsAre vs xs) (hfit : ∀ x ∈ xs, x.length ≤ 5592405) :
    Walks prog w A z [z, TI, J, l] [J] xs.length (fun i v => ∃ x u, xs[i]? = some x ∧ v = .str (Txt.capitalize x) u)
      (fun i h => IsMap h z TI (.builtin "str.capitalize") ∧ IsOne h TI (.ref J) ∧ h.IsListIter J l i ∧ h.IsList l vs.toArray) where
  sub := fun b hb => by simp at hb; simp [hb]
  frame := fun _ _ _ st hk => ⟨hk z (by simp) _ st.1, hk TI (by simp) _ st.2.1, st.2.2.1.at fun o e => hk J (by simp) o e, st.2.2.2.at fun o e => hk l (by simp) o e⟩
  item := fun i s Q E hi st hQ => by
    obtain ⟨hz, hTI, h1, hl⟩ := st
    obtain ⟨t, hv⟩ := hS.get i xs[i] (by simp)
    refine wpAny_pyNext_map_item hz hTI h1 hl (x := .str xs[i] t) (by simpa using hv) hzJ fun h' a1 a2 Q' A' E' hq => ?_
    refine SCL.capitalize (hfit _ (List.getElem_mem hi)) fun t' k _ => hq _ _ ?_
    exact hQ _ h' k ⟨_, _, by simp, rfl⟩ ⟨a2.extBut _ _ hzJ hz, a2.extBut _ _ hTJ hTI, a1, hl.extBut a2.extBut hlJ⟩ fun b o hb e => a2.extBut b o (fun h => hb (by simp [h])) e
  done := fun s Q E st hQ => by
    obtain ⟨hz, hTI, h1, hl⟩ := st
    refine wpAny_pyNext_map_end hh hz hTI h1 hl (by simp [hS.length]) fun h' he => hQ h' s.toks fun b o hb e => he b o (fun h => hb (by simp [h])) e
  self := fun _ _ _ _ st hQ => wpAny_pyIter_map st.1 hQ
end Mine
end
section -- Mp2
open PySem PySem.W PyProof.Rows
set_option maxRecDepth 100000
namespace Mine
section
variable {prog : Program} {w : World} {A : Around} {E : Value → Shared → Prop} {s : Shared} {I : Addr} {fp wr : List Addr} {n : Nat} {P : Nat → Value → Prop} {St : Nat → Heap → Prop}
open Builtin.List

noncomputable abbrev emptyL : Obj := { cls := .type "list", data := .seq ([] : List Value).toArray }

/-- what list() makes of a map object -/
theorem collect_map {Q : List Value → Shared → Prop} (W : Walks prog w A.in1 I fp wr n P St) (hT : ∀ i h, St i h → ∃ o, h.get? I = some o ∧ o.cls = .type "map") (hst : St 0 s.heap) (hfp : ∀ b ∈ fp, b < s.heap.objs.size) (hI : I ∈ fp)
    (hQ : ∀ h' tk acc, (∀ b o, b ∉ wr → s.heap.get? b = some o → h'.get? b = some o) → ItemsOf P acc n → Q acc.toList { s with heap := h', toks := tk }) (hn : n ≤ sizeLine) : wpAny (model prog w) A (collect (.ref I)) Q E s := by
  have hSf : s.heap.objs.size ∉ fp := fun hm => Nat.lt_irrefl _ (hfp _ hm)
  have hSI : s.heap.objs.size ≠ I := fun e => hSf (e ▸ hI)
  have old : ∀ (h₁ h₂ : Heap), (∀ b o, b ≠ s.heap.objs.size → h₁.get? b = some o → h₂.get? b = some o) → ∀ i, St i h₁ → St i h₂ := fun h₁ h₂ hk i st =>
    W.frame i h₁ h₂ st fun b hb o e => hk b o (fun h => hSf (h ▸ hb)) e
  unfold collect
  refine wpAny_bind (wpAny_runValue (codeAny_builtin F.entry_proto_collect ?_))
  rw [Around.under_plainId F.plain_proto_collect _]
  show wpAny _ A.in1 (newList [] >>= fun l => again (.builtin "list.__iadd__" ⟨[l, .ref I], []⟩)) _ _ s
  refine wpAny_bind (wpAny_newObj_type ?_)
  refine wpAny_pure ⟨plainId_quiet F.plain_list_iadd _, codeAny_builtin F.entry_list_iadd ?_⟩
  rw [Around.under_plainId F.plain_list_iadd _]
  have p0 : (s.heap.push emptyL).get? s.heap.objs.size = some emptyL := Heap.get?_push_size _ rfl
  have st1 := old s.heap (s.heap.push emptyL) (fun b o _ e => Heap.get?_push_of_some _ e) 0 hst
  obtain ⟨oI, hoI, hcI⟩ := hT 0 _ st1
  have ty1 : Shared.TypeIs { s with heap := s.heap.push emptyL } (.ref I) "map" := ⟨oI, hoI, hcI⟩
  show wpAny _ A.in1 (listExtendWith (.ref s.heap.objs.size) (.ref I) (.ref s.heap.objs.size)) _ _ _
  unfold listExtendWith
  refine wpAny_bind (wpAny_typeOf ty1 ?_)
  have e1 : listSameRef (.ref s.heap.objs.size) (.ref I) = false := by simp [listSameRef, hSI]
  rw [if_neg (by rw [e1]; decide)]
  refine wpAny_bind (W.self 0 _ _ _ st1 (wpAny_bind (wpAny_holding ?_)))
  unfold listLengthHint
  refine wpAny_bind (wpAny_specialOf ty1 nolen_map ?_)
  refine wpAny_bind (m := specialOf (Value.ref I) (Str.ofString "__length_hint__")) (wpAny_specialOf ty1 nohint_map (wpAny_pure ?_))
  refine wpAny_bind (m := rule "list.extend.makes-room") (wpAny_rule (wpAny_bind ?_))
  show wpAny _ A.in1 (updateSeq s.heap.objs.size (·.push .none) >>= fun _ => updateSeq s.heap.objs.size (·.pop)) _ _ _
  refine wpAny_bind (wpAny_updateSeq p0 rfl (wpAny_updateSeq (Heap.get?_update_self (Obj.mapSeq (·.push Value.none)) p0 rfl) rfl ?_))
  have p2 := Heap.get?_update_self (Obj.mapSeq (·.pop)) (Heap.get?_update_self (Obj.mapSeq (·.push Value.none)) p0 rfl) rfl
  generalize hH : ((s.heap.push emptyL).update s.heap.objs.size (Obj.mapSeq (·.push Value.none))).update s.heap.objs.size (Obj.mapSeq (·.pop)) = H at p2
  have oth : ∀ b o, b ≠ s.heap.objs.size → (s.heap.push emptyL).get? b = some o → H.get? b = some o := fun b o hb e => by
    rw [← hH]; exact (Heap.get?_update_other _ _ (Ne.symm hb)).trans ((Heap.get?_update_other _ _ (Ne.symm hb)).trans e)
  refine wpAny_pure ⟨plainId_quiet F.plain_extend_loop _, codeAny_extend_loopS W.toS hn _ hSf _ n 0 _ _ _ rfl (Nat.zero_le _) (old _ _ oth 0 st1) p2 (ItemsOf.nil P) fun s' acc' c' hm hS' hacc => ?_⟩
  show wpAny _ A (load s.heap.objs.size >>= _) _ _ s'
  refine wpAny_bind (wpAny_load hS' (wpAny_pure ?_))
  obtain ⟨hh, hg, hd, ho, _⟩ := hm
  obtain ⟨h', g', d', t', o'⟩ := s'
  simp only at hg hd ho hh
  subst hg hd ho
  refine hQ h' t' acc' (fun b o hb e => hh b o (fun h => ?_) (oth b o (fun h => ?_) (Heap.get?_push_of_some _ e))) hacc
  · rcases List.mem_cons.mp h with h | h
    · exact absurd (Heap.lt_size e) (h ▸ Nat.lt_irrefl _)
    · exact hb h
  · exact absurd (Heap.lt_size e) (h ▸ Nat.lt_irrefl _)
end

section
variable {prog : Program} {w : World} {A : Around} {E : Value → Shared → Prop} {s : Shared} {Q : Value → Shared → Prop}
open Builtin Builtin.Str Builtin.Int
/-- sep.join(map(str.capitalize, l)) behind the map object -/
theorem join_map {sep : Str} {t : Tok} {z TI J l : Addr} {vs : List Value} {xs : List Str} (hh : A.handled = none) (hz : IsMap s.heap z TI (.builtin "str.capitalize")) (hTI : IsOne s.heap TI (.ref J)) (hJ : s.heap.IsListIter J l 0) (hl : s.heap.IsList l vs.toArray)
    (hzJ : z ≠ J) (hTJ : TI ≠ J) (hlJ : l ≠ J) (hS : StrsAre vs xs) (hfit : ∀ x ∈ xs, x.length ≤ 5592405) (hn : xs.length ≤ 100000) (hok : JoinOk sep (xs.map Txt.capitalize) = true)
    (hq : ∀ h' tk t', (∀ b o, b ≠ J → s.heap.get? b = some o → h'.get? b = some o) → Q (.str (Str.join sep (xs.map Txt.capitalize)) t') { s with heap := h', toks := tk }) :
    wpAny (model prog w) A (call (.builtin "str.join") [.str sep t, .ref z]) Q E s := by
  have W := walks_cap (prog := prog) (w := w) (A := A.in1.in1) hh z TI J l hzJ hTJ hlJ vs xs hS hfit
  obtain ⟨oJ, hoJ, _⟩ := id hJ
  obtain ⟨ol, hol, _⟩ := id hl
  refine wpAny_call (codeAny_call_builtin F.slot_str_join.plain F.entry_str_join (F.slot_str_join.check _ _ _ _ _ _ _ _ (typeIs_str _ _ _) (F.args_str_join_2 _ _) ?_))
  rw [join_tree_other]
  refine wpAny_bind (wpAny_typeOf (T := "map") ⟨_, hz, rfl⟩ ?_)
  show wpAny _ A.in1 ((pyIter (.ref z)).tryCatch _ >>= fun it => collect it >>= fun items => joinTail sep items) _ _ s
  refine wpAny_bind (wpAny_tryCatch (wpAny_pyIter_map hz ?_))
  refine wpAny_bind (collect_map W (fun i h st => ⟨_, st.1, rfl⟩) ⟨hz, hTI, hJ, hl⟩ ?_ (by simp) (fun h' tk acc hk hacc => ?_) (by rw [sizeLine_eq]; (first | lia | omega)))
  · intro b hb
    simp only [List.mem_cons, List.not_mem_nil, or_false] at hb
    rcases hb with rfl | rfl | rfl | rfl
    · exact Heap.lt_size hz
    · exact Heap.lt_size hTI
    · exact Heap.lt_size hoJ
    · exact Heap.lt_size hol
  obtain ⟨lt, hlt⟩ := exists_strValues acc.toList fun v hv => by
    obtain ⟨j, hj, rfl⟩ := Array.mem_iff_getElem.mp (Array.mem_toList_iff.mp hv)
    obtain ⟨x, u, _, e⟩ := hacc.2 j _ (Array.getElem?_eq_getElem hj)
    exact ⟨_, u, e⟩
  have hlx : lt.map (·.1) = xs.map Txt.capitalize := by
    have hsz : lt.length = xs.length := by
      have := congrArg List.length hlt
      simp only [strValues, List.length_map, Array.length_toList] at this
      rw [this]; exact hacc.1
    refine List.ext_getElem (by simpa using hsz) fun j h1 h2 => ?_
    have h1' : j < lt.length := by simpa using h1
    have hj : acc[j]? = some (.str lt[j].1 lt[j].2) := by
      rw [← Array.getElem?_toList, ← hlt]
      simp [strValues, List.getElem?_eq_getElem h1']
    obtain ⟨x, u, hx, e⟩ := hacc.2 j _ hj
    injection e with e1 _
    have hx' : xs[j]'(by simpa using h2) = x := by
      rw [List.getElem?_eq_getElem (by simpa using h2)] at hx
      exact Option.some.inj hx
    simp only [List.getElem_map]
    rw [e1, hx']
  rw [← hlt]
  unfold JoinOk at hok
  rw [Bool.not_eq_true', ← hlx] at hok
  have g : Gives (joinTail sep (strValues lt)) (joinMade sep lt) := by
    have g0 := gives_joinTail sep lt hok
    cases lt with
    | nil => exact g0
    | cons p r => cases r with
      | nil => exact g0
      | cons q r' => exact g0
  refine g prog w A (wants Q E) _ (post_join lt ⟨joinFit_length hok, fun t' k => ?_⟩)
  have : Txt.join sep (lt.map (·.1)) = Str.join sep (xs.map Txt.capitalize) := by rw [hlx]; exact StrLaws.glued_eq_join _ _
  rw [this]
  exact hq h' k t' fun b o hb e => hk b o (by simpa using hb) e
end
end Mine
end
section -- Mp3
open PySem PySem.W PyProof.Rows
set_option maxRecDepth 100000
namespace Mine
section
variable {prog : Program} {w : World} {A : Around} {E : Value → Shared → Prop} {s : Shared} {Q : Value → Shared → Prop}
theorem get_cap {expr : Bool} (h : ∀ k, Q (.builtin "str.capitalize") { s with toks := k }) : wpAny (model prog w) A (getAttr (.type "str") (Str.ofString "capitalize") expr) Q E s := by
  have X : Frag.In [] s.heap := fun _ _ e => by cases e
  have L0 : Looks (model prog w) s.heap (typeOf (.type "str")) (.type "type") := Looks.of_pure (kitMeta_of (by decide +kernel))
  have hs : Manifest.isStub "str" = false := by decide +kernel
  have LO : Looks (model prog w) s.heap (opaqueClassAbove (.type "str")) none := Looks.of_pure (by unfold opaqueClassAbove; dsimp only; rw [hs]; rfl)
  have hg : findIn [] (.type "type") "__getattribute__" = some (some (.builtin "type.__getattribute__")) := type_tga
  refine cls_open (r := .val (.builtin "str.capitalize")) X LO L0 hg (looks_hook X (r := none) (by rfl)) (by show subIn [] _ _ = _; rfl) (by kernel_rfl) ?_
  show wpAny _ _ (ret (Value.builtin "str.capitalize")) _ _ _
  exact wpAny_pure (handed_on (by decide +kernel) (h _))
end
end Mine
end
section -- Pl
open PySem PySem.W PyProof.Rows
set_option maxRecDepth 100000
namespace Mine
/-- a word made great: the first sign great, the others small -/
noncomputable def capW : List Nat → List Nat
  | [] => []
  | c :: r => up c :: r.map lo
theorem title_fine : ∀ c < 161, Fine c → Unicode.titleOf c = [up c] := by decide +kernel
theorem lower_fine : ∀ c < 161, Fine c → Unicode.lowerOf c = [lo c] := by decide +kernel
theorem upper_fine : ∀ c < 161, Fine c → Unicode.upperOf c = [up c] := by decide +kernel
theorem fine_lt {c : Nat} (h : Fine c) : c < 161 := by rcases h with h | h <;> (first | lia | omega)
theorem lowerAt_fine {s : Array Nat} {i c : Nat} (h : s[i]? = some c) (hf : Fine c) : Unicode.lowerAt s i = [lo c] := by
  unfold Unicode.lowerAt
  rw [h]
  have : (c == 0x3A3 && Unicode.endsWord s i) = false := by
    have hc : (c == 0x3A3) = false := beq_eq_false_iff_ne.mpr (by have := fine_lt hf; (first | lia | omega))
    rw [hc]; rfl
  simp only [this]
  exact lower_fine c (fine_lt hf) hf
theorem placed_list (l : List Nat) (f : Nat → Nat → List Nat) : (placed (T l) f).toList = (l.mapIdx f).flatten := by
  simp only [placed, T, Array.toList_flatten, Array.toList_mapIdx]
  congr 1
  refine List.ext_getElem? fun i => ?_
  simp only [List.getElem?_map, List.getElem?_mapIdx, Option.map_map]
  rfl
theorem flat_one {α β : Type} (l : List α) (f : Nat → α → List β) (g : Nat → α → β) (h : ∀ i c, l[i]? = some c → f i c = [g i c]) : (l.mapIdx f).flatten = l.mapIdx g := by
  have e : l.mapIdx f = l.mapIdx fun i c => [g i c] := by
    refine List.ext_getElem? fun i => ?_
    simp only [List.getElem?_mapIdx]
    cases hc : l[i]? with
    | none => rfl
    | some c => simp [h i c hc]
  rw [e]
  clear e h
  induction l generalizing g with
  | nil => rfl
  | cons a r ih => simp only [List.mapIdx_cons, List.flatten_cons]; rw [ih (fun i c => g (i + 1) c)]; rfl
theorem cap_T (l : List Nat) (hf : ∀ c ∈ l, Fine c) : Txt.capitalize (T l) = T (capW l) := by
  cases l with
  | nil => rfl
  | cons a r =>
    have h0 : ((T (a :: r)).length == 0) = false := by rw [T_len]; rfl
    unfold Txt.capitalize
    rw [h0, if_neg Bool.false_ne_true]
    refine PySem.Str.ext' (Array.toList_inj.mp ?_)
    show (placed (T (a :: r)) _).toList = _
    rw [placed_list, flat_one _ _ (fun i c => if i = 0 then up c else lo c)]
    · have e : List.mapIdx (fun i c => if i = 0 then up c else lo c) (a :: r) = up a :: r.map lo := by
        refine List.ext_getElem? fun i => ?_
        cases i with
        | zero => simp
        | succ i => simp [List.getElem?_mapIdx]
      rw [e]; simp [T, capW]
    · intro i c hc
      have hF := hf c (List.mem_of_getElem? hc)
      by_cases hi : i = 0
      · simp only [hi, beq_self_eq_true, if_true]; exact title_fine c (fine_lt hF) hF
      · have : (i == 0) = false := beq_eq_false_iff_ne.mpr hi
        simp only [this, hi, if_false]
        exact lowerAt_fine (by simpa [T] using hc) hF
theorem upper_one (c : Nat) (h : Fine c) : Txt.upper ⟨#[c]⟩ = T [up c] := by
  refine PySem.Str.ext' (Array.toList_inj.mp ?_)
  show (placed (T [c]) _).toList = _
  rw [placed_list]
  simp [T, upper_fine c (fine_lt h) h]
theorem lower_one (c : Nat) (h : Fine c) : Txt.lower ⟨#[c]⟩ = T [lo c] := by
  refine PySem.Str.ext' (Array.toList_inj.mp ?_)
  show (placed (T [c]) fun i _ => Unicode.lowerAt (T [c]).cps i).toList = _
  rw [placed_list]
  simp [T, lowerAt_fine (s := #[c]) (i := 0) rfl h]

/-! the mark of a colon and a blank -/
noncomputable def stGo : Bool → Bool → List Nat → Bool × Bool
  | fr, col, [] => (fr, col)
  | _, col, c :: r => stGo (col && c == 32) (c == 58) r
theorem capGo_app : ∀ (p q : List Nat) (fr col : Bool), capGo fr col (p ++ q) = capGo fr col p ++ capGo (stGo fr col p).1 (stGo fr col p).2 q
  | [], _, _, _ => rfl
  | c :: r, q, fr, col => by
    show _ :: capGo _ _ (r ++ q) = _
    rw [capGo_app r q]; rfl
theorem stGo_app : ∀ (p q : List Nat) (fr col : Bool), stGo fr col (p ++ q) = stGo (stGo fr col p).1 (stGo fr col p).2 q
  | [], _, _, _ => rfl
  | _ :: r, q, _, _ => stGo_app r q _ _
theorem cap_mark (a b : Bool) : capGo a b [58, 32] = [58, 32] := by cases a <;> cases b <;> rfl
theorem st_mark (a b : Bool) : stGo a b [58, 32] = (true, false) := rfl
theorem cap_sep (p q : List Nat) (fr col : Bool) : capGo fr col (p ++ [58, 32] ++ q) = capGo fr col p ++ [58, 32] ++ capL q := by
  rw [capGo_app, capGo_app, stGo_app, cap_mark, st_mark]; rfl
theorem cap_join : ∀ ks : List (List Nat), capL (joinL [58, 32] ks) = joinL [58, 32] (ks.map capL)
  | [] => rfl
  | [a] => rfl
  | a :: b :: r => by
    have ih := cap_join (b :: r)
    show capGo true false (a ++ [58, 32] ++ joinL [58, 32] (b :: r)) = _
    rw [cap_sep, ih]; rfl
theorem capGo_len : ∀ (l : List Nat) (fr col : Bool), (capGo fr col l).length = l.length
  | [], _, _ => rfl
  | _ :: r, _, _ => congrArg (· + 1) (capGo_len r _ _)
theorem capL_len (l : List Nat) : (capL l).length = l.length := capGo_len l _ _
theorem capL_nil (l : List Nat) : capL l = [] ↔ l = [] := by
  constructor
  · intro h
    have := capL_len l
    rw [h] at this
    exact List.eq_nil_of_length_eq_zero this.symm
  · rintro rfl; rfl
noncomputable def FreeCS (p : List Nat) : Prop := ∀ i, p[i]? = some 58 → p[i + 1]? ≠ some 32
theorem FreeCS.tail {c : Nat} {r : List Nat} (h : FreeCS (c :: r)) : FreeCS r := fun i h1 => by simpa using h (i + 1) (by simpa using h1)
theorem capGo_free : ∀ (p : List Nat) (col : Bool), (col = true → p[0]? ≠ some 32) → FreeCS p → capGo false col p = p.map lo
  | [], _, _, _ => rfl
  | c :: r, col, h1, h2 => by
    have e : (col && c == 32) = false := by
      cases col with
      | false => rfl
      | true =>
        have := h1 rfl
        simp at this
        simp [this]
    show lo c :: capGo (col && c == 32) (c == 58) r = _
    rw [e, capGo_free r (c == 58) (fun h => ?_) h2.tail]
    · rfl
    · have hc : c = 58 := by simpa using h
      have := h2 0 (by simp [hc])
      simpa using this
theorem capL_free (p : List Nat) (h : FreeCS p) : capL p = capW p := by
  cases p with
  | nil => rfl
  | cons c r =>
    show up c :: capGo (false && c == 32) (c == 58) r = _
    rw [Bool.false_and, capGo_free r (c == 58) (fun h' => ?_) h.tail]
    · rfl
    · have hc : c = 58 := by simpa using h'
      have := h 0 (by simp [hc])
      simpa using this
theorem joinL_len (sep : List Nat) : ∀ ks : List (List Nat), ks ≠ [] → (joinL sep ks).length = (ks.map List.length).sum + (ks.length - 1) * sep.length
  | [], h => absurd rfl h
  | [a], _ => by simp [joinL]
  | a :: b :: r, _ => by
    have ih := joinL_len sep (b :: r) (by simp)
    show (a ++ sep ++ joinL sep (b :: r)).length = _
    rw [List.length_append, List.length_append, ih]
    simp only [List.map_cons, List.sum_cons, List.length_cons, Nat.add_sub_cancel, Nat.add_mul, Nat.one_mul]
    (first | lia | omega)
theorem joinL_mem {sep : List Nat} {c : Nat} : ∀ {ks : List (List Nat)} {k : List Nat}, k ∈ ks → c ∈ k → c ∈ joinL sep ks
  | [a], _, hk, hc => by rw [List.mem_singleton.mp hk] at hc; exact hc
  | a :: b :: r, _, hk, hc => by
    show c ∈ a ++ sep ++ joinL sep (b :: r)
    rcases List.mem_cons.mp hk with rfl | hk
    · exact List.mem_append_left _ (List.mem_append_left _ hc)
    · exact List.mem_append_right _ (joinL_mem hk hc)
end Mine
end
section -- Pl2
open PySem PySem.W PyProof.Rows
set_option maxRecDepth 100000
namespace Mine
open StrLaws Builtin Builtin.Str
theorem at_iff (l : List Nat) (k : Nat) : At (T l) (T [58, 32]) (T l).length k ↔ l[k]? = some 58 ∧ l[k + 1]? = some 32 := by
  unfold At
  rw [subAt_eq, T_len, T_len, T_cps, T_cps]
  constructor
  · rintro ⟨h1, h2⟩
    have h2 := eq_of_beq h2
    have a0 := congrArg (fun z : List Nat => z[0]?) h2
    have a1 := congrArg (fun z : List Nat => z[1]?) h2
    simp only [List.length_cons, List.length_nil] at a0 a1
    rw [List.getElem?_take_of_lt (by (first | lia | omega)), List.getElem?_drop] at a0 a1
    exact ⟨by simpa using a0, by simpa using a1⟩
  · rintro ⟨h1, h2⟩
    have hlt : k + 1 < l.length := (List.getElem?_eq_some_iff.mp h2).1
    refine ⟨by simp only [List.length_cons, List.length_nil]; (first | lia | omega), beq_iff_eq.mpr ?_⟩
    refine List.ext_getElem? fun i => ?_
    simp only [List.length_cons, List.length_nil]
    match i with
    | 0 => rw [List.getElem?_take_of_lt (by (first | lia | omega)), List.getElem?_drop]; simpa using h1
    | 1 => rw [List.getElem?_take_of_lt (by (first | lia | omega)), List.getElem?_drop]; simpa using h2
    | i + 2 => rw [List.getElem?_take_eq_none (by (first | lia | omega))]; simp
theorem part_freeCS (l : List Nat) (a b : Nat) (hn : ∀ k, a ≤ k → k < b → ¬ At (T l) (T [58, 32]) (T l).length k) : FreeCS ((l.drop a).take (b - a)) := by
  intro i h1 h2
  have hi : i + 1 < b - a := by
    have := (List.getElem?_eq_some_iff.mp h2).1
    simp only [List.length_take, List.length_drop] at this
    (first | lia | omega)
  rw [List.getElem?_take_of_lt (by (first | lia | omega)), List.getElem?_drop] at h1 h2
  exact hn (a + i) (by (first | lia | omega)) (by (first | lia | omega)) ((at_iff l _).mpr ⟨h1, by rw [show a + i + 1 = a + (i + 1) from by (first | lia | omega)]; exact h2⟩)
theorem parts_freeCS (l : List Nat) : ∀ (cuts : List Nat) (a f : Nat), ChainG (T l) (T [58, 32]) (T l).length a cuts f → (∀ k, f ≤ k → ¬ At (T l) (T [58, 32]) (T l).length k) → a ≤ l.length →
    ∃ ps : List (List Nat), partsFrom (T l) 2 a cuts = ps.map T ∧ ∀ p ∈ ps, FreeCS p
  | [], a, f, h, hf, ha => by
    have e : f = a := h
    subst e
    refine ⟨[(l.drop f).take (l.length - f)], ?_, fun p hp => ?_⟩
    · show [strSub (T l) f (T l).length] = [T _]
      congr 1
      refine PySem.Str.ext' (Array.toList_inj.mp ?_)
      rw [strSub_toList, T_cps, T_len, T_cps]
    · rw [List.mem_singleton.mp hp]
      exact part_freeCS l f _ fun k hk _ => hf k hk
  | c :: r, a, f, h, hf, ha => by
    obtain ⟨h1, h2, h3, h4⟩ := h
    have hc := (at_iff l c).mp h2
    have hlt : c + 1 < l.length := (List.getElem?_eq_some_iff.mp hc.2).1
    obtain ⟨ps, e, hp⟩ := parts_freeCS l r (c + 2) f h4 hf (by (first | lia | omega))
    refine ⟨(l.drop a).take (c - a) :: ps, ?_, fun p hm => ?_⟩
    · show strSub (T l) a c :: partsFrom (T l) 2 (c + 2) r = _
      rw [e, List.map_cons]
      congr 1
      refine PySem.Str.ext' (Array.toList_inj.mp ?_)
      rw [strSub_toList, T_cps, T_cps]
    · rcases List.mem_cons.mp hm with rfl | hm
      · exact part_freeCS l a c h3
      · exact hp p hm
theorem split_T (l : List Nat) : ∃ ps : List (List Nat), Txt.split (T l) (T [58, 32]) = ps.map T ∧ joinL [58, 32] ps = l ∧ ps ≠ [] ∧ ∀ p ∈ ps, FreeCS p := by
  have key : ∃ ps : List (List Nat), Txt.split (T l) (T [58, 32]) = ps.map T ∧ ∀ p ∈ ps, FreeCS p := by
    obtain ⟨f, h1, h2⟩ := occ_tight (T l) (T [58, 32]) (by rw [T_len]; decide)
    have all := parts_freeCS l _ 0 f h1 h2 (Nat.zero_le _)
    unfold Txt.split
    have hk : decide (PySem.Builtin.Str.strKind (T l) < PySem.Builtin.Str.strKind (T [58, 32])) = false := by
      have e : PySem.Builtin.Str.strKind (T [58, 32]) = 1 := by decide +kernel
      rw [e]
      refine decide_eq_false ?_
      unfold PySem.Builtin.Str.strKind
      (repeat' split) <;> (first | lia | omega)
    rw [hk, Bool.or_false]
    split
    · rename_i hl
      have hl := of_decide_eq_true hl
      rw [T_len, T_len] at hl
      refine ⟨[l], rfl, fun p hp => ?_⟩
      rw [List.mem_singleton.mp hp]
      intro i _ h
      have := (List.getElem?_eq_some_iff.mp h).1
      simp only [List.length_cons, List.length_nil] at hl
      (first | lia | omega)
    · have hw : (T [58, 32]).length = 2 := T_len _
      split
      · rename_i he
        rw [List.isEmpty_iff.mp he] at all
        obtain ⟨ps, e, hp⟩ := all
        refine ⟨ps, ?_, hp⟩
        rw [← e]
        show _ = [strSub (T l) 0 (T l).length]
        rw [sub_whole]
      · rw [hw, partsBetween_eq]
        exact all
  obtain ⟨ps, e, hp⟩ := key
  have hj : joinL [58, 32] ps = l := by
    have := join_split (T l) (T [58, 32])
    rw [e, join_T] at this
    exact T_inj this
  refine ⟨ps, e, hj, ?_, hp⟩
  rintro rfl
  have h0 : (Txt.split (T l) (T [58, 32])).length = 0 := by rw [e]; rfl
  unfold Txt.split at h0
  split at h0
  · simp at h0
  · split at h0
    · simp at h0
    · rw [partsBetween_eq] at h0
      obtain ⟨p, r, e⟩ := partsFrom_ne (T l) (T [58, 32]).length 0 (occurrences (T l) (T [58, 32]) 0 (T l).length ((T l).length + 1))
      rw [e] at h0; simp at h0
end Mine
end
section -- Pl3
open PySem PySem.W PyProof.Rows
set_option maxRecDepth 100000
namespace Mine
open StrLaws Builtin Builtin.Str
/-- the words between blanks; cur: the one that has begun -/
noncomputable def wgo : Option (List Nat) → List Nat → List (List Nat)
  | cur, [] => cur.toList
  | cur, c :: r => if Unicode.isSpace c then (match cur with | some w => w :: wgo none r | none => wgo none r) else wgo (some (cur.getD [] ++ [c])) r
noncomputable def cut (l : List Nat) (p : Nat × Nat) : List Nat := (l.drop p.1).take (p.2 - p.1)
theorem take_more (l : List Nat) (b cur : Nat) (hb : b ≤ cur) (c : Nat) (hc : l[cur]? = some c) : (l.drop b).take (cur + 1 - b) = (l.drop b).take (cur - b) ++ [c] := by
  have e : cur + 1 - b = (cur - b) + 1 := by (first | lia | omega)
  rw [e, List.take_add_one, List.getElem?_drop, show b + (cur - b) = cur from by (first | lia | omega), hc]; rfl
theorem sw_wgo (l : List Nat) (limit : Nat) (hl : l.length < limit) : ∀ (m cur : Nat) (words : Array (Nat × Nat)) (start : Option Nat), cur + m = l.length → words.size ≤ cur → (∀ b, start = some b → b ≤ cur) →
    (swEnd (T l) (forIn (List.range' cur m) ((none, words, start) : SwSt) (swBody (T l) limit)).run).map (cut l) = words.toList.map (cut l) ++ wgo (start.map fun b => (l.drop b).take (cur - b)) (l.drop cur)
  | 0, cur, words, start, hm, _, hs => by
    have hd : l.drop cur = [] := List.drop_eq_nil_of_le (by (first | lia | omega))
    rw [hd]
    cases start with
    | none => show words.toList.map (cut l) = _; simp [wgo]
    | some b =>
      show ((words.push (b, (T l).length)).toList).map (cut l) = _
      have := hs b rfl
      rw [T_len, Array.toList_push, List.map_append]
      simp [wgo, cut, show l.length = cur from by (first | lia | omega)]
  | m + 1, cur, words, start, hm, hw, hs => by
    rw [List.range'_succ, List.forIn_cons]
    have hlt : cur < l.length := by (first | lia | omega)
    obtain ⟨c, hc⟩ : ∃ c, l[cur]? = some c := ⟨l[cur], List.getElem?_eq_getElem hlt⟩
    have hd : l.drop cur = c :: l.drop (cur + 1) := by
      rw [List.drop_eq_getElem_cons hlt]
      rw [List.getElem?_eq_getElem hlt] at hc
      rw [Option.some.inj hc]
    have hg : (T l).cps.getD cur 0 = c := by
      simp only [T, Array.getD_eq_getD_getElem?, List.getElem?_toArray, hc, Option.getD_some]
    have hsz : ¬ ((words.size == limit) = true) := by
      intro h; have := eq_of_beq h; (first | lia | omega)
    have st0 : ∀ start, swBody (T l) limit cur (none, words, start) = (match start, Unicode.isSpace c with
        | some b, true => pure (ForInStep.yield (none, words.push (b, cur), none))
        | none, false => pure (ForInStep.yield (none, words, some cur))
        | _, _ => pure (ForInStep.yield (none, words, start)) : Id (ForInStep SwSt)) := fun start => by
      unfold swBody
      simp only [hsz, if_false, hg, Bool.false_eq_true]
      cases start <;> cases Unicode.isSpace c <;> rfl
    rw [st0, hd]
    cases hsp : Unicode.isSpace c with
    | true =>
      cases start with
      | none =>
        have ih := sw_wgo l limit hl m (cur + 1) words none (by (first | lia | omega)) (by (first | lia | omega)) (fun b h => nomatch h)
        simp only [wgo, hsp, if_true, Option.map_none] at ih ⊢
        exact ih
      | some b =>
        have hb := hs b rfl
        have ih := sw_wgo l limit hl m (cur + 1) (words.push (b, cur)) none (by (first | lia | omega)) (by rw [Array.size_push]; (first | lia | omega)) (fun b h => nomatch h)
        simp only [wgo, hsp, if_true, Option.map_none, Option.map_some] at ih ⊢
        rw [Array.toList_push, List.map_append, List.append_assoc] at ih
        exact ih
    | false =>
      cases start with
      | none =>
        have ih := sw_wgo l limit hl m (cur + 1) words (some cur) (by (first | lia | omega)) (by (first | lia | omega)) (fun b h => by cases h; (first | lia | omega))
        simp only [wgo, hsp, Bool.false_eq_true, if_false, Option.map_none, Option.map_some, Option.getD_none, List.nil_append] at ih ⊢
        rw [take_more l cur cur (Nat.le_refl _) c hc, Nat.sub_self, List.take_zero, List.nil_append] at ih
        exact ih
      | some b =>
        have hb := hs b rfl
        have ih := sw_wgo l limit hl m (cur + 1) words (some b) (by (first | lia | omega)) (by (first | lia | omega)) (fun b' h => by cases h; (first | lia | omega))
        simp only [wgo, hsp, Bool.false_eq_true, if_false, Option.map_some, Option.getD_some] at ih ⊢
        rw [take_more l b cur hb c hc] at ih
        exact ih
theorem words_T (l : List Nat) : Txt.words (T l) = (wgo none l).map T := by
  have key : (spaceWords (T l) ((T l).length + 1)).map (cut l) = wgo none l := by
    rw [sw_eq, T_len]
    have := sw_wgo l (l.length + 1) (by (first | lia | omega)) l.length 0 #[] none (by (first | lia | omega)) (by simp) (fun b h => nomatch h)
    simpa using this
  have hcut : ∀ p : Nat × Nat, strSub (T l) p.1 p.2 = T (cut l p) := fun p => by
    refine PySem.Str.ext' (Array.toList_inj.mp ?_)
    rw [strSub_toList, T_cps, T_cps]; rfl
  have all : PySem.wordsOf (T l) = (wgo none l).map T := by
    unfold PySem.wordsOf
    rw [← key, List.map_map]
    exact List.map_congr_left fun p _ => hcut p
  unfold Txt.words
  split
  · rename_i h
    have h := eq_of_beq h
    rw [← all]
    unfold PySem.wordsOf
    rw [h]
    show [T l] = [strSub (T l) 0 (T l).length]
    rw [sub_whole]
  · exact all
theorem wordsGo_wgo (l : List Nat) (hl : ∀ c ∈ l, Unicode.isSpace c = isSp c) : ∀ (ws : List (List Nat)) (cur : Option (List Nat)), (∀ w, cur = some w → w ≠ []) →
    wordsGo (ws ++ (cur.map capW).toList) cur.isSome l = ws ++ (wgo cur l).map capW := by
  induction l with
  | nil => intro ws cur _; cases cur <;> simp [wordsGo, wgo]
  | cons c r ih =>
    intro ws cur hcur
    have hc := hl c (.head _)
    have ih := ih fun c' h => hl c' (.tail _ h)
    simp only [wordsGo, wgo, hc]
    cases hsp : isSp c with
    | true =>
      simp only [if_true]
      cases cur with
      | none => simpa using ih ws none (fun w h => nomatch h)
      | some w =>
        have := ih (ws ++ [capW w]) none (fun w h => nomatch h)
        simpa using this
    | false =>
      simp only [Bool.false_eq_true, if_false]
      cases cur with
      | none =>
        have := ih ws (some [c]) (fun w h => by cases h; simp)
        simpa [capW] using this
      | some w =>
        have hw := hcur w rfl
        have := ih ws (some (w ++ [c])) (fun w' h => by cases h; simp)
        have e : capW (w ++ [c]) = capW w ++ [lo c] := by
          cases w with
          | nil => exact absurd rfl hw
          | cons a t => simp [capW]
        simpa [e] using this
theorem words_law (l : List Nat) (hl : ∀ c ∈ l, Unicode.isSpace c = isSp c) (hf : ∀ c ∈ l, Fine c) : Str.join (T [32]) ((Txt.words (T l)).map Txt.capitalize) = T (wordsL l) := by
  have h1 := wordsGo_wgo l hl [] none (fun w h => nomatch h)
  simp only [Option.map_none, Option.toList_none, List.append_nil, Option.isSome_none, List.nil_append] at h1
  have mem : ∀ (l : List Nat) (cur : Option (List Nat)), ∀ w ∈ wgo cur l, ∀ c ∈ w, c ∈ l ∨ ∃ v, cur = some v ∧ c ∈ v := by
    intro l
    induction l with
    | nil => intro cur w hw c hc; cases cur with
      | none => simp [wgo] at hw
      | some v => simp [wgo] at hw; subst hw; exact .inr ⟨_, rfl, hc⟩
    | cons a r ih =>
      intro cur w hw c hc
      simp only [wgo] at hw
      split at hw
      · cases cur with
        | none =>
          rcases ih none w hw c hc with h | ⟨v, h, _⟩
          · exact .inl (.tail _ h)
          · cases h
        | some v =>
          rcases List.mem_cons.mp hw with rfl | hw
          · exact .inr ⟨_, rfl, hc⟩
          · rcases ih none w hw c hc with h | ⟨v, h, _⟩
            · exact .inl (.tail _ h)
            · cases h
      · rcases ih _ w hw c hc with h | ⟨v, h, hv⟩
        · exact .inl (.tail _ h)
        · cases h
          rcases List.mem_append.mp hv with hv | hv
          · cases cur with
            | none => simp at hv
            | some u => exact .inr ⟨u, rfl, hv⟩
          · rw [List.mem_singleton.mp hv]; exact .inl (.head _)
  have e : (Txt.words (T l)).map Txt.capitalize = ((wgo none l).map capW).map T := by
    rw [words_T, List.map_map, List.map_map]
    refine List.map_congr_left fun w hw => cap_T w fun c hc => ?_
    rcases mem l none w hw c hc with h | ⟨v, h, _⟩
    · exact hf c h
    · cases h
  rw [e, join_T, ← h1]; rfl
theorem split_law (l : List Nat) (hf : ∀ c ∈ l, Fine c) : Str.join (T [58, 32]) ((Txt.split (T l) (T [58, 32])).map Txt.capitalize) = T (capL l) := by
  obtain ⟨ps, e, hj, _, hp⟩ := split_T l
  have e2 : (Txt.split (T l) (T [58, 32])).map Txt.capitalize = (ps.map capL).map T := by
    rw [e, List.map_map, List.map_map]
    refine List.map_congr_left fun p hm => ?_
    show Txt.capitalize (T p) = T (capL p)
    rw [capL_free p (hp p hm), cap_T]
    intro c hc
    exact hf c (by rw [← hj]; exact joinL_mem hm hc)
  rw [e2, join_T, ← cap_join, hj]
theorem cap_ok {sep : Str} {xs : List Str} (hw : (xs.map (·.length)).sum + xs.length ≤ 100000) (hs : sep.length ≤ 16) : JoinOk sep (xs.map Txt.capitalize) = true := by
  refine joinOk_of_weight ?_ hs
  have h : ∀ ys : List Str, ((ys.map Txt.capitalize).map (·.length)).sum ≤ 3 * (ys.map (·.length)).sum := by
    intro ys
    induction ys with
    | nil => simp
    | cons y r ih =>
      have := len_capitalize y
      simp only [List.map_cons, List.sum_cons] at ih ⊢
      (first | lia | omega)
  have := h xs
  rw [List.length_map]
  (first | lia | omega)
theorem split_weight (l : List Nat) : ((Txt.split (T l) (T [58, 32])).map (·.length)).sum + (Txt.split (T l) (T [58, 32])).length ≤ l.length + 1 := by
  obtain ⟨ps, e, hj, hne, _⟩ := split_T l
  rw [e, sum_T, List.length_map]
  have := joinL_len [58, 32] ps hne
  rw [hj] at this
  have hp : 0 < ps.length := List.length_pos_iff.mpr hne
  simp only [List.length_cons, List.length_nil] at this
  (first | lia | omega)
theorem words_weight_T (l : List Nat) : ((Txt.words (T l)).map (·.length)).sum + (Txt.words (T l)).length ≤ l.length + 1 := by
  have := StrLaws.words_weight (T l)
  rw [T_len] at this
  exact this
end Mine
end
section -- Pl4
open PySem PySem.W PyProof.Rows
set_option maxRecDepth 100000
namespace Mine
theorem capGo_get : ∀ (l : List Nat) (fr col : Bool) (k c : Nat), l[k]? = some c → (capGo fr col l)[k]? = some (if (stGo fr col (l.take k)).1 then up c else lo c)
  | a :: r, fr, col, 0, c, h => by
    simp at h; subst h
    simp [capGo, stGo]
  | a :: r, fr, col, k + 1, c, h => by
    have ih := capGo_get r (col && a == 32) (a == 58) k c (by simpa using h)
    simpa [capGo, stGo] using ih
theorem st_two (p : List Nat) (fr col : Bool) (c d : Nat) : (stGo fr col (p ++ [c, d])).1 = (c == 58 && d == 32) := by
  rw [stGo_app]; rfl
theorem fresh_at (l : List Nat) (k : Nat) (hk : k ≤ l.length) : (stGo true false (l.take k)).1 = (k == 0 || (l.drop (k - 2)).take (k - (k - 2)) == [58, 32]) := by
  match k with
  | 0 => rfl
  | 1 =>
    obtain ⟨c, hc⟩ : ∃ c, l.take 1 = [c] := by
      cases l with
      | nil => simp at hk
      | cons c r => exact ⟨c, rfl⟩
    rw [hc]
    simp [stGo, hc]
  | k + 2 =>
    have e : l.take (k + 2) = l.take k ++ (l.drop k).take 2 := by
      rw [List.take_add]
    have h2 : ((l.drop k).take 2).length = 2 := by simp; (first | lia | omega)
    match hq : (l.drop k).take 2, h2 with
    | [c, d], _ =>
      rw [e, hq, st_two]
      have e2 : k + 2 - (k + 2 - 2) = 2 := by (first | lia | omega)
      have e3 : k + 2 - 2 = k := by (first | lia | omega)
      rw [e2, e3, hq]
      have : (k + 2 == 0) = false := rfl
      rw [this, Bool.false_or]
      simp [Bool.beq_eq_decide_eq]
theorem item_T (l : List Nat) (k : Nat) (c : Nat) (h : l[k]? = some c) : Txt.item (T l) (k : Int) = ⟨#[c]⟩ := by
  have hlt := (List.getElem?_eq_some_iff.mp h).1
  have e : seqIndex? (k : Int) (T l).length = some k := by
    unfold seqIndex?
    rw [T_len]
    simp [hlt, show ¬ ((k : Int) < 0) from by (first | lia | omega)]
  unfold Txt.item Txt.charAt
  rw [e]
  simp [T, h]
noncomputable def maxI (k : Int) : Int := if 0 > k - 2 then 0 else k - 2
theorem slice_mark (l : List Nat) (k : Nat) (hk : k ≤ l.length) : (Txt.slice (T l) (some (if (0 : Int) > (k : Int) - 2 then 0 else (k : Int) - 2)) (some (k : Int)) == Str.ofString ": ") = ((l.drop (k - 2)).take (k - (k - 2)) == [58, 32]) := by
  have e : (if (0 : Int) > (k : Int) - 2 then (0 : Int) else (k : Int) - 2) = ((k - 2 : Nat) : Int) := by split <;> (first | lia | omega)
  rw [e]
  have h := slice_closesL (x := T l) (i := ((k - 2 : Nat) : Int)) (j := (k : Int)) (by (first | lia | omega)) (by (first | lia | omega)) (by rw [T_len]; (first | lia | omega))
  have h := eq_of_beq h
  rw [h, T_cps]
  have e2 : ((k : Int) - ((k - 2 : Nat) : Int)).toNat = k - (k - 2) := by (first | lia | omega)
  have e3 : (((k - 2 : Nat) : Int)).toNat = k - 2 := by (first | lia | omega)
  rw [e2, e3, show Str.ofString ": " = T [58, 32] from by decide +kernel]
  show (T _ == T _) = _
  rw [T_eq]
  by_cases hh : List.take (k - (k - 2)) (List.drop (k - 2) l) = [58, 32]
  · simp [hh]
  · simp [hh]
theorem cap_step {l : List Nat} {x a y : Str} {pre : List Int} {kN : Int} (hx : T l = x) (hf : ∀ c ∈ l, Fine c) (hx1 : x.length ≤ 4000) (hN : kN = 0 + (pre.length : Int)) (hlt : pre.length < ((x.length : Int) - 0).toNat)
    (hinv : a = T ((capL l).take pre.length)) (_hl : a.length ≤ 4000)
    (hy : (y = Txt.upper (Txt.item x kN) ∧ (kN = 0 ∨ (Txt.slice x (some (if (0 : Int) > kN - 2 then 0 else kN - 2)) (some kN) == Str.ofString ": ") = true)) ∨
      (y = Txt.lower (Txt.item x kN) ∧ kN ≠ 0 ∧ (Txt.slice x (some (if (0 : Int) > kN - 2 then 0 else kN - 2)) (some kN) == Str.ofString ": ") = false)) :
    a ++ y = T ((capL l).take (pre ++ [kN]).length) ∧ (a ++ y).length ≤ 4000 := by
  subst hx
  subst hinv
  rw [T_len] at hlt hx1
  have hk : pre.length < l.length := by (first | lia | omega)
  rw [Int.zero_add] at hN
  subst hN
  obtain ⟨c, hc⟩ : ∃ c, l[pre.length]? = some c := ⟨_, List.getElem?_eq_getElem hk⟩
  have hF := hf c (List.mem_of_getElem? hc)
  have hg := capGo_get l true false pre.length c hc
  rw [fresh_at l _ (Nat.le_of_lt hk)] at hg
  rw [slice_mark l _ (Nat.le_of_lt hk), item_T l _ c hc, upper_one c hF, lower_one c hF] at hy
  have hyc : y = T [if (pre.length == 0 || (l.drop (pre.length - 2)).take (pre.length - (pre.length - 2)) == [58, 32]) then up c else lo c] := by
    rcases hy with ⟨rfl, h⟩ | ⟨rfl, h1, h2⟩
    · rcases h with h | h
      · have : pre.length = 0 := by (first | lia | omega)
        rw [this]; rfl
      · rw [h, Bool.or_true]; rfl
    · have : (pre.length == 0) = false := beq_eq_false_iff_ne.mpr (by (first | lia | omega))
      rw [this, h2]; rfl
  rw [hyc, T_app]
  have e : (capL l).take (pre ++ [((pre.length : Nat) : Int)]).length = (capL l).take pre.length ++ [if (pre.length == 0 || (l.drop (pre.length - 2)).take (pre.length - (pre.length - 2)) == [58, 32]) then up c else lo c] := by
    rw [List.length_append, List.length_singleton, List.take_add_one]
    show _ ++ ((capGo true false l)[pre.length]?).toList = _
    rw [hg]; rfl
  rw [← e]
  refine ⟨rfl, ?_⟩
  rw [T_len, List.length_take, capL_len]
  (first | lia | omega)
end Mine
end
section -- Ls
open PySem PySem.W PyProof.Rows
set_option maxRecDepth 100000
namespace Mine
section
variable {prog : Program} {w : World} {A : Around} {E : Value → Shared → Prop} {s : Shared}

/-- l[-1] = v -/
theorem setLast_list {l : Addr} {items : Array Value} {n : Nat} {k : Int} {t : Tok} {v : Value} {Q : Unit → Shared → Prop} (ho : s.heap.get? l = some (listOf items n)) (hk : k = -1) (hn : 0 < items.size)
    (hQ : Q () { s with heap := s.heap.update l (Obj.mapSeq (·.setIfInBounds (items.size - 1) v)) }) : wpAny (model prog w) A (setItem (.ref l) (.int k t) v) Q E s := by
  subst hk
  have hl : s.heap.IsList l items := PySem.IsL.isList (n := n) ho
  unfold setItem
  refine wpAny_holding ?_
  refine wpAny_bind (wpAny_sequenceKey hl.typeIs (by decide) ?_)
  refine wpAny_bind (wpAny_callSpecial?_slot (name := Str.ofString "__setitem__") hl.typeIs slot_list_setitem
    (wpAny_call_entry slot_list_setitem hl.typeIs entry_list_setitem ?_ (args_list_setitem _ _ _)))
  show wpAny _ _ (Builtin.List.listSubscript? (.int (-1) t) >>= _) _ _ s
  refine wpAny_bind (wpAny_listSubscript_int (fitsIndex_neg (by decide) (by decide)) ?_)
  have hidx : seqIndex? (Int.negSucc 0) items.size = some (items.size - 1) := by
    have := seqIndex_neg (k := -1) (n := items.size) (by decide) (by (first | lia | omega))
    rw [show (-1 + (items.size : Int)).toNat = items.size - 1 from by (first | lia | omega)] at this
    exact this
  have hx : items[items.size - 1]? = some (items[items.size - 1]'(by (first | lia | omega))) := Array.getElem?_eq_getElem (by (first | lia | omega))
  show wpAny _ _ ((Builtin.List.listItems (.ref l) >>= fun xs => pure ((seqIndex? (Int.negSucc 0) xs.size).bind fun i => xs[i]?.map (i, ·))) >>= _) _ _ s
  refine wpAny_bind (wpAny_bind ?_)
  show wpAny _ _ (seqItems? (.ref l) >>= _) _ _ s
  refine wpAny_bind (wpAny_seqItems ho rfl (wpAny_pure (wpAny_pure ?_)))
  rw [hidx]
  simp only [Option.bind_some, hx, Option.map_some]
  show wpAny _ _ (setSeqItemAt l (items.size - 1) v >>= _) _ _ s
  refine wpAny_bind (wpAny_setSeqItemAt ho rfl ?_)
  first
    | exact wpAny_bind (wpAny_pure (wpAny_pure ⟨.none, rfl, wpAny_pure hQ⟩))
    | exact wpAny_pure ⟨.none, rfl, wpAny_pure hQ⟩
end
section
variable {prog : Program} {w : World} {A : Around} {E : Value → Shared → Prop} {s : Shared} {h₀ : Heap} {L D : Addr} {m : Str → Option Value} {news news' : List (Addr × Obj)} {vs : List Value} {n : Nat} {k : Int} {t : Tok}
theorem set_last {v : Value} {Q : Unit → Shared → Prop} (F : Fr h₀ L s.heap m) (N : News h₀ L s.heap news) (U : Upd D (listOf vs.toArray n) (listOf (vs.dropLast ++ [v]).toArray n) news news') (hne : vs ≠ []) (hk : k = -1)
    (h : ∀ h', Fr h₀ L h' m → News h₀ L h' news' → Q () { s with heap := h' }) : wpAny (model prog w) A (setItem (.ref D) (.int k t) v) Q E s := by
  obtain ⟨pre, post, rfl, rfl, a, b⟩ := U.split
  have z := N (D, listOf vs.toArray n) (List.mem_append.mpr (.inr (.head _)))
  have hp : 0 < vs.length := List.length_pos_iff.mpr hne
  refine setLast_list z.1 hk (by rw [List.size_toArray]; exact hp) (h _ (F.change (Heap.SameBut.update ..) z.2.1 z.2.2) (ki_turn _ N a b ?_ ?_))
  · show vs.toArray.setIfInBounds (vs.toArray.size - 1) v = (vs.dropLast ++ [v]).toArray
    apply Array.toList_inj.mp
    rw [Array.toList_setIfInBounds, List.size_toArray]
    show vs.set (vs.length - 1) v = vs.dropLast ++ [v]
    refine List.ext_getElem? fun i => ?_
    rw [List.getElem?_set]
    by_cases hi : i = vs.length - 1
    · subst hi
      rw [if_pos rfl, if_pos (by (first | lia | omega)), List.getElem?_append_right (by rw [List.length_dropLast]; (first | lia | omega)), List.length_dropLast]
      simp
    · rw [if_neg (fun h => hi h.symm)]
      by_cases hlt : i < vs.length - 1
      · rw [List.getElem?_append_left (by rw [List.length_dropLast]; exact hlt), List.dropLast_eq_take, List.getElem?_take_of_lt hlt]
      · rw [List.getElem?_eq_none (by (first | lia | omega)), List.getElem?_eq_none (by rw [List.length_append, List.length_dropLast, List.length_singleton]; (first | lia | omega))]
  · rw [List.size_toArray, List.size_toArray, List.length_append, List.length_dropLast, List.length_singleton, show vs.length - 1 + 1 = vs.length from by (first | lia | omega)]
    simp
theorem sub_last {value slice : PySem.Expr} {xs : List Str} {Q : Value → Shared → Prop} (N : News h₀ L s.heap news) (hm : (D, listOf vs.toArray n) ∈ news) (hS : StrsAre vs xs) (hne : xs ≠ []) (hk : k = -1) (h : ∀ t', Q (.str (xs.getLast?.getD Str.empty) t') s)
    (hs : subscripted slice false (.ref D) (.int k t) = operate [.ref D, .int k t] (getItem (.ref D) (.int k t)) := by with_unfolding_all rfl) :
    wpAny (model prog w) A (subscriptTail value slice (.ref D) (.int k t)) Q E s := by
  have hl : s.heap.IsList D vs.toArray := PySem.IsL.isList (n := n) (N _ hm).1
  have hlen := hS.length
  have hp : 0 < xs.length := List.length_pos_iff.mpr hne
  obtain ⟨t', e⟩ := hS.get (xs.length - 1) (xs.getLast?.getD Str.empty) (by rw [List.getLast?_eq_getElem?, List.getElem?_eq_getElem (by (first | lia | omega))]; rfl)
  refine tail_any hl.typeIs slot_list_getitem.lookup (wpAny_getItem_list_neg hl (x := .str (xs.getLast?.getD Str.empty) t') (by (first | lia | omega)) (by rw [List.size_toArray]; (first | lia | omega)) (by (first | lia | omega)) ?_ (h t')) hs
  subst hk
  rw [List.size_toArray, hlen, show (-1 + (xs.length : Int)).toNat = xs.length - 1 from by (first | lia | omega)]
  simpa using e
theorem StrsAre.setLast {x : Str} {vs : List Value} {xs : List Str} (h : StrsAre vs xs) : StrsAre (vs.dropLast ++ [.str x t]) (xs.dropLast ++ [x]) := by
  have e : xs.dropLast = xs.take (vs.length - 1) := by rw [List.dropLast_eq_take, h.length]
  rw [List.dropLast_eq_take, e]
  exact (h.take' _).append' (.cons _ _ .nil)
end
end Mine
end
section -- Cn2
open PySem PySem.W PySem.Calls PyProof.Rows
namespace Mine
set_option maxRecDepth 100000
/-- as Con, in a frame over which no code is guarded (there the library's laws of repr hold) -/
noncomputable def Con1 (w : World) (mean : ExcName → Option Value) (mg mb : Str → Option Value) (dn du : Nat) (fn : Value) (vs : List Value) (kw : List (Str × Value)) (Pre : Heap → Prop) (Post : Heap → Heap → Value → Prop) : Prop :=
  ∀ (dp un : Nat) (cn : Str) (cs : Scope) (a : Addr) (ccd : Value) (cl : List (Str × Addr)) (outer : List Env) (A₀ : Around) (base h₀ : Heap) (L : Addr) (m : Str → Option Value) (s : Shared) (Q E : Value → Shared → Prop),
    Below A₀ base outer h₀ → Fr h₀ L s.heap m → (Mine.hd.heap_39 w.params).In h₀ → Top Mine.hd.view_39 loose0 mean mg mb h₀ → cs.kind = .function → Giv Pre s.heap → dp + dn < recursionLimit → un + du < cLine →
    Ret s Post Q →
    wpAny (model PySem.Challenge.rw_ik0032_01.row.prog w) (ktrTop dp un (some []) cn cs L a ccd cl outer) (call fn vs kw) Q E s

theorem Con.one {w : World} {mean : ExcName → Option Value} {mg mb : Str → Option Value} {dn du : Nat} {fn : Value} {vs : List Value} {kw : List (Str × Value)} {Pre : Heap → Prop} {Post : Heap → Heap → Value → Prop}
    (C : Con w mean mg mb dn du fn vs kw Pre Post) : Con1 w mean mg mb dn du fn vs kw Pre Post :=
  fun dp un cn cs a ccd cl outer A₀ base h₀ L m s Q E => C dp un (some []) cn cs a ccd cl outer A₀ base h₀ L m s Q E

theorem Con1.use {w : World} {mean : ExcName → Option Value} {mg mb : Str → Option Value} {dn du : Nat} {fn : Value} {vs : List Value} {kw : List (Str × Value)} {Pre : Heap → Prop} {Post : Heap → Heap → Value → Prop}
    (C : Con1 w mean mg mb dn du fn vs kw Pre Post) {dp un : Nat} {cn : Str} {cs : Scope} {a : Addr} {ccd : Value} {cl : List (Str × Addr)} {outer : List Env} {A₀ : Around} {base h₀ : Heap} {L : Addr} {m : Str → Option Value} {s : Shared} {Q E : Value → Shared → Prop} {news : List (Addr × Obj)}
    (B : Below A₀ base outer h₀) (F : Fr h₀ L s.heap m) (X : (Mine.hd.heap_39 w.params).In h₀) (T : Top Mine.hd.view_39 loose0 mean mg mb h₀) (hk : cs.kind = .function) (N : News h₀ L s.heap news) (hp : Giv Pre s.heap) (hd : dp + dn < recursionLimit) (hu : un + du < cLine)
    (ret : ∀ v (h' : Heap) (tk' : Nat), Post s.heap h' v → Fr h₀ L h' m → News h₀ L h' news → (∀ b o, s.heap.get? b = some o → h'.get? b = some o) → Q v { s with heap := h', toks := tk' }) :
    wpAny (model PySem.Challenge.rw_ik0032_01.row.prog w) (ktrTop dp un (some []) cn cs L a ccd cl outer) (call fn vs kw) Q E s :=
  C _ _ _ _ _ _ _ _ _ _ _ _ _ _ _ _ B F X T hk hp hd hu ⟨fun v h' tk' st po => ret v h' tk' po (F.keeps st) (N.keepsAll st) st⟩

noncomputable def listL (ks : List (List Nat)) : List Nat := 91 :: (joinL [44, 32] (ks.map qt) ++ [93])

theorem reprChar_esc : ∀ c ∈ signs14, Builtin.Str.reprChar 39 c = esc c := by decide +kernel
theorem signs_no39 : ∀ c ∈ signs14, c ≠ 39 := by decide
theorem repr_go (q : Nat) : ∀ (l : List Nat) (acc : Array Nat), l.foldl (fun out c => out ++ (Builtin.Str.reprChar q c).toArray) acc = acc ++ (l.flatMap (Builtin.Str.reprChar q)).toArray
  | [], acc => by simp
  | c :: r, acc => by
    rw [List.foldl_cons, repr_go q r]
    simp
theorem flat_esc : ∀ l : List Nat, (∀ c ∈ l, c ∈ signs14) → l.flatMap (Builtin.Str.reprChar 39) = l.flatMap esc
  | [], _ => rfl
  | c :: r, h => by
    rw [List.flatMap_cons, List.flatMap_cons, reprChar_esc c (h c (List.mem_cons_self ..)), flat_esc r (fun x hx => h x (List.mem_cons_of_mem _ hx))]
theorem repr_T (l : List Nat) (h : ∀ c ∈ l, c ∈ signs14) : reprText (T l) = T (qt l) := by
  have hq : reprQuote (T l) = 39 := by
    unfold reprQuote
    have : (T l).cps.contains 39 = false := by
      rw [Bool.eq_false_iff]
      intro e
      have : 39 ∈ l := by simpa [T] using e
      exact signs_no39 _ (h _ this) rfl
    rw [this]; rfl
  unfold reprText
  rw [hq, ← Array.foldl_toList, T_cps, repr_go, flat_esc l h]
  simp [T, qt]
theorem shownAll_T : ∀ ks : List (List Nat), (∀ k ∈ ks, ∀ c ∈ k, c ∈ signs14) → PyData.shownAll ((ks.map T).map PyData.str) = (ks.map qt).map T
  | [], _ => rfl
  | a :: r, h => by
    simp only [List.map_cons, PyData.shownAll, PyData.shown]
    rw [repr_T a (h a (List.mem_cons_self ..)), shownAll_T r (fun k hk => h k (List.mem_cons_of_mem _ hk))]
theorem shown_T (ks : List (List Nat)) (h : ∀ k ∈ ks, ∀ c ∈ k, c ∈ signs14) : (PyData.list ((ks.map T).map PyData.str)).shown = T (listL ks) := by
  rw [PyData.shown, shownAll_T ks h, listText_eq_join, show (", " : Str) = T [44, 32] from rfl, join_T, show ("[" : Str) = T [91] from rfl, show ("]" : Str) = T [93] from rfl, T_app, T_app]
  rfl
theorem showable_T : ∀ xs : List Str, PyData.showableAll (xs.map PyData.str) = true
  | [] => rfl
  | a :: r => by simp only [List.map_cons, PyData.showableAll, PyData.showable, showable_T r]; rfl
theorem hasDict_T : ∀ xs : List Str, PyData.hasDictAll (xs.map PyData.str) = false
  | [] => rfl
  | a :: r => by simp only [List.map_cons, PyData.hasDictAll, PyData.hasDict, hasDict_T r]; rfl
theorem esc_len (c : Nat) : 1 ≤ (esc c).length ∧ (esc c).length ≤ 4 := by unfold esc; repeat' split
                                                                          all_goals (simp only [List.length_cons, List.length_nil]; (first | lia | omega))
theorem flat_len : ∀ l : List Nat, l.length ≤ (l.flatMap esc).length ∧ (l.flatMap esc).length ≤ 4 * l.length
  | [] => by simp
  | c :: r => by
    have := flat_len r
    have := esc_len c
    rw [List.flatMap_cons, List.length_append, List.length_cons]; (first | lia | omega)
theorem qt_len (l : List Nat) : l.length + 2 ≤ (qt l).length ∧ (qt l).length ≤ 4 * l.length + 2 := by
  have := flat_len l
  simp only [qt, List.length_cons, List.length_append, List.length_nil]; (first | lia | omega)
theorem joinL_le (sep : List Nat) : ∀ ks : List (List Nat), (joinL sep ks).length ≤ (ks.map List.length).sum + sep.length * ks.length
  | [] => by simp [joinL]
  | [a] => by simp [joinL]
  | a :: b :: r => by
    have := joinL_le sep (b :: r)
    simp only [joinL, List.length_append, List.map_cons, List.sum_cons, List.length_cons, Nat.mul_add, Nat.mul_one] at this ⊢
    (first | lia | omega)
theorem qts_len : ∀ ks : List (List Nat), ((ks.map qt).map List.length).sum ≤ 4 * (ks.map List.length).sum + 2 * ks.length
  | [] => by simp
  | a :: r => by
    have := qts_len r
    have := qt_len a
    simp only [List.map_cons, List.sum_cons, List.length_cons] at *
    (first | lia | omega)
theorem listL_len (ks : List (List Nat)) : (listL ks).length ≤ 4 * (ks.map List.length).sum + 4 * ks.length + 2 := by
  have h1 := joinL_le [44, 32] (ks.map qt)
  have h2 := qts_len ks
  simp only [listL, List.length_cons, List.length_append, List.length_nil, List.length_map] at h1 ⊢
  (first | lia | omega)
theorem depth_T : ∀ xs : List Str, PyData.depthAll (xs.map PyData.str) ≤ 1
  | [] => by simp [PyData.depthAll]
  | a :: r => by
    have := depth_T r
    simp only [List.map_cons, PyData.depthAll, PyData.depth]; (first | lia | omega)
section
variable {prog : Program} {w : World} {A : Around} {E : Value → Shared → Prop} {s : Shared} {h₀ : Heap} {L l : Addr} {m : Str → Option Value} {news : List (Addr × Obj)} {ks : List (List Nat)} {vs : List Value} {Q : Value → Shared → Prop}
theorem reads_T {h : Heap} (hl : h.IsList l vs.toArray) (hS : StrsAre vs (ks.map T)) : Reads h (.ref l) (.list ((ks.map T).map PyData.str)) [l] := by
  obtain ⟨o, h1, h2, n, h3⟩ := hl
  exact .list h1 h2 h3 (by simpa using hS.reads h)
theorem repr_list (F : Fr h₀ L s.heap m) (N : News h₀ L s.heap news) (hl : s.heap.IsList l vs.toArray) (hS : StrsAre vs (ks.map T)) (hc : ∀ k ∈ ks, ∀ c ∈ k, c ∈ signs14) (hz : (ks.map List.length).sum + ks.length ≤ 4000) (hg : A.guards = some []) (hu : A.units + 20 < cLine)
    (h : ∀ h' u tk, Fr h₀ L h' m → News h₀ L h' news → (∀ b o, s.heap.get? b = some o → h'.get? b = some o) → Q (.str (T (listL ks)) u) { s with heap := h', toks := tk }) : wpAny (model prog w) A (call (.builtin "repr") [.ref l]) Q E s := by
  refine repr_of_reads' (reads_T hl hS) (by rw [PyData.showable]; exact showable_T _) (PyData.noDict_hsm (by rw [PyData.hasDict]; exact hasDict_T _)) hg ?_ (fun _ _ e => e) (fun h' u tk hk => ?_) ?_
  · have := depth_T (ks.map T)
    simp only [PyData.depth]; (first | lia | omega)
  · rw [shown_T ks hc]; exact h h' u tk (F.keeps hk) (N.keepsAll hk) hk
  · rw [shown_T ks hc, T_len, sizeLine_eq]; have := listL_len ks; (first | lia | omega)
theorem str_list (F : Fr h₀ L s.heap m) (N : News h₀ L s.heap news) (hl : s.heap.IsList l vs.toArray) (hS : StrsAre vs (ks.map T)) (hc : ∀ k ∈ ks, ∀ c ∈ k, c ∈ signs14) (hz : (ks.map List.length).sum + ks.length ≤ 4000) (hg : A.guards = some []) (hu : A.units + 20 < cLine)
    (h : ∀ h' u tk, Fr h₀ L h' m → News h₀ L h' news → (∀ b o, s.heap.get? b = some o → h'.get? b = some o) → Q (.str (T (listL ks)) u) { s with heap := h', toks := tk }) : wpAny (model prog w) A (call (.type "str") [.ref l]) Q E s := by
  refine str_of_reads (reads_T hl hS) (by rw [PyData.showable]; exact showable_T _) (PyData.noDict_hsm (by rw [PyData.hasDict]; exact hasDict_T _)) hg ?_ (fun _ _ e => e) (fun h' u tk hk => ?_) ?_
  · have := depth_T (ks.map T)
    simp only [PyData.depth]; (first | lia | omega)
  · rw [shown_T ks hc]; exact h h' u tk (F.keeps hk) (N.keepsAll hk) hk
  · rw [shown_T ks hc, T_len, sizeLine_eq]; have := listL_len ks; (first | lia | omega)
theorem repr_text (N : True) {l : List Nat} {t : Tok} (hc : ∀ c ∈ l, c ∈ signs14) (hz : l.length ≤ 4000) (h : Q (.str (T (qt l)) s.toks) { s with toks := s.toks + 1 }) : wpAny (model prog w) A (call (.builtin "repr") [.str (T l) t]) Q E s := by
  refine PySem.P.repr_of_str (by rw [repr_T l hc]; exact h) ?_
  rw [repr_T l hc, T_len, sizeLine_eq]; have := qt_len l; (first | lia | omega)
end
end Mine
end
section -- Rt
open PySem PySem.W PySem.Calls PyProof.Rows
set_option maxRecDepth 100000
namespace Mine
theorem repr_none : reprText (T [78, 111, 110, 101]) = T (qt [78, 111, 110, 101]) := by decide +kernel
section
variable {prog : Program} {w : World} {A : Around} {E : Value → Shared → Prop} {s : Shared} {Q : Value → Shared → Prop}
theorem repr_textN {t : Tok} (h : Q (.str (T (qt [78, 111, 110, 101])) s.toks) { s with toks := s.toks + 1 }) : wpAny (model prog w) A (call (.builtin "repr") [.str (T [78, 111, 110, 101]) t]) Q E s := by
  refine PySem.P.repr_of_str (by rw [repr_none]; exact h) ?_
  rw [repr_none, T_len, sizeLine_eq]; decide
end
end Mine
end
section -- Vl
open PySem PySem.W PySem.Calls PyProof.Rows
namespace Mine
theorem off_Vl : True := by (w_top off); trivial
set_option maxRecDepth 100000
/-- the signs of a text -/
noncomputable def cd (x : Str) : List Nat := x.cps.toList
theorem T_cd (x : Str) : T (cd x) = x := T_of x
noncomputable def boolL (b : Bool) : List Nat := if b then [84, 114, 117, 101] else [70, 97, 108, 115, 101]
noncomputable def intL (i : Int) : List Nat := cd (Str.ofString (toString i))
theorem T_bool (b : Bool) : T (boolL b) = if b then Str.ofString "True" else Str.ofString "False" := by cases b <;> decide +kernel
theorem T_int (i : Int) : T (intL i) = Str.ofString (toString i) := T_cd _
/-- the values that occur, and what str gives for them (none: None) -/
inductive Val (h : Heap) : Value → Option (List Nat) → Prop
  | none : Val h .none none
  | text (x : List Nat) (t : Tok) (hx : x.length ≤ 2000) : Val h (.str (T x) t) (some x)
  | bool (b : Bool) : Val h (.bool b) (some (boolL b))
  | int (i : Int) (t : Tok) (h1 : -20 ≤ i) (h2 : i ≤ 29) : Val h (.int i t) (some (intL i))
  | list (l : Addr) (vs : List Value) (ks : List (List Nat)) (hl : h.IsList l vs.toArray) (hi : StrsAre vs (ks.map T)) (hlen : (ks.map List.length).sum + ks.length ≤ 100) (hal : ∀ k ∈ ks, ∀ c ∈ k, c ∈ signs14) : Val h (.ref l) (some (listL ks))
theorem Val.at {h h' : Heap} {v : Value} {o : Option (List Nat)} (x : Val h v o) (k : ∀ b o, h.get? b = some o → h'.get? b = some o) : Val h' v o := by
  cases x with
  | none => exact .none
  | text x t hx => exact .text x t hx
  | bool b => exact .bool b
  | int i t h1 h2 => exact .int i t h1 h2
  | list l vs ks hl hi hlen hal => exact .list l vs ks (hl.at fun o => k _ o) hi hlen hal
theorem Giv.imp {P P' : Heap → Prop} {h : Heap} (g : Giv P h) (k : P h → P' h) : Giv P' h := ⟨k g.out⟩
/-- values with what repr writes of them -/
inductive Rp (h : Heap) : Value → List Nat → Prop
  | none : Rp h .none [78, 111, 110, 101]
  | textN (t : Tok) : Rp h (.str (T [78, 111, 110, 101]) t) (qt [78, 111, 110, 101])
  | text (x : List Nat) (t : Tok) (hx : x.length ≤ 4000) (hal : ∀ c ∈ x, c ∈ signs14) : Rp h (.str (T x) t) (qt x)
  | bool (b : Bool) : Rp h (.bool b) (boolL b)
  | int (i : Int) (t : Tok) (h1 : -20 ≤ i) (h2 : i ≤ 29) : Rp h (.int i t) (intL i)
  | list (l : Addr) (vs : List Value) (ks : List (List Nat)) (hl : h.IsList l vs.toArray) (hi : StrsAre vs (ks.map T)) (hlen : (ks.map List.length).sum + ks.length ≤ 100) (hal : ∀ k ∈ ks, ∀ c ∈ k, c ∈ signs14) : Rp h (.ref l) (listL ks)
theorem Rp.at {h h' : Heap} {v : Value} {q : List Nat} (x : Rp h v q) (k : ∀ b o, h.get? b = some o → h'.get? b = some o) : Rp h' v q := by
  cases x with
  | none => exact .none
  | textN t => exact .textN t
  | text x t hx hal => exact .text x t hx hal
  | bool b => exact .bool b
  | int i t h1 h2 => exact .int i t h1 h2
  | list l vs ks hl hi hlen hal => exact .list l vs ks (hl.at fun o => k _ o) hi hlen hal
section
variable {prog : Program} {w : World} {A : Around} {E : Value → Shared → Prop} {s : Shared} {Q : Value → Shared → Prop} {h₀ : Heap} {L : Addr} {m : Str → Option Value} {news : List (Addr × Obj)} {v : Value} {o : Option (List Nat)} {q : List Nat}
theorem str_V (F : Fr h₀ L s.heap m) (N : News h₀ L s.heap news) (k : Val s.heap v o) (hg : A.guards = some []) (hu : A.units + 20 < cLine)
    (h : ∀ h' u tk, Fr h₀ L h' m → News h₀ L h' news → (∀ b o, s.heap.get? b = some o → h'.get? b = some o) → Q (.str (T (o.getD [78, 111, 110, 101])) u) { s with heap := h', toks := tk }) : wpAny (model prog w) A (call (.type "str") [v]) Q E s := by
  cases k with
  | none => walk1; exact h _ _ _ F N fun _ _ e => e
  | text x t hx => walk1; exact h _ _ _ F N fun _ _ e => e
  | bool b =>
    replace h := h
    dsimp only [Option.getD] at h
    rw [T_bool] at h
    walk1
    exact h _ _ _ F N fun _ _ e => e
  | int i t h1 h2 =>
    dsimp only [Option.getD] at h
    rw [T_int] at h
    walk1
    exact h _ _ _ F N fun _ _ e => e
  | list l vs ks hl hi hlen hal => exact str_list F N hl hi hal (by (first | lia | omega)) hg hu h
theorem repr_V (F : Fr h₀ L s.heap m) (N : News h₀ L s.heap news) (k : Rp s.heap v q) (hg : A.guards = some []) (hu : A.units + 20 < cLine)
    (h : ∀ h' u tk, Fr h₀ L h' m → News h₀ L h' news → (∀ b o, s.heap.get? b = some o → h'.get? b = some o) → Q (.str (T q) u) { s with heap := h', toks := tk }) : wpAny (model prog w) A (call (.builtin "repr") [v]) Q E s := by
  cases k with
  | none => walk1; exact h _ _ _ F N fun _ _ e => e
  | textN t => exact repr_textN (h _ _ _ F N fun _ _ e => e)
  | text x t hx hal => exact repr_text trivial hal hx (h _ _ _ F N fun _ _ e => e)
  | bool b =>
    rw [T_bool] at h
    walk1
    exact h _ _ _ F N fun _ _ e => e
  | int i t h1 h2 =>
    rw [T_int] at h
    walk1
    exact h _ _ _ F N fun _ _ e => e
  | list l vs ks hl hi hlen hal => exact repr_list F N hl hi hal (by (first | lia | omega)) hg hu h
end
end Mine
end
section -- Sx
open PySem PySem.Calls PyProof.Rows
namespace Mine
set_option maxRecDepth 100000
theorem sx_madeBy : Bind.madeBy (.type "SystemExit") = pure (some "BaseException.__new__") := by kernel_rfl
theorem sx_init : entryFor table "SystemExit.__init__" = some Builtin.«SystemExit.__init__» := entryFor_of_tree (by kernel_rfl)
theorem sx_madeHere : Bind.madeHere "BaseException.__new__" (.type "SystemExit") = pure () := by kernel_rfl
theorem sx_check : checkBuiltinCall "BaseException.__new__" ⟨[.type "SystemExit"], []⟩ = pure () := by kernel_rfl
theorem sx_new : entryFor table "BaseException.__new__" = some Builtin.«BaseException.__new__» := entryFor_of_tree (by kernel_rfl)
theorem sx_binit : entryFor table "BaseException.__init__" = some Builtin.«BaseException.__init__» := entryFor_of_tree (by kernel_rfl)
theorem sx_sig : Manifest.signature? "SystemExit.__init__" = some ⟨.positional, "*", "SystemExit", .self, [⟨"args", .varPos, false⟩]⟩ := by kernel_rfl
theorem sx_drop : ("BaseException.__new__" : String).dropRight 8 = "BaseException" := by decide +kernel
theorem sx_base : isSubtype (.type "SystemExit") (.type "BaseException") = pure true := by rw [isSubtype_type]; kernel_rfl
theorem sx_self : isSubtype (.type "SystemExit") (.type "SystemExit") = pure true := by rw [isSubtype_type]; kernel_rfl
theorem sx_attr : isSubtype (.type "SystemExit") (.type "AttributeError") = pure false := by rw [isSubtype_type]; kernel_rfl
theorem sx_name : isSubtype (.type "SystemExit") (.type "NameError") = pure false := by rw [isSubtype_type]; kernel_rfl
theorem sx_slot : Slot "SystemExit" "__init__" "SystemExit.__init__" := .of (owner := "SystemExit") (n := "__init__") (by rw [typeLookup_type, builtinLookup_eq_fast]; kernel_rfl) (by decide +kernel) (by decide +kernel) (by decide +kernel)
    (by first | exact .inl (by decide +kernel) | exact .inr (by decide +kernel)) (by rw [isSubtype_type]; kernel_rfl)
theorem sx_typeCall : checkTypeCall "SystemExit" ⟨[], []⟩ = pure () := by kernel_rfl
theorem sx_mro : (fastBuiltinMro "SystemExit").map (·.isEmpty) = some false := by kernel_rfl
theorem sx_mro' : ∃ l, mroOf (.type "SystemExit") = pure l ∧ l.isEmpty = false := by
  have h := sx_mro
  rw [mroOf_type]
  cases hm : fastBuiltinMro "SystemExit" with
  | none => rw [hm] at h; cases h
  | some l => rw [hm] at h; exact ⟨l, rfl, by simpa using h⟩
theorem sx_plain : plainId "BaseException.__new__" = true := by decide +kernel
theorem sx_ends : ("BaseException.__new__" : String).endsWith ".__new__" = true := by decide +kernel
theorem sx_canNew : (((Manifest.find? "SystemExit").bind (·.mro.findSome? fun (t : String) => (Manifest.find? t).bind fun b => if b.noNew then some true else if b.attrs.any (·.1 == "__new__") then some false else none)).getD false) = false := by decide +kernel
theorem sx_initKind : builtinKind "SystemExit.__init__" = some .slot := by decide +kernel
theorem sx_initSplit : splitId "SystemExit.__init__" = some ("SystemExit", "__init__") := by decide +kernel
theorem sx_meta : (Value.type ((Manifest.find? "SystemExit").elim "type" (·.metatype)) == Value.type "type") = true := by decide +kernel

section
variable {prog : Program} {w : World} {A : Around} {E : Value → Shared → Prop} {s : Shared}
theorem new_sys {Q : Value → Shared → Prop}
    (h : Q (.ref (s.heap.push { cls := .type "tuple", data := .seq #[] }).objs.size) { s with heap := (s.heap.push { cls := .type "tuple", data := .seq #[] }).push { cls := .type "SystemExit", data := .fields #[.ref s.heap.objs.size, .none, .none, .none, .bool false, .none] } }) :
    wpAny (model prog w) A (call (.builtin "BaseException.__new__") [.type "SystemExit"]) Q E s := by
  refine call_builtin_at sx_plain sx_new sx_check ?_
  unfold Builtin.«BaseException.__new__»
  refine PyProof.Rows.wpAt_bind (wpAt_owner rfl sx_ends (PyProof.Rows.wpAt_of_any ?_))
  dsimp only
  refine wpAny_bind (m := isType _) (wpAny_of_eq (a := true) rfl ?_)
  simp only [Bool.not_true, Bool.false_eq_true, if_false]
  refine wpAny_bind (wpAny_of_eq (by rw [sx_drop]; exact sx_base) ?_)
  simp only [Bool.not_true, Bool.false_eq_true, if_false]
  refine wpAny_bind (wpAny_of_eq sx_madeHere ?_)
  refine wpAny_bind (wpAny_of_eq (a := 0) ?own ?_)
  case own =>
    show (do
      if ← isSubtype (.type "SystemExit") (.type "AttributeError") then return 2
      if ← isSubtype (.type "SystemExit") (.type "NameError") then return 1
      return 0 : Sem Nat) = pure 0
    simp only [sx_attr, sx_name, pure_bind, Bool.false_eq_true, if_false]
  unfold newTuple
  refine wpAny_bind (wpAny_newObj_type (wpAny_bind (wpAny_newObj_type (wpAny_pure ⟨_, rfl, ?_⟩) (by size_fits))) (by size_fits))
  first
    | exact h
    | simpa using h

theorem check_sys {M : Model} {self : Value} {Q : Unit → Shared → Prop} (hT : s.TypeIs self "SystemExit") (hQ : Q () s) :
    wpAny M A (checkBuiltinCall "SystemExit.__init__" ⟨[self], []⟩) Q E s := by
  simp only [checkBuiltinCall, sx_initKind, sx_initSplit, sx_sig]
  refine wpAny_bind (wpAny_isInstance hT sx_self ?_)
  simp only [Bool.not_true, Bool.false_eq_true, if_false]
  unfold Bind.checkArgs
  dsimp only
  refine wpAny_bind (m := Bind.printed "*" true _ _) (printed_star (self := self) rfl hT fun full => ?_)
  refine wpAny_bind (m := Bind.printed "SystemExit" false _ _) (printed_name (by decide) ?_)
  show wpAny M A (Sem.onRaise (Bind.check _ full "SystemExit" _ []) _) Q E s
  rw [check_varPos]
  exact wpAny_pure hQ

theorem init_sys {e : Addr} {ob : Obj} {vs : Array Value} {t0 : Addr} {Q : Value → Shared → Prop}
    (he : s.heap.get? e = some ob) (hcls : ob.cls = .type "SystemExit") (hd : ob.data = .fields vs) (h0 : vs[0]? = some (.ref t0))
    (h : Q .none { s with heap := (s.heap.push { cls := .type "tuple", data := .seq #[] }).update e (Obj.mapFields (·.setIfInBounds 0 (.ref s.heap.objs.size))) }) :
    wpAny (model prog w) A (call (.builtin "SystemExit.__init__") [.ref e]) Q E s := by
  have hT : s.TypeIs (.ref e) "SystemExit" := ⟨ob, he, hcls⟩
  refine wpAny_call (codeAny_call_builtin sx_slot.plain sx_init (check_sys hT ?_))
  unfold Builtin.«SystemExit.__init__»
  dsimp only
  refine wpAny_bind (runValue_entry sx_binit ?_)
  unfold Builtin.«BaseException.__init__»
  dsimp only
  rw [if_neg (by simp)]
  unfold newTuple Builtin.BaseException.bexcPut
  have hsz : 0 < vs.size := (Array.getElem?_eq_some_iff.mp h0).1
  have he₁ := Heap.get?_push_of_some (h := s.heap) { cls := .type "tuple", data := .seq #[] } he
  refine wpAny_bind (wpAny_newObj_type (wpAny_bind (wpAny_bind (wpAny_field he₁ hd h0 (wpAny_bind (wpAny_setField he₁ hd hsz ?_))))) (by size_fits))
  refine wpAny_letGo (wpAny_pure ⟨_, rfl, ?_⟩)
  exact wpAny_bind (wpAny_rule (wpAny_pure h))

theorem call_sys {Q : Value → Shared → Prop} (h : ∀ h' e, Heap.NewExc s.heap h' e "SystemExit" → Q (.ref e) { s with heap := h' }) :
    wpAny (model prog w) A (call (.type "SystemExit") []) Q E s := by
  refine wpAny_call (codeAny_of_tree ?_)
  show wpAny _ _ (callAny (.type "SystemExit") ⟨[], []⟩) _ _ s
  simp only [callAny]
  refine wpAny_pure ⟨Code.quiet_builtin _ (by decide +kernel), codeAny_builtin entry_type_call ?_⟩
  rw [Around.under_plain (weight_type_call "SystemExit" _ _) (by first | rfl | kernel_rfl | decide +kernel)]
  unfold Builtin.«type.__call__»
  dsimp only
  rw [if_neg (by decide), if_neg (by rw [sx_canNew]; exact Bool.false_ne_true)]
  obtain ⟨l, hl, hle⟩ := sx_mro'
  refine wpAny_bind (wpAny_of_eq sx_typeCall (wpAny_bind (wpAny_of_eq hl ?_)))
  rw [if_neg (by rw [hle]; exact Bool.false_ne_true)]
  refine wpAny_bind (wpAny_of_eq sx_madeBy ?_)
  dsimp only
  refine wpAny_bind (wpAny_pure (wpAny_bind (wpAny_holding (new_sys ?_))))
  refine wpAny_bind (wpAny_isInstance (T := "SystemExit") ⟨_, Heap.get?_push_size _ rfl, rfl⟩ sx_self ?_)
  simp only [Bool.not_true, Bool.false_eq_true, if_false]
  refine wpAny_bind (wpAny_holding (wpAny_callSpecial?_slot (name := Str.ofString "__init__") (T := "SystemExit") ⟨_, Heap.get?_push_size _ rfl, rfl⟩ sx_slot
    (init_sys (Heap.get?_push_size _ rfl) rfl rfl rfl ?_)))
  dsimp only
  rw [if_neg (by simp)]
  refine wpAny_pure (h _ _ ⟨fun b o hb => ?_, Heap.get?_none_of_le (by simp), _, _,
    Heap.get?_update_self _ (Heap.get?_push_of_some _ (Heap.get?_push_size _ rfl)) (Obj.isFreed_of_fields (Obj.data_mapFields rfl _)), Obj.cls_mapFields _ _, by rw [Obj.data_mapFields rfl]; rfl⟩)
  rw [Heap.get?_update_other _ _ (Nat.ne_of_gt (Nat.lt_of_lt_of_le (Heap.lt_size hb) (by simp)))]
  exact Heap.get?_push_of_some _ (Heap.get?_push_of_some _ (Heap.get?_push_of_some _ hb))
end

section
variable {M : Model} {A : Around} {E : Value → Shared → Prop} {s : Shared} {env : Env}
/-- SystemExit() as a raise statement's word: what it makes goes on to where the raise goes -/
structure SysRaise (E : Value → Shared → Prop) (v : Value) (s₁ : Shared) : Prop where
  out : ∃ a ob vs, v = .ref a ∧ s₁.heap.get? a = some ob ∧ ob.cls = .type "SystemExit" ∧ ob.data = .fields vs ∧ vs[1]? = some .none ∧ E (.ref a) s₁
theorem call_sys_raise {prog : Program} {w : World} (h : ∀ h' e, Heap.NewExc s.heap h' e "SystemExit" → E (.ref e) { s with heap := h' }) : wpAny (model prog w) A (call (.type "SystemExit") []) (SysRaise E) E s :=
  call_sys fun h' e hx => by
    obtain ⟨ob, t, he, hcls, hd⟩ := hx.there
    exact ⟨e, ob, _, rfl, he, hcls, hd, rfl, h h' e hx⟩
theorem Raise_sys {e : PySem.Expr} {pos : Pos} {Q : Flow → Shared → Prop} (hh : A.handled = none)
    (h : wpAny M A (eval e env) (SysRaise E) E s) : wpAny M A (exec (.Raise (some e) none pos) env) Q E s := by
  show wpAny M A (do standAt pos; raiseStmt env (some (do let v ← eval e env; standAt pos; pure v)) none) Q E s
  refine wpAny_bind (wpAny_standAt ?_)
  unfold raiseStmt
  dsimp only
  refine wpAny_bind (wpAny_bind (wpAny_mono h (fun v s₁ h₁ => wpAny_bind (wpAny_standAt (wpAny_pure ?_))) fun _ _ x => x))
  obtain ⟨a, ob, vs, rfl, ha, hcls, hd, h1, hE⟩ := h₁
  have hT : s₁.TypeIs (.ref a) "SystemExit" := ⟨ob, ha, hcls⟩
  have hnt : ∀ {Q' : Bool → Shared → Prop}, Q' false s₁ → wpAny M A (isType (.ref a)) Q' E s₁ := by
    intro Q' hq
    simp only [isType, loadHead]
    refine wpAny_bind (wpAny_loadPart ha ?_)
    rw [hd]; exact wpAny_pure hq
  refine wpAny_bind (wpAny_pure ?_)
  dsimp only
  refine wpAny_bind (wpAny_holding ?_)
  unfold excFromValue isExcClass
  refine wpAny_bind (wpAny_bind (hnt ?_))
  simp only [Bool.false_eq_true, if_false]
  refine wpAny_pure ?_
  simp only [Bool.false_eq_true, if_false]
  refine wpAny_bind (wpAny_isInstance hT sx_base ?_)
  simp only [if_true]
  refine wpAny_pure ?_
  refine wpAny_bind (hnt ?_)
  simp only [Bool.false_eq_true, if_false]
  unfold raisedInstance
  refine wpAny_bind (wpAny_bind (wpAny_typeOf hT (wpAny_bind (m := typeOf (.type "SystemExit")) (wpAny_pure ?_))))
  rw [if_pos sx_meta]
  refine wpAny_pure ?_
  unfold setFlight raiseNew
  refine wpAny_bind (wpAny_bind (wpAny_field ha hd h1 ?_))
  rw [if_neg (by decide)]
  refine wpAny_pure (wpAny_bind (wpAny_handled ?_))
  rw [hh]
  first
    | exact wpAny_throw hE
    | exact wpAny_bind (wpAny_pure (wpAny_throw hE))
end
end Mine
end
section -- Cs
open PySem PySem.W PySem.Calls PyProof.Rows
namespace Mine
set_option maxRecDepth 100000
section
variable {prog : Program} {w : World} {A₀ A : Around} {s : Shared} {base h₀ : Heap} {L : Addr} {m : Str → Option Value} {env : Env} {K : Frag} {p : Program} {loose : List Str} {mean : ExcName → Option Value} {mg mb : Str → Option Value}
  {R : Result → Shared → Prop} {P : Heap → Prop} {name qual : Str} {params : Arguments} {body : List Stmt} {scope : Scope} {dV kV doc pm cdv ct oc : Value} {an od : Option Addr} {osl : Array (Option Value)} {f : Addr} {args : Args} {binds : List (Str × Value)}

/-- a def entered from the law's own frame over the caller's whole heap; an error that is met in it writes into the caller's frame's slots alone -/
theorem code_pureS (B : Below A₀ base [] h₀) (F : Fr h₀ L s.heap m) (X₀ : K.In h₀) (T : Top p loose mean mg mb h₀) (hA : A.frames = some [env]) (hf : env.frame = some L) (hke : env.scope.kind = .function)
    (ho : K.lookup f = some ⟨oc, od, .func (fnOf name qual params body scope dV kV doc pm an cdv ct), osl⟩) (hcd : codeIn K cdv qual = true) (hroom : A.depth < recursionLimit)
    (hbind : BindsTo s (fnOf name qual params body scope dV kV doc pm an cdv ct) args binds) (hloc : ∀ y ∈ binds, scope.names.lookup y.1 = some .local)
    (hP : Giv P s.heap)
    (h : ∀ g L' h₁ tk, 0 < tk → Giv P g → KtsTurn ([env].filterMap (·.frame)) s.heap g → Fr g L' h₁ (fun y => binds.reverse.lookup y) → News g L' h₁ [] → Below A base [env] g → K.In g → Top p loose mean mg mb g → KtsDicts ([env].filterMap (·.frame)) g →
      wpAny (model prog w) (A.deeper (envOf qual scope L' f cdv)) (execs body (envOf qual scope L' f cdv))
        (fun fl s' => Ends (fun v s' => R (.ok (.ret v)) s') (match fl with | .ret v => v | _ => .none) s')
        (fun e s' => wpAny (model prog w) (A.deeper (envOf qual scope L' f cdv)) (leaving (envOf qual scope L' f cdv) e) (fun _ s'' => R (.error e) s'') (fun e' s'' => R (.error e') s'') s')
        { s with heap := h₁, toks := tk })
    (hb1 : 0 < binds.length) (hco : scope.isCoroutine = false) (hgen : scope.isGenerator = false) (hk : scope.kind = .function)
    (hcell : ∀ x ∈ scope.names, x.2 ≠ .cell) : codeAny (model prog w) A (.call (.ref f) args) R s := by
  refine codeAny_call_def (fd := fnOf name qual params body scope dV kV doc pm an cdv ct) (body := body) (binds := binds) hroom ((X₀.keeps F.keep) _ _ ho) rfl (T.nolimit.keeps F.keep) (codeRec_of (X₀.keeps F.keep) hcd) rfl hbind hcell hloc (fun h₁ hns hk₁ => ?_) hco hgen hk
  have B₁ := pushX B F hf hke
  have B₂ : Below A base [env] s.heap := ⟨hA, B₁.stays, B₁.frames⟩
  refine h s.heap s.heap.objs.size h₁ _ (by (first | lia | omega)) hP KtsTurn.refl ⟨hns, hk₁, Nat.le_refl _⟩ News.nil B₂ (X₀.keeps F.keep) (T.keeps F.keep) fun b hb => ?_
  obtain ⟨o, es, n, ho, hd, _⟩ := F.ns
  rw [List.filterMap_cons, hf] at hb
  simp only [List.filterMap_nil, List.mem_singleton] at hb
  subst hb
  exact ⟨o, es, n, ho, hd⟩
end

/-- what the caller goes on with -/
structure RetS (fs : List Addr) (s : Shared) (Post : Heap → Heap → Value → Prop) (Q : Value → Shared → Prop) : Prop where
  out : ∀ v (g h' : Heap) (tk' : Nat), KtsTurn fs s.heap g → (∀ b o, g.get? b = some o → h'.get? b = some o) → Post s.heap h' v → Q v { s with heap := h', toks := tk' }

/-- as Con1, called from the law's own frame; what is raised within it may write into that frame's slots -/
noncomputable def ConS (w : World) (mean : ExcName → Option Value) (mg mb : Str → Option Value) (dn du : Nat) (fn : Value) (vs : List Value) (kw : List (Str × Value)) (Pre : Heap → Prop) (Post : Heap → Heap → Value → Prop) : Prop :=
  ∀ (dp un : Nat) (cn : Str) (cs : Scope) (a : Addr) (ccd : Value) (cl : List (Str × Addr)) (A₀ : Around) (base h₀ : Heap) (L : Addr) (m : Str → Option Value) (s : Shared) (Q E : Value → Shared → Prop),
    (Mine.hd.heap_39 w.params).In base → Top Mine.hd.view_39 loose0 mean mg mb base → Below A₀ base [] h₀ → Fr h₀ L s.heap m → (Mine.hd.heap_39 w.params).In h₀ → Top Mine.hd.view_39 loose0 mean mg mb h₀ → cs.kind = .function → Giv Pre s.heap → dp + dn < recursionLimit → un + du < cLine →
    RetS ([envX cn cs L a ccd cl].filterMap (·.frame)) s Post Q →
    wpAny (model PySem.Challenge.rw_ik0032_01.row.prog w) (ktrTop dp un (some []) cn cs L a ccd cl []) (call fn vs kw) Q E s

theorem ConS.use {w : World} {mean : ExcName → Option Value} {mg mb : Str → Option Value} {dn du : Nat} {fn : Value} {vs : List Value} {kw : List (Str × Value)} {Pre : Heap → Prop} {Post : Heap → Heap → Value → Prop}
    (C : ConS w mean mg mb dn du fn vs kw Pre Post) {dp un : Nat} {cn : Str} {cs : Scope} {a : Addr} {ccd : Value} {cl : List (Str × Addr)} {A₀ : Around} {base h₀ : Heap} {L : Addr} {m : Str → Option Value} {s : Shared} {Q E : Value → Shared → Prop} {news : List (Addr × Obj)}
    (B : Below A₀ base [] h₀) (F : Fr h₀ L s.heap m) (X : (Mine.hd.heap_39 w.params).In h₀) (T : Top Mine.hd.view_39 loose0 mean mg mb h₀) (XB : (Mine.hd.heap_39 w.params).In base) (TB : Top Mine.hd.view_39 loose0 mean mg mb base) (hk : cs.kind = .function) (N : News h₀ L s.heap news) (hp : Giv Pre s.heap) (hd : dp + dn < recursionLimit) (hu : un + du < cLine)
    (ret : ∀ v (h' : Heap) (tk' : Nat), Post s.heap h' v → Fr h₀ L h' m → News h₀ L h' news → (∀ b o, b ≠ L → s.heap.get? b = some o → h'.get? b = some o) → Q v { s with heap := h', toks := tk' }) :
    wpAny (model PySem.Challenge.rw_ik0032_01.row.prog w) (ktrTop dp un (some []) cn cs L a ccd cl []) (call fn vs kw) Q E s :=
  C _ _ _ _ _ _ _ _ _ _ _ _ _ _ _ XB TB B F X T hk hp hd hu ⟨fun v g h' tk' tu st po => by
    have hmem : ∀ b, b ≠ L → b ∉ [envX cn cs L a ccd cl].filterMap (·.frame) := fun b hb hm => by
      rw [List.filterMap_cons, show (envX cn cs L a ccd cl).frame = some L from rfl] at hm
      simp only [List.filterMap_nil, List.mem_singleton] at hm
      exact hb hm
    have hkeep : ∀ b o, b ≠ L → s.heap.get? b = some o → h'.get? b = some o := fun b o hb e => st b o (tu.other b o e (hmem b hb))
    have nL : h₀.get? L = none := kts_self F
    have F' : Fr h₀ L h' m := by
      obtain ⟨oL, es, ep, hL, hLd, hLk, hLf⟩ := F.ns
      obtain ⟨sl, hs⟩ := tu.up hL
      refine ⟨⟨{ oL with slots := sl }, es, ep, st _ _ hs, hLd, hLk, hLf⟩, fun b o e => hkeep b o (fun q => ?_) (F.keep b o e), F.above⟩
      rw [q, nL] at e; cases e
    exact ret v h' tk' po F' (fun q hq => ⟨hkeep _ _ (N q hq).2.1 (N q hq).1, (N q hq).2.1, (N q hq).2.2⟩) hkeep⟩

/-- a way's end of such a contract -/
theorem ret_goS {fs : List Addr} {s : Shared} {Q : Value → Shared → Prop} {Post : Heap → Heap → Value → Prop} {g h' : Heap} {L' : Addr} {m' : Str → Option Value} {v : Value} {tk : Nat}
    (R : RetS fs s Post Q) (hg : KtsTurn fs s.heap g) (F : Fr g L' h' m') (hp : Post s.heap h' v) : Q v { s with heap := h', toks := tk } :=
  R.out v g h' tk hg F.keep hp
/-- what ends without an error ends so too -/
theorem Con1.soft {w : World} {mean : ExcName → Option Value} {mg mb : Str → Option Value} {dn du : Nat} {fn : Value} {vs : List Value} {kw : List (Str × Value)} {Pre : Heap → Prop} {Post : Heap → Heap → Value → Prop}
    (C : Con1 w mean mg mb dn du fn vs kw Pre Post) : ConS w mean mg mb dn du fn vs kw Pre Post :=
  fun dp un cn cs a ccd cl A₀ base h₀ L m s Q E _ _ B F X T hk hp hd hu R =>
    C dp un cn cs a ccd cl [] A₀ base h₀ L m s Q E B F X T hk hp hd hu ⟨fun v h' tk' st po => R.out v s.heap h' tk' KtsTurn.refl st po⟩
end Mine
end
section -- Us
open PySem PySem.W PySem.Calls PyProof.Rows
set_option maxRecDepth 100000
namespace Mine
/-- Con.use where a text comes back -/
theorem Con.useS {w : World} {mean : ExcName → Option Value} {mg mb : Str → Option Value} {dn du : Nat} {fn : Value} {vs : List Value} {kw : List (Str × Value)} {Pre : Heap → Prop} {x : Str}
    (C : Con w mean mg mb dn du fn vs kw Pre (fun _ _ v => ∃ u, v = .str x u)) {dp un : Nat} {gd : Option (List Code)} {cn : Str} {cs : Scope} {a : Addr} {ccd : Value} {cl : List (Str × Addr)} {outer : List Env} {A₀ : Around} {base h₀ : Heap} {L : Addr} {m : Str → Option Value} {hp : Heap} {g : Array GenState} {d : Drawn} {tk : Nat} {os : OsState} {Q E : Value → Shared → Prop} {news : List (Addr × Obj)}
    (B : Below A₀ base outer h₀) (F : Fr h₀ L hp m) (X : (Mine.hd.heap_39 w.params).In h₀) (T : Top Mine.hd.view_39 loose0 mean mg mb h₀) (hk : cs.kind = .function) (N : News h₀ L hp news) (hpp : Giv Pre hp) (hd : dp + dn < recursionLimit) (hu : un + du < cLine)
    (ret : ∀ (u : Tok) (h' : Heap) (tk' : Nat), Fr h₀ L h' m → News h₀ L h' news → Q (.str x u) ⟨h', g, d, tk', os⟩) :
    wpAny (model PySem.Challenge.rw_ik0032_01.row.prog w) (ktrTop dp un gd cn cs L a ccd cl outer) (call fn vs kw) Q E ⟨hp, g, d, tk, os⟩ :=
  Con.use (s := ⟨hp, g, d, tk, os⟩) C B F X T hk N hpp hd hu fun v h' tk' po F' N' _ => by obtain ⟨u, rfl⟩ := po; exact ret u h' tk' F' N'
/-- Con1.use where a text comes back -/
theorem Con1.useS {w : World} {mean : ExcName → Option Value} {mg mb : Str → Option Value} {dn du : Nat} {fn : Value} {vs : List Value} {kw : List (Str × Value)} {Pre : Heap → Prop} {x : Str}
    (C : Con1 w mean mg mb dn du fn vs kw Pre (fun _ _ v => ∃ u, v = .str x u)) {dp un : Nat} {cn : Str} {cs : Scope} {a : Addr} {ccd : Value} {cl : List (Str × Addr)} {outer : List Env} {A₀ : Around} {base h₀ : Heap} {L : Addr} {m : Str → Option Value} {hp : Heap} {g : Array GenState} {d : Drawn} {tk : Nat} {os : OsState} {Q E : Value → Shared → Prop} {news : List (Addr × Obj)}
    (B : Below A₀ base outer h₀) (F : Fr h₀ L hp m) (X : (Mine.hd.heap_39 w.params).In h₀) (T : Top Mine.hd.view_39 loose0 mean mg mb h₀) (hk : cs.kind = .function) (N : News h₀ L hp news) (hpp : Giv Pre hp) (hd : dp + dn < recursionLimit) (hu : un + du < cLine)
    (ret : ∀ (u : Tok) (h' : Heap) (tk' : Nat), Fr h₀ L h' m → News h₀ L h' news → Q (.str x u) ⟨h', g, d, tk', os⟩) :
    wpAny (model PySem.Challenge.rw_ik0032_01.row.prog w) (ktrTop dp un (some []) cn cs L a ccd cl outer) (call fn vs kw) Q E ⟨hp, g, d, tk, os⟩ :=
  Con1.use (s := ⟨hp, g, d, tk, os⟩) C B F X T hk N hpp hd hu fun v h' tk' po F' N' _ => by obtain ⟨u, rfl⟩ := po; exact ret u h' tk' F' N'
/-- ConS.use where a text comes back -/
theorem ConS.useS {w : World} {mean : ExcName → Option Value} {mg mb : Str → Option Value} {dn du : Nat} {fn : Value} {vs : List Value} {kw : List (Str × Value)} {Pre : Heap → Prop} {x : Str}
    (C : ConS w mean mg mb dn du fn vs kw Pre (fun _ _ v => ∃ u, v = .str x u)) {dp un : Nat} {cn : Str} {cs : Scope} {a : Addr} {ccd : Value} {cl : List (Str × Addr)} {A₀ : Around} {base h₀ : Heap} {L : Addr} {m : Str → Option Value} {hp : Heap} {g : Array GenState} {d : Drawn} {tk : Nat} {os : OsState} {Q E : Value → Shared → Prop} {news : List (Addr × Obj)}
    (B : Below A₀ base [] h₀) (F : Fr h₀ L hp m) (X : (Mine.hd.heap_39 w.params).In h₀) (T : Top Mine.hd.view_39 loose0 mean mg mb h₀) (XB : (Mine.hd.heap_39 w.params).In base) (TB : Top Mine.hd.view_39 loose0 mean mg mb base) (hk : cs.kind = .function) (N : News h₀ L hp news) (hpp : Giv Pre hp) (hd : dp + dn < recursionLimit) (hu : un + du < cLine)
    (ret : ∀ (u : Tok) (h' : Heap) (tk' : Nat), Fr h₀ L h' m → News h₀ L h' news → Q (.str x u) ⟨h', g, d, tk', os⟩) :
    wpAny (model PySem.Challenge.rw_ik0032_01.row.prog w) (ktrTop dp un (some []) cn cs L a ccd cl []) (call fn vs kw) Q E ⟨hp, g, d, tk, os⟩ :=
  ConS.use (s := ⟨hp, g, d, tk, os⟩) C B F X T XB TB hk N hpp hd hu fun v h' tk' po F' N' _ => by obtain ⟨u, rfl⟩ := po; exact ret u h' tk' F' N'
section
variable {M : Model} {A : Around} {tree : Sem Value} {Q : Value → Shared → Prop} {E : Value → Shared → Prop} {hp h₀ : Heap} {g : Array GenState} {d : Drawn} {tk : Nat} {os : OsState} {L : Addr} {m : Str → Option Value} {news : List (Addr × Obj)}
/-- a cut: an expression that gives a text, whatever its way -/
theorem cut_str (X : Str) (_ : Fr h₀ L hp m) (_ : News h₀ L hp news)
    (h1 : ∀ Q' E' : Value → Shared → Prop, (∀ u h' tk', Fr h₀ L h' m → News h₀ L h' news → Q' (.str X u) ⟨h', g, d, tk', os⟩) → wpAny M A tree Q' E' ⟨hp, g, d, tk, os⟩)
    (h2 : ∀ u h' tk', Fr h₀ L h' m → News h₀ L h' news → Q (.str X u) ⟨h', g, d, tk', os⟩) : wpAny M A tree Q E ⟨hp, g, d, tk, os⟩ := h1 Q E h2
end
end Mine
end
section -- Fn
set_option maxRecDepth 100000
open PySem PySem.W PySem.Calls PyProof.Rows
open PySem.Sem (wp)
namespace Mine
theorem fn_entry_ga : entryFor table "object.__getattribute__" = some Builtin.«object.__getattribute__» := entryFor_of_tree (by kernel_rfl)
theorem fn_typeOf : typeOf (.builtin "function.__name__") = pure (.type "getset_descriptor") := by kernel_rfl
theorem fn_entry : entryFor table "function.__name__" = some Builtin.«function.__name__» := entryFor_of_tree (by kernel_rfl)
theorem fn_owner : (".".intercalate ("function.__name__".cutAt '.').dropLast) = "function" := by
  have e0 : "function.__name__".cutAt '.' = ["function", "__name__"] := by first | rfl | decide +kernel
  rw [e0]; decide +kernel
theorem fn_args_ga (a b : Value) : argsOk "object.__getattribute__" ⟨[a, b], []⟩ := by unfold argsOk; kernel_rfl
theorem fn_ga : Slot "function" "__getattribute__" "object.__getattribute__" := .of (owner := "object") (n := "__getattribute__") (by rw [typeLookup_type, builtinLookup_eq_fast]; kernel_rfl) (by decide +kernel) (by decide +kernel) (by decide +kernel)
    (by first | exact .inl (by decide +kernel) | exact .inr (by decide +kernel)) (by rw [isSubtype_type]; kernel_rfl)
theorem fn_look : typeLookup (.type "function") "__name__" = pure (some (.builtin "function.__name__")) := by rw [typeLookup_type, builtinLookup_eq_fast]; kernel_rfl
theorem fn_sub : isSubtype (.type "function") (.type "function") = pure true := by rw [isSubtype_type]; kernel_rfl

section
variable {prog : Program} {w : World} {A : Around} {E : Value → Shared → Prop} {h : Heap} {g : Array GenState} {d : Drawn} {t : Nat} {os : OsState} {a : Addr} {o : Obj} {fd : FuncData}

theorem fn_get {R : Result → Shared → Prop} (hx : h.get? a = some o) (hc : o.cls = .type "function") (hd : o.data = .func fd) (hz : fd.name.length ≤ sizeLine) (hq : R (.ok (.ret (.str fd.name t))) ⟨h, g, d, t + 1, os⟩) :
    codeAny (model prog w) A (.call (.builtin "getset_descriptor.__get__") ⟨[.builtin "function.__name__", .ref a, .type "function"], []⟩) R ⟨h, g, d, t, os⟩ := by
  have hT : (⟨h, g, d, t, os⟩ : Shared).TypeIs (.ref a) "function" := ⟨_, hx, hc⟩
  have hT5 : (⟨h, g, d, t, os⟩ : Shared).TypeIs (.builtin "function.__name__") "getset_descriptor" := fn_typeOf
  have f8 : isSubtype (.type "function") (.type (".".intercalate ("function.__name__".cutAt '.').dropLast)) = pure true := by rw [fn_owner]; exact fn_sub
  refine codeAny_call_builtin F.slot_gs_get.plain F.entry_gs_get (F.slot_gs_get.check _ _ _ _ _ _ _ _ hT5 (F.args_gs_get _ _ _) ?_)
  wp_delta
  wp_delta
  with_reducible refine PySem.wpAny_bind ?_
  wp_delta
  ((with_reducible apply PySem.wpAny_ite_false); focus (rfl; done))
  with_reducible refine PySem.wpAny_bind ?_
  with_reducible refine PySem.wpAny_pure ?_
  ((with_reducible apply PySem.wpAny_ite_false); focus (rfl; done))
  with_reducible refine PySem.wpAny_pure ?_
  wp_delta
  wp_delta
  with_reducible refine PySem.wpAny_bind ?_
  wp_delta
  with_reducible refine PySem.wpAny_bind ?_
  wp_delta
  with_reducible refine PySem.wpAny_pure ?_
  with_reducible refine PySem.wpAny_bind ?_
  with_reducible refine PySem.wpAny_isInstance (by assumption) (by assumption) ?_
  ((with_reducible apply PySem.wpAny_ite_false); focus (rfl; done))
  with_reducible refine PySem.wpAny_pure ?_
  wp_delta
  wp_delta
  with_reducible refine PySem.wpAny_pure ?_
  refine ⟨Code.quiet_builtin _ (by decide +kernel), codeAny_builtin fn_entry ?_⟩
  unfold Builtin.«function.__name__»
  obtain ⟨oc, od, dt, sl⟩ := o
  simp only at hd
  subst hd
  show wpAny _ _ (do retStr ((← funcData (.ref a)).name)) _ _ _
  unfold funcData
  refine wpAny_bind (wpAny_bind (wpAny_load hx (wpAny_pure ?_)))
  unfold retStr
  first
    | exact wpAny_bind (wpAny_bind (wpAny_mkStr (wpAny_pure (wpAny_pure hq)) hz))
    | exact wpAny_bind (wpAny_mkStr (wpAny_pure hq) hz)
    | exact wpAny_bind (wpAny_bind (wpAny_mkStr (wpAny_pure hq) hz))

theorem fn_body {tk : Tok} {Q : Fin → Shared → Prop} (hx : h.get? a = some o) (hc : o.cls = .type "function") (hd : o.data = .func fd) (hz : fd.name.length ≤ sizeLine) (hq : Q (.done (.ret (.str fd.name t))) ⟨h, g, d, t + 1, os⟩) :
    wpAny (model prog w) A (Builtin.«object.__getattribute__» ⟨[.ref a, .str "__name__" tk], []⟩) Q E ⟨h, g, d, t, os⟩ := by
  have hT : (⟨h, g, d, t, os⟩ : Shared).TypeIs (.ref a) "function" := ⟨_, hx, hc⟩
  have hT5 : (⟨h, g, d, t, os⟩ : Shared).TypeIs (.builtin "function.__name__") "getset_descriptor" := fn_typeOf
  have f4 := fn_look
  have f5 := fn_typeOf
  have f6 := F.slot_gs_get.lookup
  have f7 := F.slot_gs_set.lookup
  wp_delta
  with_reducible refine PySem.wpAny_bind ?_
  wp_delta
  ((with_reducible apply PySem.wpAny_ite_false); focus (rfl; done))
  ((with_reducible apply PySem.wpAny_ite_false); focus (rfl; done))
  with_reducible refine PySem.wpAny_pure ?_
  with_reducible refine PySem.wpAny_bind ?_
  wp_delta
  with_reducible refine PySem.wpAny_pure ?_
  with_reducible refine PySem.wpAny_bind ?_
  with_reducible refine PySem.wpAny_typeOf (by assumption) ?_
  with_reducible refine PySem.wpAny_bind ?_
  wp_delta
  with_reducible refine PySem.wpAny_bind ?_
  with_reducible refine PySem.wpAny_of_eq (by assumption) ?_
  with_reducible refine PySem.wpAny_bind ?_
  wp_delta
  with_reducible refine PySem.wpAny_specialOf_val (by assumption) (by assumption) ?_
  with_reducible refine PySem.wpAny_bind ?_
  wp_delta
  with_reducible refine PySem.wpAny_bind ?_
  wp_delta
  with_reducible refine PySem.wpAny_bind ?_
  with_reducible refine PySem.wpAny_specialOf_val (by assumption) (by assumption) ?_
  ((with_reducible apply PySem.wpAny_ite_true); focus (rfl; done))
  with_reducible refine PySem.wpAny_pure ?_
  ((with_reducible apply PySem.wpAny_ite_true); focus (rfl; done))
  with_reducible refine PySem.wpAny_pure ?_
  with_reducible refine PySem.wpAny_bind ?_
  with_reducible refine PySem.wpAny_rule ?_
  with_reducible refine PySem.wpAny_pure ?_
  wp_delta
  wp_delta
  with_reducible refine PySem.wpAny_bind ?_
  with_reducible refine PySem.wpAny_holding ?_
  with_reducible refine PySem.wpAny_call ?_
  refine fn_get hx hc hd hz ?_
  wp_delta
  with_reducible refine PySem.wpAny_pure ?_
  assumption
theorem fn_call {tk : Tok} {R : Result → Shared → Prop} (hx : h.get? a = some o) (hc : o.cls = .type "function") (hd : o.data = .func fd) (hz : fd.name.length ≤ sizeLine) (hq : R (.ok (.ret (.str fd.name t))) ⟨h, g, d, t + 1, os⟩) :
    codeAny (model prog w) A (.call (.builtin "object.__getattribute__") ⟨[.ref a, .str "__name__" tk], []⟩) R ⟨h, g, d, t, os⟩ :=
  codeAny_call_builtin fn_ga.plain fn_entry_ga (fn_ga.check _ _ _ _ _ _ _ _ (show (⟨h, g, d, t, os⟩ : Shared).TypeIs (.ref a) "function" from ⟨_, hx, hc⟩) (fn_args_ga _ _) (fn_body hx hc hd hz hq))
theorem fn_by {tk : Tok} {fill expr : Bool} {Q : Value → Shared → Prop} (hx : h.get? a = some o) (hc : o.cls = .type "function") (hd : o.data = .func fd) (hz : fd.name.length ≤ sizeLine)
    (hq : Q (.str fd.name t) ⟨h, g, d, t + 1, os⟩) : wpAny (model prog w) A (getAttrBy (.ref a) (.str "__name__" tk) fill expr) Q E ⟨h, g, d, t, os⟩ := by
  have hT : (⟨h, g, d, t, os⟩ : Shared).TypeIs (.ref a) "function" := ⟨_, hx, hc⟩
  have f2 := fn_ga.lookup
  have f3 := fn_ga.bind (.ref a)
  have hx0 : (expr && onTheHeap (Value.builtin "object.__getattribute__")) = false := by cases expr <;> rfl
  wp_delta
  with_reducible refine PySem.wpAny_holding ?_
  with_reducible refine PySem.wpAny_bind ?_
  with_reducible refine PySem.wpAny_typeOf (by assumption) ?_
  with_reducible refine PySem.wpAny_bind ?_
  with_reducible refine PySem.wpAny_of_eq (by assumption) ?_
  ((with_reducible apply PySem.wpAny_ite_false); focus (rfl; done))
  wp_delta
  with_reducible refine PySem.wpAny_bind ?_
  wp_delta
  ((with_reducible apply PySem.wpAny_ite_false); focus (rfl; done))
  with_reducible refine PySem.wpAny_pure ?_
  with_reducible refine PySem.wpAny_bind ?_
  with_reducible refine PySem.wpAny_attempt ?_
  with_reducible refine PySem.wpAny_holding ?_
  wp_delta
  ((with_reducible apply PySem.wpAny_ite_false); focus (simp [*]; done))
  wp_delta
  with_reducible refine PySem.wpAny_bind ?_
  with_reducible refine PySem.wpAny_of_eq (by assumption) ?_
  with_reducible refine PySem.wpAny_call ?_
  refine fn_call hx hc hd hz ?_
  wp_delta
  wp_delta
  with_reducible refine PySem.wpAny_pure ?_
  assumption
theorem fn_attr {expr : Bool} {Q : Value → Shared → Prop} (hx : h.get? a = some o) (hc : o.cls = .type "function") (hd : o.data = .func fd) (hz : fd.name.length ≤ sizeLine)
    (hq : ∀ tk u, Q (.str fd.name tk) ⟨h, g, d, u, os⟩) : wpAny (model prog w) A (getAttr (.ref a) (Str.ofString "__name__") expr) Q E ⟨h, g, d, t, os⟩ := by
  have hq' := hq (t+1) (t+1+1)
  unfold getAttr
  with_reducible refine PySem.wpAny_bind ?_
  wp_delta
  with_reducible refine PySem.wpAny_bind ?_
  with_reducible refine PySem.wpAny_fresh' ?_
  with_reducible refine PySem.wpAny_pure ?_
  with_reducible apply fn_by hx hc hd hz
  assumption
end
section
variable {prog : Program} {w : World} {A : Around} {E : Value → Shared → Prop} {s : Shared} {Q : Value → Shared → Prop} {K : Frag} {h₀ : Heap} {L f : Addr} {m : Str → Option Value}
  {name qual : Str} {params : Arguments} {body : List Stmt} {scope : Scope} {dV kV doc pm cdv ct : Value} {an od : Option Addr} {osl : Array (Option Value)}
/-- a def's name -/
theorem get_fname {expr : Bool} (F : Fr h₀ L s.heap m) (X₀ : K.In h₀) (ho : K.lookup f = some ⟨.type "function", od, .func (fnOf name qual params body scope dV kV doc pm an cdv ct), osl⟩) (hz : name.length ≤ sizeLine)
    (h : ∀ tk u, Q (.str name tk) { s with toks := u }) : wpAny (model prog w) A (getAttr (.ref f) (Str.ofString "__name__") expr) Q E s := by
  obtain ⟨hh, g, d, t, os⟩ := s
  exact fn_attr (X₀.keeps F.keep _ _ ho) rfl rfl hz fun tk u => h tk u
end
section
variable {prog : Program} {w : World} {A : Around} {E : Value → Shared → Prop} {s : Shared} {Q : Value → Shared → Prop} {l : Addr} {xs : Array Value}
theorem isi_list_str (hl : s.heap.IsList l xs) (h : ∀ tk, Q (.bool false) { s with toks := tk }) : wpAny (model prog w) A (call (.builtin "isinstance") [.ref l, .type "str"]) Q E s := by
  obtain ⟨o, h1, h2, _⟩ := hl
  exact PySem.IsiPair.list_str h1 h2 (h _)
theorem isi_list_list (hl : s.heap.IsList l xs) (h : ∀ tk, Q (.bool true) { s with toks := tk }) : wpAny (model prog w) A (call (.builtin "isinstance") [.ref l, .type "list"]) Q E s := by
  obtain ⟨o, h1, h2, _⟩ := hl
  exact PySem.IsiPair.list_list h1 h2 (h s.toks)
end
end Mine
end
section -- Ls2
open PySem PySem.W PyProof.Rows
set_option maxRecDepth 100000
namespace Mine
section
variable {prog : Program} {w : World} {A : Around} {E : Value → Shared → Prop} {s : Shared} {D : Addr} {vs : List Value} {k : Int} {t : Tok}
/-- l[0] -/
theorem sub_first {value slice : PySem.Expr} {xs : List Str} {Q : Value → Shared → Prop} (hl : s.heap.IsList D vs.toArray) (hS : StrsAre vs xs) (hne : xs ≠ []) (hk : k = 0) (h : ∀ t', Q (.str (xs.head?.getD Str.empty) t') s)
    (hs : subscripted slice false (.ref D) (.int k t) = operate [.ref D, .int k t] (getItem (.ref D) (.int k t)) := by with_unfolding_all rfl) :
    wpAny (model prog w) A (subscriptTail value slice (.ref D) (.int k t)) Q E s := by
  have hlen := hS.length
  have hp : 0 < xs.length := List.length_pos_iff.mpr hne
  obtain ⟨t', e⟩ := hS.get 0 (xs.head?.getD Str.empty) (by rw [List.head?_eq_getElem?, List.getElem?_eq_getElem (by (first | lia | omega))]; rfl)
  subst hk
  refine tail_any hl.typeIs slot_list_getitem.lookup (wpAny_getItem_list hl (x := .str (xs.head?.getD Str.empty) t') (by (first | lia | omega)) (by (first | lia | omega)) ?_ (h t')) hs
  simpa using e
end
end Mine
end
section -- As
open PySem PySem.W PySem.Spec PySem.Calls PyProof.Rows
namespace Mine
set_option maxRecDepth 100000
section
variable {M : Model} {A : Around} {E : Value → Shared → Prop} {s' : Shared} {base g g₂ h : Heap} {outer : List Env} {L a e : Addr} {m : Str → Option Value} {name : Str} {scope : Scope} {cd : Value} {Q : Unit → Shared → Prop} {news : List (Addr × Obj)}
/-- an error with members of its own leaves the frame in which it was made -/
theorem leave_ofS {cls : String} (K : Below A base outer g) (hx : Heap.NewExcOf h s'.heap e cls) (F : Fr g L h m) (N : News g L h news)
    (hQ : ∀ h', RaisedSN base g outer e (.type cls) news h' → g.UpToSlots h' → Q () { s' with heap := h' }) (hk : scope.kind = .function := by rfl) :
    wpAny M (A.deeper (envOf name scope L a cd)) (leaving (envOf name scope L a cd) (.ref e)) Q E s' := by
  have K' := K.push (name := name) (a := a) (cd := cd) F hk
  have hin : ∀ env ∈ (envOf name scope L a cd :: outer), ∀ b, env.frame = some b → b ∈ (envOf name scope L a cd :: outer).filterMap (·.frame) := fun env he b hb => List.mem_filterMap.mpr ⟨env, he, hb⟩
  have st : base.StaysIn (hideAll h ((envOf name scope L a cd :: outer).filterMap (·.frame))) := fun b o q => hideAll_get _ (K'.stays b o q) fun hm => by
    rw [(K'.frames.mem hm).1] at q; cases q
  have sg : ∀ b o, g.get? b = some o → b ∉ outer.filterMap (·.frame) → (hideAll h ((envOf name scope L a cd :: outer).filterMap (·.frame))).get? b = some o := fun b o q nm => hideAll_get _ (F.keep b o q) fun hm => by
    rcases kts_mem hm with z | z
    · rw [z, kts_self F] at q
      cases q
    · exact nm z
  have hl : ∀ q ∈ news, (hideAll h ((envOf name scope L a cd :: outer).filterMap (·.frame))).get? q.1 = some q.2 ∧ g.get? q.1 = none ∧ base.get? q.1 = none := fun q hq => by
    refine ⟨hideAll_get _ (N q hq).1 fun hm => ?_, (N q hq).2.2, fresh_of_stays K.stays (N q hq).2.2⟩
    obtain ⟨env, he, hf⟩ := List.mem_filterMap.mp hm
    rcases List.mem_cons.mp he with rfl | he
    · exact (N q hq).2.1 (Option.some.inj hf).symm
    · obtain ⟨o, ho, _⟩ := (K.frames.mem (List.mem_filterMap.mpr ⟨env, he, hf⟩)).2
      rw [(N q hq).2.2] at ho; cases ho
  obtain ⟨ob, ws, he, hcls, hd, h1⟩ := hx.there
  have h1s : 1 < ws.size := (Array.getElem?_eq_some_iff.mp h1).1
  have hen : (hideAll h ((envOf name scope L a cd :: outer).filterMap (·.frame))).get? e = none := by
    cases q : (hideAll h ((envOf name scope L a cd :: outer).filterMap (·.frame))).get? e with
    | none => rfl
    | some o => have := of_hideAll _ q; rw [hx.new] at this; cases this
  refine wpAny_leaving_firstW (a0 := ws[0]'(by (first | lia | omega))) K'.stack ((funFrames_hide K'.frames hin).of_keeps fun b o hb _ => ⟨o, hx.keeps b o hb, rfl⟩) rfl he (fun b o hb => hx.keeps b o (of_hideAll _ hb)) hen hd h1 (Array.getElem?_eq_getElem (by (first | lia | omega))) fun h' hL => ?_
  obtain ⟨k1, ⟨_, _, k2⟩, k3, k4⟩ := hL
  exact hQ h' ⟨_, _, st, sg, hl, k1, hen, k2, by rw [← hcls]; exact k3⟩ (((Heap.UpToSlots.of_keeps F.keep).trans (Heap.UpToSlots.of_keeps hx.keeps)).trans k4)
end
theorem miss_none : typeLookup (.type "NoneType") (Str.ofString "split") = pure none := by rw [typeLookup_type, builtinLookup_eq_fast]; kernel_rfl
theorem miss_bool : typeLookup (.type "bool") (Str.ofString "split") = pure none := by rw [typeLookup_type, builtinLookup_eq_fast]; kernel_rfl
theorem miss_int : typeLookup (.type "int") (Str.ofString "split") = pure none := by rw [typeLookup_type, builtinLookup_eq_fast]; kernel_rfl
theorem miss_list : typeLookup (.type "list") (Str.ofString "split") = pure none := by rw [typeLookup_type, builtinLookup_eq_fast]; kernel_rfl
section
variable {prog : Program} {w : World} {A : Around} {E : Value → Shared → Prop} {s : Shared} {a : Addr} {xs : Array Value} {n : Nat} {Q : Value → Shared → Prop}
theorem list_nosplit (hx : s.heap.get? a = some (listOf xs n)) (hA : A.handled = none) (h : ∀ h' tk e, Heap.NewExcOf s.heap h' e "AttributeError" → E (.ref e) { s with heap := h', toks := tk }) : wpAny (model prog w) A (getAttr (.ref a) (Str.ofString "split") true) Q E s :=
  getAttr_miss_list hx rfl rfl rfl miss_list (by decide +kernel) hA h (by decide +kernel)
theorem none_nosplit (hA : A.handled = none) (h : ∀ h' tk e, Heap.NewExcOf s.heap h' e "AttributeError" → E (.ref e) { s with heap := h', toks := tk }) : wpAny (model prog w) A (getAttr .none (Str.ofString "split") true) Q E s :=
  getAttr_miss_none miss_none hA h (by decide +kernel)
theorem bool_nosplit {b : Bool} (hA : A.handled = none) (h : ∀ h' tk e, Heap.NewExcOf s.heap h' e "AttributeError" → E (.ref e) { s with heap := h', toks := tk }) : wpAny (model prog w) A (getAttr (.bool b) (Str.ofString "split") true) Q E s :=
  getAttr_miss_bool miss_bool hA h (by decide +kernel)
theorem int_nosplit {i : Int} {t : Tok} (hA : A.handled = none) (h : ∀ h' tk e, Heap.NewExcOf s.heap h' e "AttributeError" → E (.ref e) { s with heap := h', toks := tk }) : wpAny (model prog w) A (getAttr (.int i t) (Str.ofString "split") true) Q E s :=
  getAttr_miss_int miss_int hA h (by decide +kernel)
end
end Mine
end
section -- As2
open PySem PySem.W PySem.Spec PySem.Calls PyProof.Rows
open PySem.Sem (wp)
namespace Mine
set_option maxRecDepth 100000

theorem raised_gen {prog : Program} {w : World} {A : Around} {E : Value → Shared → Prop} {Q : Value → Shared → Prop} {v : Value} {T : String} {name : Str} {hp h' : Heap} {g : Array GenState} {d : Drawn} {tk tk' : Nat} {os : OsState} {e : Addr}
    (f5 : typeLookup (Value.type T) (Str.ofString "__getattr__") = pure none) (hA : A.handled = none) (hx : hp.NewAttrErr h' e v name)
    (h : ∀ h' tk e, Heap.NewExcOf hp h' e "AttributeError" → E (.ref e) ⟨h', g, d, tk, os⟩) :
    wpAny (model prog w) A (getattributeRaised v (Value.str name tk) (Value.type T) (Value.ref e) none true false) Q E ⟨h', g, d, tk', os⟩ := by
  have f1 := sub_AttributeError
  obtain ⟨t', u', he⟩ := hx.there
  unfold getattributeRaised
  with_reducible refine PySem.wpAny_bind ?_
  wp_delta
  with_reducible refine PySem.wpAny_bind ?_
  wp_delta
  with_reducible refine PySem.wpAny_bind ?_
  ((with_reducible apply PySem.wpAny_loadPart'); focus (heap_get; done))
  with_reducible refine PySem.wpAny_pure ?_
  with_reducible refine PySem.wpAny_of_eq (by assumption) ?_
  ((with_reducible apply PySem.wpAny_ite_true); focus (rfl; done))
  with_reducible refine PySem.wpAny_bind ?_
  wp_delta
  ((with_reducible apply PySem.wpAny_ite_false); focus (rfl; done))
  with_reducible refine PySem.wpAny_of_eq (by assumption) ?_
  wp_delta
  wp_delta
  ((with_reducible apply PySem.wpAny_ite_false); focus (rfl; done))
  ((with_reducible apply PySem.wpAny_ite_false); focus (rfl; done))
  with_reducible refine PySem.wpAny_bind ?_
  wp_delta
  with_reducible refine PySem.wpAny_bind ?_
  wp_delta
  with_reducible refine PySem.wpAny_bind ?_
  wp_delta
  with_reducible refine PySem.wpAny_bind ?_
  wp_delta
  with_reducible refine PySem.wpAny_bind ?_
  ((with_reducible apply PySem.wpAny_loadPart'); focus (heap_get; done))
  with_reducible refine PySem.wpAny_pure ?_
  with_reducible refine PySem.wpAny_of_eq (by assumption) ?_
  ((with_reducible apply PySem.wpAny_ite_false); focus (rfl; done))
  with_reducible refine PySem.wpAny_bind ?_
  ((with_reducible apply PySem.wpAny_load'); focus (heap_get; done))
  ((with_reducible apply PySem.wpAny_ite_true); focus (rfl; done))
  with_reducible refine PySem.wpAny_pure ?_
  ((with_reducible apply PySem.wpAny_ite_false); focus (rfl; done))
  with_reducible refine PySem.wpAny_pure ?_
  with_reducible refine PySem.wpAny_throw ?_
  exact h _ _ _ hx.of
theorem get0_none {prog : Program} {w : World} {A : Around} {E : Value → Shared → Prop} {s : Shared}  {name : Str} {Q : Value → Shared → Prop} (hmiss : typeLookup (.type "NoneType") name = pure none) (hA : A.handled = none)
    (h : ∀ h' tk e, Heap.NewExcOf s.heap h' e "AttributeError" → E (.ref e) { s with heap := h', toks := tk }) (hsz : name.length + 100 ≤ sizeLine) :
    wpAny (model prog w) A (getAttr (.none) name false) Q E s := by
  obtain ⟨hp, g, d, tk, os⟩ := s
  have hT : ∀ s' : Shared, s'.TypeIs (.none) "NoneType" := fun _ => rfl
  have f3 := F.slot_NoneType_getattribute.lookup
  have f4 := F.slot_NoneType_getattribute.bind (.none)
  have f5 := am_none_getattr_none
  unfold getAttr getAttrBy
  with_reducible refine PySem.wpAny_bind ?_
  wp_delta
  with_reducible refine PySem.wpAny_bind ?_
  with_reducible refine PySem.wpAny_fresh' ?_
  with_reducible refine PySem.wpAny_pure ?_
  with_reducible refine PySem.wpAny_holding ?_
  with_reducible refine PySem.wpAny_bind ?_
  wp_delta
  with_reducible refine PySem.wpAny_pure ?_
  with_reducible refine PySem.wpAny_bind ?_
  with_reducible refine PySem.wpAny_of_eq (by assumption) ?_
  ((with_reducible apply PySem.wpAny_ite_false); focus (rfl; done))
  wp_delta
  with_reducible refine PySem.wpAny_bind ?_
  wp_delta
  ((with_reducible apply PySem.wpAny_ite_false); focus (rfl; done))
  with_reducible refine PySem.wpAny_pure ?_
  with_reducible refine PySem.wpAny_bind ?_
  with_reducible refine PySem.wpAny_attempt ?_
  with_reducible refine PySem.wpAny_holding ?_
  wp_delta
  ((with_reducible apply PySem.wpAny_ite_false); focus (rfl; done))
  wp_delta
  with_reducible refine PySem.wpAny_bind ?_
  with_reducible refine PySem.wpAny_of_eq (by assumption) ?_
  ((with_reducible show wpAny _ _ (call (Value.builtin "object.__getattribute__") _ _) _ _ _); refine call_meets F.slot_NoneType_getattribute (hT _) F.entry_object_getattribute (F.args_object_getattribute_2 _ _) (meets_getattribute_miss_none name _ hmiss hsz) ⟨hA, fun h' tk' e hx => ?_⟩)
  exact raised_gen f5 hA hx h
theorem meth_none {prog : Program} {w : World} {A : Around} {E : Value → Shared → Prop} {s : Shared}  {pl : Sem Bool} {Q : Value × List Value → Shared → Prop} (hA : A.handled = none)
    (h : ∀ h' tk e, Heap.NewExcOf s.heap h' e "AttributeError" → E (.ref e) { s with heap := h', toks := tk }) :
    wpAny (model prog w) A (getMethod (.none) (Str.ofString "split") pl) Q E s := by
  have hT : s.TypeIs (.none) "NoneType" := rfl
  unfold getMethod
  refine wpAny_bind (wpAny_specialOf hT F.slot_NoneType_getattribute.lookup ?_)
  show wpAny _ A (if (Manifest.canonical "object.__getattribute__" != "object.__getattribute__") = true then _ else _) Q E s
  rw [show (Manifest.canonical "object.__getattribute__" != "object.__getattribute__") = false from by decide +kernel, if_neg Bool.false_ne_true]
  refine wpAny_bind (wpAny_specialOf hT am_none_getattr_none ?_)
  refine wpAny_bind (wpAny_specialOf hT miss_none ?_)
  exact wpAny_bind (get0_none miss_none hA h (by decide +kernel))

theorem get0_bool {prog : Program} {w : World} {A : Around} {E : Value → Shared → Prop} {s : Shared} {b : Bool} {name : Str} {Q : Value → Shared → Prop} (hmiss : typeLookup (.type "bool") name = pure none) (hA : A.handled = none)
    (h : ∀ h' tk e, Heap.NewExcOf s.heap h' e "AttributeError" → E (.ref e) { s with heap := h', toks := tk }) (hsz : name.length + 100 ≤ sizeLine) :
    wpAny (model prog w) A (getAttr (.bool b) name false) Q E s := by
  obtain ⟨hp, g, d, tk, os⟩ := s
  have hT : ∀ s' : Shared, s'.TypeIs (.bool b) "bool" := fun _ => rfl
  have f3 := F.slot_bool_getattribute.lookup
  have f4 := F.slot_bool_getattribute.bind (.bool b)
  have f5 := am_bool_getattr_none
  unfold getAttr getAttrBy
  with_reducible refine PySem.wpAny_bind ?_
  wp_delta
  with_reducible refine PySem.wpAny_bind ?_
  with_reducible refine PySem.wpAny_fresh' ?_
  with_reducible refine PySem.wpAny_pure ?_
  with_reducible refine PySem.wpAny_holding ?_
  with_reducible refine PySem.wpAny_bind ?_
  wp_delta
  with_reducible refine PySem.wpAny_pure ?_
  with_reducible refine PySem.wpAny_bind ?_
  with_reducible refine PySem.wpAny_of_eq (by assumption) ?_
  ((with_reducible apply PySem.wpAny_ite_false); focus (rfl; done))
  wp_delta
  with_reducible refine PySem.wpAny_bind ?_
  wp_delta
  ((with_reducible apply PySem.wpAny_ite_false); focus (rfl; done))
  with_reducible refine PySem.wpAny_pure ?_
  with_reducible refine PySem.wpAny_bind ?_
  with_reducible refine PySem.wpAny_attempt ?_
  with_reducible refine PySem.wpAny_holding ?_
  wp_delta
  ((with_reducible apply PySem.wpAny_ite_false); focus (rfl; done))
  wp_delta
  with_reducible refine PySem.wpAny_bind ?_
  with_reducible refine PySem.wpAny_of_eq (by assumption) ?_
  ((with_reducible show wpAny _ _ (call (Value.builtin "int.__getattribute__") _ _) _ _ _); refine call_meets F.slot_bool_getattribute (hT _) am_entry_int_getattribute (F.args_int_getattribute_2 _ _) (meets_getattribute_miss_bool b name _ hmiss hsz) ⟨hA, fun h' tk' e hx => ?_⟩)
  exact raised_gen f5 hA hx h
theorem meth_bool {prog : Program} {w : World} {A : Around} {E : Value → Shared → Prop} {s : Shared} {b : Bool} {pl : Sem Bool} {Q : Value × List Value → Shared → Prop} (hA : A.handled = none)
    (h : ∀ h' tk e, Heap.NewExcOf s.heap h' e "AttributeError" → E (.ref e) { s with heap := h', toks := tk }) :
    wpAny (model prog w) A (getMethod (.bool b) (Str.ofString "split") pl) Q E s := by
  have hT : s.TypeIs (.bool b) "bool" := rfl
  unfold getMethod
  refine wpAny_bind (wpAny_specialOf hT F.slot_bool_getattribute.lookup ?_)
  show wpAny _ A (if (Manifest.canonical "int.__getattribute__" != "object.__getattribute__") = true then _ else _) Q E s
  rw [show (Manifest.canonical "int.__getattribute__" != "object.__getattribute__") = false from by decide +kernel, if_neg Bool.false_ne_true]
  refine wpAny_bind (wpAny_specialOf hT am_bool_getattr_none ?_)
  refine wpAny_bind (wpAny_specialOf hT miss_bool ?_)
  exact wpAny_bind (get0_bool miss_bool hA h (by decide +kernel))

theorem get0_int {prog : Program} {w : World} {A : Around} {E : Value → Shared → Prop} {s : Shared} {n : Int} {t : Tok} {name : Str} {Q : Value → Shared → Prop} (hmiss : typeLookup (.type "int") name = pure none) (hA : A.handled = none)
    (h : ∀ h' tk e, Heap.NewExcOf s.heap h' e "AttributeError" → E (.ref e) { s with heap := h', toks := tk }) (hsz : name.length + 100 ≤ sizeLine) :
    wpAny (model prog w) A (getAttr (.int n t) name false) Q E s := by
  obtain ⟨hp, g, d, tk, os⟩ := s
  have hT : ∀ s' : Shared, s'.TypeIs (.int n t) "int" := fun _ => rfl
  have f3 := F.slot_int_getattribute.lookup
  have f4 := F.slot_int_getattribute.bind (.int n t)
  have f5 := am_int_getattr_none
  unfold getAttr getAttrBy
  with_reducible refine PySem.wpAny_bind ?_
  wp_delta
  with_reducible refine PySem.wpAny_bind ?_
  with_reducible refine PySem.wpAny_fresh' ?_
  with_reducible refine PySem.wpAny_pure ?_
  with_reducible refine PySem.wpAny_holding ?_
  with_reducible refine PySem.wpAny_bind ?_
  wp_delta
  with_reducible refine PySem.wpAny_pure ?_
  with_reducible refine PySem.wpAny_bind ?_
  with_reducible refine PySem.wpAny_of_eq (by assumption) ?_
  ((with_reducible apply PySem.wpAny_ite_false); focus (rfl; done))
  wp_delta
  with_reducible refine PySem.wpAny_bind ?_
  wp_delta
  ((with_reducible apply PySem.wpAny_ite_false); focus (rfl; done))
  with_reducible refine PySem.wpAny_pure ?_
  with_reducible refine PySem.wpAny_bind ?_
  with_reducible refine PySem.wpAny_attempt ?_
  with_reducible refine PySem.wpAny_holding ?_
  wp_delta
  ((with_reducible apply PySem.wpAny_ite_false); focus (rfl; done))
  wp_delta
  with_reducible refine PySem.wpAny_bind ?_
  with_reducible refine PySem.wpAny_of_eq (by assumption) ?_
  ((with_reducible show wpAny _ _ (call (Value.builtin "int.__getattribute__") _ _) _ _ _); refine call_meets F.slot_int_getattribute (hT _) am_entry_int_getattribute (F.args_int_getattribute_2 _ _) (meets_getattribute_miss_int n t name _ hmiss hsz) ⟨hA, fun h' tk' e hx => ?_⟩)
  exact raised_gen f5 hA hx h
theorem meth_int {prog : Program} {w : World} {A : Around} {E : Value → Shared → Prop} {s : Shared} {n : Int} {t : Tok} {pl : Sem Bool} {Q : Value × List Value → Shared → Prop} (hA : A.handled = none)
    (h : ∀ h' tk e, Heap.NewExcOf s.heap h' e "AttributeError" → E (.ref e) { s with heap := h', toks := tk }) :
    wpAny (model prog w) A (getMethod (.int n t) (Str.ofString "split") pl) Q E s := by
  have hT : s.TypeIs (.int n t) "int" := rfl
  unfold getMethod
  refine wpAny_bind (wpAny_specialOf hT F.slot_int_getattribute.lookup ?_)
  show wpAny _ A (if (Manifest.canonical "int.__getattribute__" != "object.__getattribute__") = true then _ else _) Q E s
  rw [show (Manifest.canonical "int.__getattribute__" != "object.__getattribute__") = false from by decide +kernel, if_neg Bool.false_ne_true]
  refine wpAny_bind (wpAny_specialOf hT am_int_getattr_none ?_)
  refine wpAny_bind (wpAny_specialOf hT miss_int ?_)
  exact wpAny_bind (get0_int miss_int hA h (by decide +kernel))

theorem get0_list {prog : Program} {w : World} {A : Around} {E : Value → Shared → Prop} {s : Shared} {a : Addr} {o : Obj} {xs : Array Value} {k : Nat} {name : Str} {Q : Value → Shared → Prop}
    (hx : s.heap.get? a = some o) (hc : o.cls = .type "list") (hdat : o.data = .seq xs k) (hd : o.dict = none) (hmiss : typeLookup (.type "list") name = pure none) (hname : (["__module__", "__name__", "__qualname__", "__doc__", "__annotations__"] : List Str).contains name = false) (hA : A.handled = none)
    (h : ∀ h' tk e, Heap.NewExcOf s.heap h' e "AttributeError" → E (.ref e) { s with heap := h', toks := tk }) (hsz : name.length + 100 ≤ sizeLine) :
    wpAny (model prog w) A (getAttr (.ref a) name false) Q E s := by
  obtain ⟨c, dct, dat, sl⟩ := o
  simp only at hc hdat hd
  subst hc hdat hd
  obtain ⟨hp, g, d, tk, os⟩ := s
  have hT : ∀ tk', (⟨hp, g, d, tk', os⟩ : Shared).TypeIs (.ref a) "list" := fun _ => ⟨_, hx, rfl⟩
  have f3 := F.slot_list_getattribute.lookup
  have f4 := F.slot_list_getattribute.bind (.ref a)
  have f5 := am_list_getattr_none
  unfold getAttr getAttrBy
  with_reducible refine PySem.wpAny_bind ?_
  wp_delta
  with_reducible refine PySem.wpAny_bind ?_
  with_reducible refine PySem.wpAny_fresh' ?_
  with_reducible refine PySem.wpAny_pure ?_
  with_reducible refine PySem.wpAny_holding ?_
  with_reducible refine PySem.wpAny_bind ?_
  wp_delta
  with_reducible refine PySem.wpAny_bind ?_
  ((with_reducible apply PySem.wpAny_loadPart'); focus (heap_get; done))
  with_reducible refine PySem.wpAny_pure ?_
  with_reducible refine PySem.wpAny_bind ?_
  with_reducible refine PySem.wpAny_of_eq (by assumption) ?_
  ((with_reducible apply PySem.wpAny_ite_false); focus (rfl; done))
  wp_delta
  with_reducible refine PySem.wpAny_bind ?_
  wp_delta
  ((with_reducible apply PySem.wpAny_ite_false); focus (rfl; done))
  with_reducible refine PySem.wpAny_pure ?_
  with_reducible refine PySem.wpAny_bind ?_
  with_reducible refine PySem.wpAny_attempt ?_
  with_reducible refine PySem.wpAny_holding ?_
  wp_delta
  ((with_reducible apply PySem.wpAny_ite_false); focus (rfl; done))
  wp_delta
  with_reducible refine PySem.wpAny_bind ?_
  with_reducible refine PySem.wpAny_of_eq (by assumption) ?_
  ((with_reducible show wpAny _ _ (call (Value.builtin "list.__getattribute__") _ _) _ _ _); refine call_meets F.slot_list_getattribute (hT _) am_entry_list_getattribute (F.args_list_getattribute_2 _ _) (meets_getattribute_miss_list a xs k sl name _ hmiss hname hsz) ⟨hx, hA, fun h' tk' e hx' => ?_⟩)
  exact raised_gen f5 hA hx' h
theorem meth_list {prog : Program} {w : World} {A : Around} {E : Value → Shared → Prop} {s : Shared} {a : Addr} {xs : Array Value} {n : Nat} {pl : Sem Bool} {Q : Value × List Value → Shared → Prop} (hx : s.heap.get? a = some (listOf xs n)) (hA : A.handled = none)
    (h : ∀ h' tk e, Heap.NewExcOf s.heap h' e "AttributeError" → E (.ref e) { s with heap := h', toks := tk }) :
    wpAny (model prog w) A (getMethod (.ref a) (Str.ofString "split") pl) Q E s := by
  have hT : s.TypeIs (.ref a) "list" := ⟨_, hx, rfl⟩
  unfold getMethod
  refine wpAny_bind (wpAny_specialOf hT list_getattribute ?_)
  show wpAny _ A (if (Manifest.canonical "list.__getattribute__" != "object.__getattribute__") = true then _ else _) Q E s
  rw [canon_list_getattribute, if_neg Bool.false_ne_true]
  refine wpAny_bind (wpAny_specialOf hT list_getattr_none ?_)
  refine wpAny_bind (wpAny_specialOf hT miss_list ?_)
  exact wpAny_bind (get0_list hx rfl rfl rfl miss_list (by decide +kernel) hA h (by decide +kernel))
end Mine
end
section -- Ns
open PySem PySem.W PySem.Calls PyProof.Rows
set_option maxRecDepth 100000
namespace Mine
/-- values that have no method split -/
inductive NoSpl (h : Heap) : Value → Prop
  | none : NoSpl h .none
  | bool (b : Bool) : NoSpl h (.bool b)
  | int (i : Int) (t : Tok) : NoSpl h (.int i t)
  | list (l : Addr) (vs : List Value) (n : Nat) (e : h.get? l = some (listOf vs.toArray n)) : NoSpl h (.ref l)
theorem NoSpl.at {h h' : Heap} {v : Value} (k : NoSpl h v) (c : ∀ b o, h.get? b = some o → h'.get? b = some o) : NoSpl h' v := by
  cases k with
  | none => exact .none
  | bool b => exact .bool b
  | int i t => exact .int i t
  | list l vs n e => exact .list l vs n (c _ _ e)
theorem meth_A {prog : Program} {w : World} {A : Around} {E : Value → Shared → Prop} {s : Shared} {v : Value} {pl : Sem Bool} {Q : Value × List Value → Shared → Prop} (k : NoSpl s.heap v) (hA : A.handled = none)
    (h : ∀ h' tk e, Heap.NewExcOf s.heap h' e "AttributeError" → E (.ref e) { s with heap := h', toks := tk }) : wpAny (model prog w) A (getMethod v (Str.ofString "split") pl) Q E s := by
  cases k with
  | none => exact meth_none hA h
  | bool b => exact meth_bool hA h
  | int i t => exact meth_int hA h
  | list l vs n e => exact meth_list e hA h
end Mine
end
section -- Tn
open PySem PySem.W PySem.Calls PyProof.Rows
namespace Mine
set_option maxRecDepth 100000
section
variable {prog : Program} {w : World} {A : Around} {E : Value → Shared → Prop} {s : Shared} {env : Env} {h₀ : Heap} {target : PySem.Expr} {body : List Stmt} {Q : Flow → Shared → Prop}
/-- a turn's end -/
noncomputable def TEnd (h₀ : Heap) (L : Addr) (J : (Str → Option Value) → Prop) (led : List (Addr × Obj)) (s₁ : Shared) (Q : Flow → Shared → Prop) (f : Flow) (s₂ : Shared) : Prop :=
  match f with
  | .ret v => Q (.ret v) s₂
  | .brk => Q .next s₂
  | _ => ∃ h' tk m', s₂ = { s₁ with heap := h', toks := tk } ∧ Fr h₀ L h' m' ∧ News h₀ L h' led ∧ J m'
theorem TEnd.next {h₀ : Heap} {L : Addr} {J : (Str → Option Value) → Prop} {led : List (Addr × Obj)} {s₁ : Shared} {Q : Flow → Shared → Prop} {h' : Heap} {tk : Nat} {m' : Str → Option Value} (F : Fr h₀ L h' m') (N : News h₀ L h' led) (j : J m') : TEnd h₀ L J led s₁ Q .next { s₁ with heap := h', toks := tk } :=
  ⟨h', tk, m', rfl, F, N, j⟩
/-- a loop over a list that lies in the ledger, its items one by one, the names by J -/
theorem turns_list {l : Addr} {lo : Obj} {vs : List Value} {n : Nat} {m₀ : Str → Option Value} {news : List (Addr × Obj)} (J : Nat → (Str → Option Value) → Prop)
    (hh : A.handled = none) (F : Fr h₀ env.locals s.heap m₀) (N : News h₀ env.locals s.heap news) (hm : (l, lo) ∈ news) (hc : lo.cls = .type "list") (hd : lo.data = .seq vs.toArray n) (h0 : J 0 m₀)
    (turn : ∀ (i : Nat) (v : Value) (m₁ : Str → Option Value) h tk own, vs[i]? = some v → J i m₁ → Fr h₀ env.locals h m₁ → News h₀ env.locals h (news ++ own) →
      wpAny (model prog w) A (assign target env v) (fun _ s₃ => wpAny (model prog w) A (execs body env) (TEnd h₀ env.locals (J (i + 1)) (news ++ own) { s with heap := h, toks := tk } Q) E s₃) E { s with heap := h, toks := tk })
    (done : ∀ (m₁ : Str → Option Value) h tk, J vs.length m₁ → Fr h₀ env.locals h m₁ → News h₀ env.locals h news → Q .next { s with heap := h, toks := tk }) :
    wpAny (model prog w) A (pyIter (.ref l)) (fun it s₂ => TurnsAt prog w A h₀ env target body Q E it s₂) E s := by
  have hlx := N _ hm
  have hl : s.heap.IsList l vs.toArray := ⟨lo, hlx.1, hc, n, hd⟩
  have hlt : l < s.heap.objs.size := Heap.lt_size hlx.1
  have hne : l ≠ s.heap.objs.size := Nat.ne_of_lt hlt
  refine wpAny_pyIter_list hl ⟨s.heap.objs.size, [s.heap.objs.size, l], [s.heap.objs.size], vs.toArray.size, _, _, _, m₀, news, fun i m₁ news₁ => news₁ = news ∧ J i m₁, rfl, KTurns.ofWalks (Walks.list hh s.heap.objs.size l hne vs.toArray) (fun i v s Q E st q => letGo_listiter st.1 q), ?_, ?_, ?_, ⟨⟨_, Heap.get?_push_size _ rfl, rfl, rfl⟩, hl.push _⟩, F.push _, (fun p hp => ⟨Heap.get?_push_of_some _ (N p hp).1, (N p hp).2⟩), ⟨rfl, h0⟩, ?_, ?_⟩
  · intro hmm
    rcases List.mem_cons.mp hmm with e | hmm
    · exact absurd F.ns.lt (e ▸ Nat.lt_irrefl _)
    · exact hlx.2.1 (List.mem_singleton.mp hmm).symm
  · intro b hb
    rw [List.mem_singleton.mp hb]
    cases q : h₀.get? s.heap.objs.size with
    | none => rfl
    | some o => exact absurd (Heap.lt_size (F.keep _ _ q)) (Nat.lt_irrefl _)
  · intro p hp hq
    exact absurd (Heap.lt_size (N p hp).1) ((List.mem_singleton.mp hq) ▸ Nat.lt_irrefl _)
  · rintro i v m₁ news₁ h₁ tk₁ own hin hP ⟨rfl, hJ⟩ hnw hof hown _ _ F₁ N₁
    have N₂ : News h₀ env.locals h₁ (news₁ ++ own) := fun p hp => N₁ p ((List.mem_append.mp hp).elim (fun h => List.mem_append.mpr (.inr h)) fun h => List.mem_append.mpr (.inl h))
    refine wpAny_mono (turn i v m₁ h₁ tk₁ own (by simpa using hP) hJ F₁ N₂) (fun _ s₃ h₃ => wpAny_mono h₃ (fun f s₄ h₄ => ?_) fun _ _ e => e) fun _ _ e => e
    have fin : (∃ h' tk m', s₄ = { s with heap := h', toks := tk } ∧ Fr h₀ env.locals h' m' ∧ News h₀ env.locals h' (news₁ ++ own) ∧ J (i + 1) m') → LoopStepU h₀ env.locals [s.heap.objs.size] own (fun m₁ nx => nx = news₁ ∧ J (i + 1) m₁) { s with heap := h₁, toks := tk₁ } .next s₄ := by
      rintro ⟨h', tk, m', e, F', N', hj⟩
      exact ⟨rfl, h', tk, m', news₁, e, F', fun p hp => N' p ((List.mem_append.mp hp).elim (fun h => List.mem_append.mpr (.inr h)) fun h => List.mem_append.mpr (.inl h)), hnw, rfl, hj⟩
    cases f with
    | ret v => exact .ret h₄
    | brk => exact .brk h₄
    | next => exact .next (fin h₄)
    | cont => exact .cont (fin h₄)
  · rintro h' tk m' news' F' N' _ ⟨rfl, hj⟩
    exact done m' h' tk (by simpa using hj) F' N'
end
/-- what came back new goes into the ledger -/
theorem news_add {h₀ h h' : Heap} {L a : Addr} {o : Obj} {m : Str → Option Value} {news : List (Addr × Obj)} (F : Fr h₀ L h m) (N : News h₀ L h' news) (e : h'.get? a = some o) (f : h.get? a = none) : News h₀ L h' ((a, o) :: news) := by
  intro p hp
  rcases List.mem_cons.mp hp with rfl | hp
  · refine ⟨e, fun q => ?_, kts_none F.keep f⟩
    obtain ⟨oL, _, _, hL, _⟩ := F.ns
    have q' : a = L := q
    rw [q', hL] at f; cases f
  · exact N p hp
theorem news_adds {h₀ h h' : Heap} {L : Addr} {m : Str → Option Value} {news : List (Addr × Obj)} (F : Fr h₀ L h m) (N : News h₀ L h' news) : ∀ led : List (Addr × Obj), (∀ p ∈ led, h'.get? p.1 = some p.2 ∧ h.get? p.1 = none) → News h₀ L h' (led ++ news)
  | [], _ => N
  | p :: r, k => news_add F (news_adds F N r fun q hq => k q (List.mem_cons_of_mem _ hq)) (k p (List.mem_cons_self ..)).1 (k p (List.mem_cons_self ..)).2
end Mine
end
section -- Qt
open PySem PySem.W PyProof.Rows
set_option maxRecDepth 100000
namespace Mine
noncomputable def rp (c : Nat) (z : List Nat) (l : List Nat) : List Nat := l.flatMap fun k => if k = c then z else [k]
theorem rp_free (c : Nat) (z : List Nat) : ∀ l : List Nat, c ∉ l → rp c z l = l
  | [], _ => rfl
  | k :: r, h => by
    have h1 : ¬ k = c := fun e => h (e ▸ List.mem_cons_self ..)
    have h2 : c ∉ r := fun m => h (List.mem_cons_of_mem _ m)
    have := rp_free c z r h2
    simp only [rp, List.flatMap_cons] at this ⊢
    rw [this, if_neg h1]; rfl
theorem rp_app (c : Nat) (z a b : List Nat) : rp c z (a ++ b) = rp c z a ++ rp c z b := List.flatMap_append
theorem rp_join (c : Nat) (z : Str) : ∀ parts : List Str, (∀ p ∈ parts, c ∉ p.cps.toList) → rp c z.cps.toList (Str.join ⟨#[c]⟩ parts).cps.toList = (Str.join z parts).cps.toList
  | [], _ => rfl
  | [p], h => rp_free c _ _ (h p (List.mem_singleton.mpr rfl))
  | p :: q :: r, h => by
    have ih := rp_join c z (q :: r) fun a ha => h a (List.mem_cons_of_mem _ ha)
    show rp c z.cps.toList (p ++ ⟨#[c]⟩ ++ Str.join ⟨#[c]⟩ (q :: r)).cps.toList = (p ++ z ++ Str.join z (q :: r)).cps.toList
    simp only [PySem.Str.cps_append, Array.toList_append]
    rw [rp_app, rp_app, ih, rp_free c _ _ (h p (List.mem_cons_self ..))]
    simp [rp]
theorem rp_replace (x z : Str) (c : Nat) : (Txt.replace x ⟨#[c]⟩ z).cps.toList = rp c z.cps.toList x.cps.toList := by
  rw [StrLaws.replace_one, ← rp_join c z _ (StrLaws.split_free x c), StrLaws.join_split]
theorem rp_len (c : Nat) (z : List Nat) (hz : z.length ≤ 4) : ∀ l : List Nat, (rp c z l).length ≤ 4 * l.length
  | [] => Nat.le_refl _
  | k :: r => by
    have := rp_len c z hz r
    simp only [rp, List.flatMap_cons, List.length_append, List.length_cons] at this ⊢
    split
    · (first | lia | omega)
    · simp only [List.length_cons, List.length_nil]; (first | lia | omega)
section
variable {prog : Program} {w : World} {A : Around} {E : Value → Shared → Prop} {s : Shared} {x y z : Str} {t u v : Nat} {Q : Value → Shared → Prop}
theorem my_replace (c : Nat) (hy : y = ⟨#[c]⟩) (hu : u ≠ 0) (hv : v ≠ 0) (huv : u ≠ v) (hyz : (y == z) = false) (hx : x.length ≤ 1048576) (hz : z.length ≤ 4)
    (hq : ∀ x' t' k, x' = T (rp c z.cps.toList x.cps.toList) → x'.length ≤ 4 * x.length → Q (.str x' t') { s with toks := k }) :
    wpAny (model prog w) A (call (.builtin "str.replace") [.str x t, .str y u, .str z v]) Q E s := by
  refine SC.replaceW hu hv huv hyz hx (by (first | lia | omega)) fun t' k => ?_
  have e : Txt.replace x y z = T (rp c z.cps.toList x.cps.toList) := by
    rw [hy, ← rp_replace, T_of]
  refine hq _ _ _ e ?_
  rw [e, T_len]
  exact rp_len c _ (by simpa [Str.length] using hz) _
end
theorem qt_rp (l : List Nat) : rp 160 [92, 120, 97, 48] (rp 31 [92, 120, 49, 102] (rp 11 [92, 120, 48, 98] (rp 10 [92, 110] (rp 9 [92, 116] l)))) = l.flatMap esc := by
  induction l with
  | nil => rfl
  | cons k r ih =>
    have e : ∀ a : List Nat, k :: r = [k] ++ r := fun _ => rfl
    rw [e [], rp_app, rp_app, rp_app, rp_app, rp_app, ih, List.flatMap_append]
    congr 1
    simp only [esc, List.flatMap_cons, List.flatMap_nil, List.append_nil]
    simp only [rp, List.flatMap_cons, List.flatMap_nil, List.append_nil]
    by_cases h9 : k = 9
    · subst h9; rfl
    by_cases h10 : k = 10
    · subst h10; rfl
    by_cases h11 : k = 11
    · subst h11; rfl
    by_cases h31 : k = 31
    · subst h31; rfl
    by_cases h160 : k = 160
    · subst h160; rfl
    simp [h9, h10, h11, h31, h160]
theorem qt_end (l : List Nat) {a b : Str} {c1 c2 c3 c4 c5 : Nat} {z1 z2 z3 z4 z5 : List Nat} (ha : a = T [39]) (hb : b = T [39]) (h1 : c1 = 9) (h2 : c2 = 10) (h3 : c3 = 11) (h4 : c4 = 31) (h5 : c5 = 160)
    (g1 : z1 = [92, 116]) (g2 : z2 = [92, 110]) (g3 : z3 = [92, 120, 48, 98]) (g4 : z4 = [92, 120, 49, 102]) (g5 : z5 = [92, 120, 97, 48]) :
    a ++ T (rp c5 z5 (rp c4 z4 (rp c3 z3 (rp c2 z2 (rp c1 z1 l))))) ++ b = T (qt l) := by
  subst ha hb h1 h2 h3 h4 h5 g1 g2 g3 g4 g5
  rw [qt_rp, T_app, T_app]; rfl
noncomputable def tup2 (a b : Value) : Obj := { cls := .type "tuple", data := .seq [a, b].toArray 0 }
theorem fr_one {h₀ h : Heap} {L : Addr} {m₁ : Str → Option Value} {a : Str} {v : Value} (F : Fr h₀ L h m₁) (h1 : m₁ a = some v) : Fr h₀ L h (fun y => if y = a then some v else m₁ y) := by
  have : (fun y => if y = a then some v else m₁ y) = m₁ := funext fun y => by
    by_cases e1 : y = a
    · rw [if_pos e1, e1, h1]
    · rw [if_neg e1]
  rwa [this]
/-- what the text is ahead of turn i -/
noncomputable def qst (l : List Nat) : Nat → List Nat
  | 0 => l
  | 1 => rp 9 [92, 116] l
  | 2 => rp 10 [92, 110] (rp 9 [92, 116] l)
  | 3 => rp 11 [92, 120, 48, 98] (rp 10 [92, 110] (rp 9 [92, 116] l))
  | 4 => rp 31 [92, 120, 49, 102] (rp 11 [92, 120, 48, 98] (rp 10 [92, 110] (rp 9 [92, 116] l)))
  | _ => rp 160 [92, 120, 97, 48] (rp 31 [92, 120, 49, 102] (rp 11 [92, 120, 48, 98] (rp 10 [92, 110] (rp 9 [92, 116] l))))
theorem rp_le {c : Nat} {z l : List Nat} {n : Nat} (hz : z.length ≤ 4) (h : l.length ≤ n) : (rp c z l).length ≤ 4 * n := Nat.le_trans (rp_len c z hz l) (Nat.mul_le_mul_left 4 h)
theorem qst_len {l : List Nat} (hl : l.length ≤ 70) (i : Nat) : (qst l i).length ≤ 100000 := by
  have h1 : (qst l 1).length ≤ _ := rp_le (by decide) hl
  have h2 : (qst l 2).length ≤ _ := rp_le (by decide) h1
  have h3 : (qst l 3).length ≤ _ := rp_le (by decide) h2
  have h4 : (qst l 4).length ≤ _ := rp_le (by decide) h3
  have h5 : (qst l 5).length ≤ _ := rp_le (by decide) h4
  match i with
  | 0 => exact Nat.le_trans hl (by decide)
  | 1 => exact Nat.le_trans h1 (by decide)
  | 2 => exact Nat.le_trans h2 (by decide)
  | 3 => exact Nat.le_trans h3 (by decide)
  | 4 => exact Nat.le_trans h4 (by decide)
  | _ + 5 => exact Nat.le_trans h5 (by decide)
/-- the five signs with their spellings, the tokens told -/
structure QTok (u v : Nat) : Prop where
  u0 : u ≠ 0
  v0 : v ≠ 0
  uv : u ≠ v
theorem turns_q {prog : Program} {w : World} {A : Around} {E : Value → Shared → Prop} {env : Env} {h₀ hp : Heap} {g : Array GenState} {d : Drawn} {tk : Nat} {os : OsState} {target : PySem.Expr} {body : List Stmt} {Q : Flow → Shared → Prop}
    {l : List Nat} {tx : Tok} {lo t1 t2 t3 t4 t5 : Addr} {u1 u2 u3 u4 u5 v1 v2 v3 v4 v5 : Nat} {m₀ : Str → Option Value} {rest : List (Addr × Obj)}
    (hl : l.length ≤ 70) (hh : A.handled = none) (F : Fr h₀ env.locals hp m₀)
    (N : News h₀ env.locals hp ((lo, listOf [.ref t1, .ref t2, .ref t3, .ref t4, .ref t5].toArray 0) :: (t5, tup2 (.str (Str.ofString "\u00a0") u5) (.str (Str.ofString "\\xa0") v5)) :: (t4, tup2 (.str (Str.ofString "\x1f") u4) (.str (Str.ofString "\\x1f") v4)) :: (t3, tup2 (.str (Str.ofString "\x0b") u3) (.str (Str.ofString "\\x0b") v3)) :: (t2, tup2 (.str (Str.ofString "\n") u2) (.str (Str.ofString "\\n") v2)) :: (t1, tup2 (.str (Str.ofString "\t") u1) (.str (Str.ofString "\\t") v1)) :: rest))
    (ht : m₀ (Str.ofString "text") = some (.str (T l) tx)) (k1 : QTok u1 v1) (k2 : QTok u2 v2) (k3 : QTok u3 v3) (k4 : QTok u4 v4) (k5 : QTok u5 v5)
    (turn : ∀ (t : Addr) (y z : Str) (c : Nat) (ua ub : Nat) (xs : List Nat) (tx : Tok) (led : List (Addr × Obj)) (m₁ : Str → Option Value) (h : Heap) (tk₁ : Nat) (Qe : Flow → Shared → Prop) (Ee : Value → Shared → Prop),
      y = ⟨#[c]⟩ → (y == z) = false → z.length ≤ 4 → xs.length ≤ 100000 → QTok ua ub → Fr h₀ env.locals h (fun n => if n = Str.ofString "text" then some (.str (T xs) tx) else m₁ n) →
      News h₀ env.locals h ((t, tup2 (.str y ua) (.str z ub)) :: led) →
      (∀ h' tk' m' tx', Fr h₀ env.locals h' m' → News h₀ env.locals h' led → m' (Str.ofString "text") = some (.str (T (rp c z.cps.toList xs)) tx') → Qe .next ⟨h', g, d, tk', os⟩) →
      wpAny (model prog w) A (assign target env (.ref t)) (fun _ s₃ => wpAny (model prog w) A (execs body env) Qe Ee s₃) Ee ⟨h, g, d, tk₁, os⟩)
    (done : ∀ (m₁ : Str → Option Value) h tk' tx', Fr h₀ env.locals h (fun n => if n = Str.ofString "text" then some (.str (T (qst l 5)) tx') else m₁ n) → News h₀ env.locals h [] → Q .next ⟨h, g, d, tk', os⟩) :
    wpAny (model prog w) A (pyIter (.ref lo)) (fun it s₂ => TurnsAt prog w A h₀ env target body Q E it s₂) E ⟨hp, g, d, tk, os⟩ := by
  refine turns_list (vs := [.ref t1, .ref t2, .ref t3, .ref t4, .ref t5]) (fun i m => ∃ tx, m (Str.ofString "text") = some (.str (T (qst l i)) tx)) hh F N (List.Mem.head _) rfl rfl ⟨tx, ht⟩ ?_ fun m₁ h tk' hj F' _ => by obtain ⟨tx', hx⟩ := hj; exact done m₁ h tk' tx' (fr_one F' hx) News.nil
  rintro j v m₁ h tk₁ own hv ⟨tx₁, hx₁⟩ F₁ N₁
  have F₂ := fr_one F₁ hx₁
  have hlen := qst_len hl j
  have go : ∀ (led : List (Addr × Obj)), News h₀ env.locals h led → ∀ (t : Addr) (y z : Str) (c : Nat) (ua ub : Nat), y = ⟨#[c]⟩ → (y == z) = false → z.length ≤ 4 → QTok ua ub → rp c z.cps.toList (qst l j) = qst l (j + 1) → (t, tup2 (.str y ua) (.str z ub)) ∈ led →
      wpAny (model prog w) A (assign target env (.ref t)) (fun _ s₃ => wpAny (model prog w) A (execs body env) (TEnd h₀ env.locals (fun m => ∃ tx, m (Str.ofString "text") = some (.str (T (qst l (j + 1))) tx)) led ⟨h, g, d, tk₁, os⟩ Q) E s₃) E ⟨h, g, d, tk₁, os⟩ := fun led N₁ t y z c ua ub e1 e2 e3 e4 e5 hm =>
    turn t y z c ua ub (qst l j) tx₁ led m₁ h tk₁ (TEnd h₀ env.locals (fun m => ∃ tx, m (Str.ofString "text") = some (.str (T (qst l (j + 1))) tx)) led ⟨h, g, d, tk₁, os⟩ Q) E e1 e2 e3 hlen e4 F₂ (fun p hp => (List.mem_cons.mp hp).elim (fun e => e ▸ N₁ _ hm) fun hp => N₁ p hp) fun h' tk' m' tx' F' N' e => TEnd.next F' N' ⟨tx', by rw [← e5]; exact e⟩
  rcases j with _ | _ | _ | _ | _ | j
  · obtain rfl := Option.some.inj hv
    exact go _ N₁ _ _ _ 9 _ _ (by decide +kernel) (by decide +kernel) (by decide +kernel) k1 (by rfl) (List.mem_append.mpr (.inl (.tail _ (.tail _ (.tail _ (.tail _ (.tail _ (.head _))))))))
  · obtain rfl := Option.some.inj hv
    exact go _ N₁ _ _ _ 10 _ _ (by decide +kernel) (by decide +kernel) (by decide +kernel) k2 (by rfl) (List.mem_append.mpr (.inl (.tail _ (.tail _ (.tail _ (.tail _ (.head _)))))))
  · obtain rfl := Option.some.inj hv
    exact go _ N₁ _ _ _ 11 _ _ (by decide +kernel) (by decide +kernel) (by decide +kernel) k3 (by rfl) (List.mem_append.mpr (.inl (.tail _ (.tail _ (.tail _ (.head _))))))
  · obtain rfl := Option.some.inj hv
    exact go _ N₁ _ _ _ 31 _ _ (by decide +kernel) (by decide +kernel) (by decide +kernel) k4 (by rfl) (List.mem_append.mpr (.inl (.tail _ (.tail _ (.head _)))))
  · obtain rfl := Option.some.inj hv
    exact go _ N₁ _ _ _ 160 _ _ (by decide +kernel) (by decide +kernel) (by decide +kernel) k5 (by rfl) (List.mem_append.mpr (.inl (.tail _ (.head _))))
  · cases hv
end Mine
end
section -- Tn2
open PySem PySem.W PySem.Calls PyProof.Rows
namespace Mine
set_option maxRecDepth 100000
section
variable {prog : Program} {w : World} {A : Around} {E : Value → Shared → Prop} {s : Shared} {h₀ : Heap} {L t : Addr} {m : Str → Option Value} {news : List (Addr × Obj)}
theorem sum_K {vs : List Value} {ns : List Int} {Q : Value → Shared → Prop} (hh : A.handled = none) (F : Fr h₀ L s.heap m) (N : News h₀ L s.heap news) (hl : s.heap.IsList t vs.toArray) (hi : IntsAre vs ns)
    (h : ∀ h' tk t', Fr h₀ L h' m → News h₀ L h' news → Q (.int ns.sum t') { s with heap := h', toks := tk }) :
    wpAny (model prog w) A (call (.builtin "sum") [.ref t]) Q E s := by
  obtain ⟨xs, hx⟩ := hi.allInts.items
  have hn : numsOf vs.toArray.toList = ns := by rw [show vs.toArray.toList = vs from rfl, hi.numsOf]
  rw [hx] at hl hn
  rw [nums_intItems] at hn
  refine sum_intListG hh hl fun h' tk t' hk => ?_
  have := h h' tk t' (F.keeps hk) (N.grown hk)
  rw [preSum_eq, List.take_of_length_le (by simp), hn]
  exact this
end
end Mine
namespace Mine
theorem fr_two {h₀ h : Heap} {L : Addr} {m₁ : Str → Option Value} {a b : Str} {v u : Value} (F : Fr h₀ L h m₁) (h1 : m₁ a = some v) (h2 : m₁ b = some u) : Fr h₀ L h (fun y => if y = a then some v else if y = b then some u else m₁ y) := by
  have : (fun y => if y = a then some v else if y = b then some u else m₁ y) = m₁ := funext fun y => by
    by_cases e1 : y = a
    · rw [if_pos e1, e1, h1]
    · rw [if_neg e1]
      by_cases e2 : y = b
      · rw [if_pos e2, e2, h2]
      · rw [if_neg e2]
  rwa [this]
theorem OkKinds.len {ks : List (List Nat)} (h : OkKinds ks) : (ks.map List.length).sum + ks.length ≤ 66 := h.2.2
theorem OkKinds.ne {ks : List (List Nat)} (h : OkKinds ks) : ks ≠ [] := by
  obtain ⟨⟨r, rest, rfl⟩, _⟩ := h; simp
end Mine
end
section
open PySem PySem.W PyProof.Rows
namespace Mine
local macro_rules | `(tactic| k_room) => `(tactic| ktr_room)
local macro_rules | `(tactic| passes_own) => `(tactic| exact PySem.PassesOwn.leaving)
section -- C_figures
open PySem PySem.W PyProof.Rows
set_option maxRecDepth 100000
set_option maxHeartbeats 8000000 
theorem off_C_figures : True := by (w_top off); trivial
theorem fig_all : ∀ k < 50, ((9 < (if ((k : Nat) : Int) - 20 < 0 then -((k : Int) - 20) else (k : Int) - 20)) → ((k : Int) - 20 < 0) → Str.ofString "-" ++ (Txt.item (Str.ofString "0123456789") (Int.fdiv (if (k : Int) - 20 < 0 then -((k : Int) - 20) else (k : Int) - 20) 10) ++ Txt.item (Str.ofString "0123456789") (Int.fmod (if (k : Int) - 20 < 0 then -((k : Int) - 20) else (k : Int) - 20) 10)) = Str.ofString (toString ((k : Int) - 20)))
   ∧ ((9 < (if ((k : Nat) : Int) - 20 < 0 then -((k : Int) - 20) else (k : Int) - 20)) → ¬ ((k : Int) - 20 < 0) → (Txt.item (Str.ofString "0123456789") (Int.fdiv (if (k : Int) - 20 < 0 then -((k : Int) - 20) else (k : Int) - 20) 10) ++ Txt.item (Str.ofString "0123456789") (Int.fmod (if (k : Int) - 20 < 0 then -((k : Int) - 20) else (k : Int) - 20) 10)) = Str.ofString (toString ((k : Int) - 20)))
   ∧ (¬ (9 < (if ((k : Nat) : Int) - 20 < 0 then -((k : Int) - 20) else (k : Int) - 20)) → ((k : Int) - 20 < 0) → Str.ofString "-" ++ Txt.item (Str.ofString "0123456789") (Int.fmod (if (k : Int) - 20 < 0 then -((k : Int) - 20) else (k : Int) - 20) 10) = Str.ofString (toString ((k : Int) - 20)))
   ∧ (¬ (9 < (if ((k : Nat) : Int) - 20 < 0 then -((k : Int) - 20) else (k : Int) - 20)) → ¬ ((k : Int) - 20 < 0) → Txt.item (Str.ofString "0123456789") (Int.fmod (if (k : Int) - 20 < 0 then -((k : Int) - 20) else (k : Int) - 20) 10) = Str.ofString (toString ((k : Int) - 20))) := by decide +kernel
theorem fig_at (i : Int) (h1 : -20 ≤ i) (h2 : i ≤ 29) : ((9 < (if i < 0 then -i else i)) → (i < 0) → Str.ofString "-" ++ (Txt.item (Str.ofString "0123456789") (Int.fdiv (if i < 0 then -i else i) 10) ++ Txt.item (Str.ofString "0123456789") (Int.fmod (if i < 0 then -i else i) 10)) = Str.ofString (toString i))
   ∧ ((9 < (if i < 0 then -i else i)) → ¬ (i < 0) → (Txt.item (Str.ofString "0123456789") (Int.fdiv (if i < 0 then -i else i) 10) ++ Txt.item (Str.ofString "0123456789") (Int.fmod (if i < 0 then -i else i) 10)) = Str.ofString (toString i))
   ∧ (¬ (9 < (if i < 0 then -i else i)) → (i < 0) → Str.ofString "-" ++ Txt.item (Str.ofString "0123456789") (Int.fmod (if i < 0 then -i else i) 10) = Str.ofString (toString i))
   ∧ (¬ (9 < (if i < 0 then -i else i)) → ¬ (i < 0) → Txt.item (Str.ofString "0123456789") (Int.fmod (if i < 0 then -i else i) 10) = Str.ofString (toString i)) := by
  obtain ⟨k, hk, rfl⟩ : ∃ k : Nat, k < 50 ∧ i = (k : Int) - 20 := ⟨(i + 20).toNat, by (first | lia | omega), by (first | lia | omega)⟩
  exact fig_all k hk

theorem c_figures (w mean mg mb) (i : Int) (t : Tok) (h1 : -20 ≤ i) (h2 : i ≤ 29) : Con w mean mg mb 3 60 (.ref 151) [.int i t] [] (fun _ => True) (fun _ _ v => ∃ u, v = .str (Str.ofString (toString i)) u) := by
  unfold Con
  k_fill
  intro dp un gd cn cs a ccd cl outer A₀ base h₀ L m s Q E B F X T hk hp hd hu hret
  
  refine wpAny_call ?_
  k_dflt (
    (refine' code_pure (by assumption) (by assumption) (by assumption) (by assumption) ?kA ?kF ?kK ?k6 ?k7 ?k8 ?k9 ?kB (by assumption) ?_ ?c1 ?c2 ?c3 ?c4 ?c5)
    (case kA => exact rfl); (case kF => exact rfl); (case kK => assumption)
    (case k6 => k_is); (case k7 => k_is); (case k8 => ktr_room)
    (case k9 => first | exact BindsTo.of_eq rfl | exact binds_K (by k_in) rfl (by k_is) rfl rfl rfl | fail "binds")
    (case c5 => decide); (case kB => exact locs rfl); (case c1 => exact Nat.succ_pos _); (case c2 => exact rfl); (case c3 => exact rfl); (case c4 => exact rfl)
    intro g' L' h' tk0' htk0' hP' hg' F' N' B' X' T'; (try dsimp only); (try k_lift B'); (try k_fold))
  rename Giv _ _ => hP'
  
  k_steps
  all_goals (rename Fr _ _ _ _ => zF)
  all_goals (show Q _ _)
  all_goals dsimp only
  all_goals (refine ret_go (s := s) hret (by assumption) zF ⟨_, congrArg (Value.str · _) ?_⟩)
  all_goals first
    | exact (fig_at i h1 h2).1 (by assumption) (by assumption)
    | exact (fig_at i h1 h2).2.1 (by assumption) (by assumption)
    | exact (fig_at i h1 h2).2.2.1 (by assumption) (by assumption)
    | exact (fig_at i h1 h2).2.2.2 (by assumption) (by assumption)
end
section -- C_capped
open PySem PySem.W PyProof.Rows
set_option maxRecDepth 100000
set_option maxHeartbeats 8000000 
theorem off_C_capped : True := by (w_top off); trivial
theorem cap_start (l : List Nat) : Str.ofString "" = Mine.T ((capL l).take ([] : List Int).length) ∧ (Str.ofString "").length ≤ 4000 := ⟨rfl, by decide +kernel⟩
theorem c_capped (w mean mg mb) (l : List Nat) (t : Tok) (hx : l.length ≤ 4000) (hf : ∀ c ∈ l, Fine c) : Con w mean mg mb 3 60 (.ref 177) [.str (Mine.T l) t] [] (fun _ => True) (fun _ _ v => ∃ u, v = .str (Mine.T (capL l)) u) := by
  unfold Con
  k_fill
  intro dp un gd cn cs a ccd cl outer A₀ base h₀ L m s Q E B F X T hk hp hd hu hret
  have hx1 : (Mine.T l).length ≤ 4000 := by rw [T_len]; exact hx
  generalize hx1' : Mine.T l = x at hx1 ⊢
  refine wpAny_call ?_
  k_dflt (
    (refine' code_pure (by assumption) (by assumption) (by assumption) (by assumption) ?kA ?kF ?kK ?k6 ?k7 ?k8 ?k9 ?kB (by assumption) ?_ ?c1 ?c2 ?c3 ?c4 ?c5)
    (case kA => exact rfl); (case kF => exact rfl); (case kK => assumption)
    (case k6 => k_is); (case k7 => k_is); (case k8 => ktr_room)
    (case k9 => first | exact BindsTo.of_eq rfl | exact binds_K (by k_in) rfl (by k_is) rfl rfl rfl | fail "binds")
    (case c5 => decide); (case kB => exact locs rfl); (case c1 => exact Nat.succ_pos _); (case c2 => exact rfl); (case c3 => exact rfl); (case c4 => exact rfl)
    intro g' L' h' tk0' htk0' hP' hg' F' N' B' X' T'; (try dsimp only); (try k_lift B'); (try k_fold))
  rename Giv _ _ => hP'
  k_with "pyIter ref" => k_state (fun pre a => a = Mine.T ((capL l).take pre.length) ∧ a.length ≤ 4000) "capped"
  k_with "state" => with_unfolding_all first | exact cap_start l | exact cap_step hx1' hf hx1 (by assumption) (by assumption) (by assumption) (by assumption) (.inl ⟨rfl, .inl (by assumption)⟩) | exact cap_step hx1' hf hx1 (by assumption) (by assumption) (by assumption) (by assumption) (.inl ⟨rfl, .inr (by assumption)⟩) | exact cap_step hx1' hf hx1 (by assumption) (by assumption) (by assumption) (by assumption) (.inr ⟨rfl, by assumption, by assumption⟩)

  k_steps
  k_with_none
  rename Fr _ _ _ _ => zF
  rename (_ = Mine.T _) => zE
  show Q _ _
  dsimp only
  refine ret_go (s := s) hret (by assumption) zF ⟨_, congrArg (Value.str · _) ?_⟩
  rw [zE]
  rw [List.take_of_length_le]
  rw [rangeKs_length, capL_len, ← hx1', T_len]
  (first | lia | omega)
end
section -- C_words
open PySem PySem.W PyProof.Rows
set_option maxRecDepth 100000
set_option maxHeartbeats 8000000 
theorem off_C_words : True := by (w_top off); trivial
noncomputable def wst : List (List Nat) × Bool → Nat → List (List Nat) × Bool
  | (ws, b), c => if isSp c then (ws, false) else if b then (ws.dropLast ++ [ws.getLast?.getD [] ++ [lo c]], true) else (ws ++ [[up c]], true)
theorem wst_all (l : List Nat) : ∀ ws b, (l.foldl wst (ws, b)).1 = wordsGo ws b l := by
  induction l with
  | nil => intro ws b; rfl
  | cons c r ih =>
    intro ws b
    simp only [List.foldl_cons, wst, wordsGo]
    split
    · exact ih _ _
    · split
      · exact ih _ _
      · exact ih _ _
noncomputable def WOk (n : Nat) (st : List (List Nat) × Bool) : Prop := (st.2 = true → st.1 ≠ []) ∧ st.1.length ≤ n ∧ (st.1.map List.length).sum ≤ n
theorem le_sumL {k : List Nat} : ∀ {ks : List (List Nat)}, k ∈ ks → k.length ≤ (ks.map List.length).sum
  | a :: r, h => by
    rcases List.mem_cons.mp h with rfl | h
    · simp
    · have := le_sumL h
      simp only [List.map_cons, List.sum_cons]; (first | lia | omega)
theorem sum_drop_last (x : List Nat) : ∀ ks : List (List Nat), ks ≠ [] → ((ks.dropLast ++ [ks.getLast?.getD [] ++ x]).map List.length).sum = (ks.map List.length).sum + x.length
  | [], h => absurd rfl h
  | [a], _ => by simp
  | a :: b :: r, _ => by
    have ih := sum_drop_last x (b :: r) (by simp)
    rw [List.getLast?_cons_cons]
    simp only [List.dropLast_cons_cons, List.cons_append, List.map_cons, List.sum_cons] at ih ⊢
    (first | lia | omega)
theorem wst_ok1 {n : Nat} {st : List (List Nat) × Bool} (c : Nat) (h : WOk n st) : WOk (n + 1) (wst st c) := by
  obtain ⟨ws, b⟩ := st
  obtain ⟨h1, h2, h3⟩ := h
  unfold wst
  simp only at h1 h2 h3 ⊢
  split
  · exact ⟨fun h => absurd h (by simp), by simp only; (first | lia | omega), by simp only; (first | lia | omega)⟩
  · split
    · rename_i hb
      have hp := List.length_pos_iff.mpr (h1 hb)
      refine ⟨fun _ => by simp, ?_, ?_⟩
      · simp only [List.length_append, List.length_dropLast, List.length_singleton]; (first | lia | omega)
      · simp only
        rw [sum_drop_last _ _ (h1 hb)]; simp only [List.length_singleton]; (first | lia | omega)
    · exact ⟨fun _ => by simp, by simp only [List.length_append, List.length_singleton]; (first | lia | omega), by simp only [List.map_append, List.sum_append]; simp; (first | lia | omega)⟩
theorem wst_ok (l : List Nat) : ∀ n st, WOk n st → WOk (n + l.length) (l.foldl wst st) := by
  induction l with
  | nil => intro n st h; exact h
  | cons c r ih =>
    intro n st h
    have := ih (n + 1) _ (wst_ok1 c h)
    rw [List.length_cons, show n + (r.length + 1) = n + 1 + r.length from by (first | lia | omega)]
    exact this
theorem wst_ok0 (l : List Nat) : WOk l.length (l.foldl wst ([], false)) := by
  have := wst_ok l 0 ([], false) ⟨fun h => absurd h (by simp), by simp, by simp⟩
  rwa [Nat.zero_add] at this
theorem sp_of {n : Nat} {b : Bool} (h : (Builtin.Str.occurrences (Str.ofString " 	
 ") (⟨#[n]⟩ : Str) 0 (Str.ofString " 	
 ").length 1).isEmpty = b) : isSp n = !b := by
  have := StrLaws.found_one (Str.ofString " 	
 ") n
  rw [h] at this
  rw [this]
  have e : (Str.ofString " 	
 ").cps.toList = [32, 9, 10, 11, 31, 160] := by decide +kernel
  rw [e]
  unfold isSp
  simp only [List.mem_cons, List.not_mem_nil, or_false, Bool.decide_or, Bool.or_assoc]
  rfl
theorem P_sp {ks : List (List Nat)} {b : Bool} {pre : List Int} {n : Nat} (hst : (ks, b) = (pre.map Int.toNat).foldl wst ([], false)) (h : isSp n = true) : (ks, false) = ((pre ++ [(n : Int)]).map Int.toNat).foldl wst ([], false) := by
  rw [List.map_append, List.foldl_append, ← hst]
  simp [wst, h]
theorem P_new {ks : List (List Nat)} {pre : List Int} {n : Nat} (hst : (ks, false) = (pre.map Int.toNat).foldl wst ([], false)) (h : isSp n = false) : (ks ++ [[up n]], true) = ((pre ++ [(n : Int)]).map Int.toNat).foldl wst ([], false) := by
  rw [List.map_append, List.foldl_append, ← hst]
  simp [wst, h]
theorem P_grow {ks : List (List Nat)} {pre : List Int} {n : Nat} (hst : (ks, true) = (pre.map Int.toNat).foldl wst ([], false)) (h : isSp n = false) : (ks.dropLast ++ [ks.getLast?.getD [] ++ [lo n]], true) = ((pre ++ [(n : Int)]).map Int.toNat).foldl wst ([], false) := by
  rw [List.map_append, List.foldl_append, ← hst]
  simp [wst, h]
theorem last_T (ks : List (List Nat)) : (ks.map Mine.T).getLast?.getD Str.empty = Mine.T (ks.getLast?.getD []) := by
  rw [List.getLast?_map]
  cases ks.getLast? <;> rfl
theorem codes_T (l : List Nat) : (KStt.codes (Mine.T l)).map Int.toNat = l := by
  unfold KStt.codes
  rw [T_cps, List.map_map]
  conv => rhs; rw [← List.map_id l]
  exact List.map_congr_left fun c _ => by simp
section
variable {prog : Program} {w : World} {A : Around} {E : Value → Shared → Prop} {s : Shared} {h₀ : Heap} {L D : Addr} {m : Str → Option Value} {news news' : List (Addr × Obj)} {vs : List Value} {n : Nat} {k : Int} {t : Tok}
theorem sub_last' {value slice : PySem.Expr} {xs : List Str} {B : Nat} {Q : Value → Shared → Prop} (N : News h₀ L s.heap news) (hm : (D, listOf vs.toArray n) ∈ news) (hS : StrsAre vs xs) (hne : xs ≠ []) (hB : ∀ y ∈ xs, y.length ≤ B) (hk : k = -1) (h : ∀ y t', y = xs.getLast?.getD Str.empty → y.length ≤ B → Q (.str y t') s)
    (hs : subscripted slice false (.ref D) (.int k t) = operate [.ref D, .int k t] (getItem (.ref D) (.int k t)) := by with_unfolding_all rfl) :
    wpAny (model prog w) A (subscriptTail value slice (.ref D) (.int k t)) Q E s :=
  sub_last N hm hS hne hk (fun t' => h _ t' rfl (by
    cases hl : xs.getLast? with
    | none => exact absurd (List.getLast?_eq_none_iff.mp hl) hne
    | some z => exact hB z (List.mem_of_getLast? hl))) hs
end
local macro_rules | `(tactic| walk_at "exec For Name Name cons nil") => `(tactic| (refine Stp.out ?_))
local macro_rules | `(tactic| walk_at "pyIter str") => `(tactic| (refine Stp.out ?_))
local macro_rules | `(tactic| walk_at "InvEndN") => `(tactic| (refine Stp.out ?_))
local macro_rules | `(tactic| walk_at "call builtin:str.join") => `(tactic| (refine Stp.out ?_))
local macro_rules | `(tactic| walk_at "subscriptTail") => `(tactic| (refine Stp.out ?_))
local macro_rules | `(tactic| walk_at "setItem ref int") => `(tactic| (refine Stp.out ?_))
local macro_rules | `(tactic| walk_at "call builtin:list.append") => `(tactic| (refine Stp.out ?_))

theorem c_words (w mean mg mb) (l : List Nat) (t : Tok) (hx : l.length ≤ 4000) (hf : ∀ c ∈ l, Fine c) : Con w mean mg mb 3 60 (.ref 163) [.str (Mine.T l) t] [] (fun _ => True) (fun _ _ v => ∃ u, v = .str (Mine.T (wordsL l)) u) := by
  unfold Con
  k_fill
  intro dp un gd cn cs a ccd cl outer A₀ base h₀ L m s Q E B F X T hk hp hd hu hret
  have hx1 : (Mine.T l).length ≤ 4000 := by rw [T_len]; exact hx
  generalize hx1' : Mine.T l = x at hx1 ⊢
  refine wpAny_call ?_
  k_dflt (
    (refine' code_pure (by assumption) (by assumption) (by assumption) (by assumption) ?kA ?kF ?kK ?k6 ?k7 ?k8 ?k9 ?kB (by assumption) ?_ ?c1 ?c2 ?c3 ?c4 ?c5)
    (case kA => exact rfl); (case kF => exact rfl); (case kK => assumption)
    (case k6 => k_is); (case k7 => k_is); (case k8 => ktr_room)
    (case k9 => first | exact BindsTo.of_eq rfl | exact binds_K (by k_in) rfl (by k_is) rfl rfl rfl | fail "binds")
    (case c5 => decide); (case kB => exact locs rfl); (case c1 => exact Nat.succ_pos _); (case c2 => exact rfl); (case c3 => exact rfl); (case c4 => exact rfl)
    intro g' L' h' tk0' htk0' hP' hg' F' N' B' X' T'; (try dsimp only); (try k_lift B'); (try k_fold))
  rename Giv _ _ => hP'
  
  k_steps
  refine ⟨?_⟩
  (rename Fr _ _ _ _ => lF')
  (refine' For_invVF ?F ?k1 ?k2 ?_ ?hs ?hE; (case F => with_unfolding_all exact lF'); (case k1 => with_unfolding_all exact rfl); (case k2 => with_unfolding_all exact rfl); (case hs => (intro _; with_unfolding_all rfl)); (case hE => with_unfolding_all passes_own); k_whole)
  k_steps
  refine ⟨?_⟩
  rename Fr _ _ _ _ => zF
  rename News _ _ _ _ => zN
  with_unfolding_all refine KStt.kst_text (σ := List Value × Nat × Bool) (fun c => [(_, listOf c.1.toArray c.2.1)]) (fun c => [(Str.ofString "begun", .bool c.2.2)]) (fun _ => True) [] (fun pre c => ∃ ks, StrsAre c.1 (ks.map Mine.T) ∧ (ks, c.2.2) = (pre.map Int.toNat).foldl wst ([], false)) ([], 0, false) (by rfl) zF zN trivial (by simp) ⟨[], .nil, rfl⟩ ?_ ?_
  · rintro ⟨vs, nn, b⟩ pre post n tn u hh tk own hpre hoff _ ⟨ks, hS, hst⟩ zF2 zN2
    have hoff2 : ∀ p ∈ own, p.1 ≠ _ := fun p hp => hoff p hp _ (List.Mem.head _)
    have hlp : pre.length + 1 ≤ 4000 := by
      have e1 := congrArg List.length hpre
      rw [KStt.codes_length, List.length_append, List.length_cons] at e1
      (first | lia | omega)
    have hok := wst_ok0 (pre.map Int.toNat)
    rw [← hst, List.length_map] at hok
    have hn : Fine n := by
      have : (n : Int) ∈ KStt.codes x := by rw [hpre]; simp
      unfold KStt.codes at this
      obtain ⟨c, hc, e⟩ := List.mem_map.mp this
      have e : c = n := by (first | lia | omega)
      subst e
      exact hf _ (by rw [← hx1', T_cps] at hc; exact hc)
    have hB : ∀ y ∈ ks.map Mine.T, y.length ≤ 4000 := fun y hy => by
      obtain ⟨k, hk, rfl⟩ := List.mem_map.mp hy
      have h1 := hok.2.2
      have h2 := le_sumL hk
      simp only at h1
      rw [T_len]; (first | lia | omega)
    have hne0 : b = true → ks.map Mine.T ≠ [] := fun h e => hok.1 h (List.map_eq_nil_iff.mp e)
    have hsz : vs.toArray.size ≤ sizeLine := by
      have e1 := hok.2.1
      simp only at e1
      rw [List.size_toArray, hS.length, List.length_map, sizeLine_eq]; (first | lia | omega)
    have hsl : ((⟨#[n]⟩ : Str)).length ≤ 1 := Nat.le_refl _
    generalize hxs : ks.map Mine.T = xs at hS hB hne0
    simp only [List.cons_append, List.nil_append] at zN2
    clear zF zN hoff hpre
    (try dsimp only)
    (try k_fold)
    cases b
    · k_steps
      · refine ⟨?_⟩
        with_reducible k_dflt (refine' append_K ?k1 ?k2 ?k3 ?_ ?z; (case k1 => k_asm); (case k2 => k_asm); (case k3 => exact Upd.head (by assumption)); (case z => assumption); k_whole)
        intro h' F' N'
        try k_sweep
        k_steps
        refine ⟨?_⟩
        rename ((Builtin.Str.occurrences _ _ _ _ _).isEmpty = _) => zc
        have hsp := sp_of zc
        rename News _ _ _ _ => zN3
        simp only [List.push_toArray] at zN3
        refine kst_end (⟨vs ++ [_], nn + 1, true⟩ : List Value × Nat × Bool) (by assumption) zN3 (fun p hp => by rw [List.mem_singleton.mp hp]; exact .head _) (fun p hp => .tail _ hp) rfl trivial (by simp) ?_ ⟨ks ++ [[up n]], ?_, P_new hst hsp⟩
        · intro z h1 h2 _
          have h3 : z ≠ Str.ofString "begun" := h2 _ (List.Mem.head _)
          simp [h1, h3, kstB]
        · rw [List.map_append, hxs, upper_one n hn]
          exact StrsAre.append' hS (.cons _ _ .nil)
      · refine ⟨?_⟩
        rename ((Builtin.Str.occurrences _ _ _ _ _).isEmpty = _) => zc
        have hsp := sp_of zc
        rename News _ _ _ _ => zN3
        refine kst_end (⟨vs, nn, false⟩ : List Value × Nat × Bool) (by assumption) zN3 (fun p hp => by rw [List.mem_singleton.mp hp]; exact .head _) (fun p hp => .tail _ hp) rfl trivial (by simp) ?_ ⟨ks, by rw [hxs]; exact hS, P_sp hst hsp⟩
        intro z h1 h2 _
        have h3 : z ≠ Str.ofString "begun" := h2 _ (List.Mem.head _)
        simp [h1, h3, kstB]
    · have hne := hne0 rfl
      have hvs : vs ≠ [] := fun e => hne (List.eq_nil_of_length_eq_zero (by rw [← hS.length, e]; rfl))
      k_steps
      · refine ⟨?_⟩
        with_reducible k_dflt (refine' sub_last' ?k1 ?k2 ?k3 ?k4 ?k4b ?k5 ?_ ?k6; (case k1 => k_asm); (case k2 => k_mem); (case k3 => assumption); (case k4 => assumption); (case k4b => assumption); (case k5 => rfl); (case k6 => with_unfolding_all rfl); k_whole)
        intro y' t' hy' hl'
        k_steps
        refine ⟨?_⟩
        with_reducible k_dflt (refine' set_last ?k1 ?k2 ?k3 ?k4 ?k5 ?_; (case k1 => k_asm); (case k2 => k_asm); (case k3 => exact Upd.head (by assumption)); (case k4 => assumption); (case k5 => rfl); k_whole)
        intro h' F' N'
        try k_sweep
        k_steps
        refine ⟨?_⟩
        rename ((Builtin.Str.occurrences _ _ _ _ _).isEmpty = _) => zc
        have hsp := sp_of zc
        rename News _ _ _ _ => zN3
        rename (_ = (List.getLast? _).getD _) => zy
        refine kst_end (⟨vs.dropLast ++ [_], nn, true⟩ : List Value × Nat × Bool) (by assumption) zN3 (fun p hp => by rw [List.mem_singleton.mp hp]; exact .head _) (fun p hp => .tail _ hp) rfl trivial (by simp [kstB]; decide +kernel) ?_ ⟨ks.dropLast ++ [ks.getLast?.getD [] ++ [lo n]], ?_, P_grow hst hsp⟩
        · intro z h1 h2 _
          have h3 : z ≠ Str.ofString "begun" := h2 _ (List.Mem.head _)
          simp [h1, h3, kstB]
        · rw [zy, ← hxs, last_T, lower_one n hn, T_app, List.map_append, List.map_dropLast, hxs]
          exact StrsAre.setLast hS
      · refine ⟨?_⟩
        rename ((Builtin.Str.occurrences _ _ _ _ _).isEmpty = _) => zc
        have hsp := sp_of zc
        rename News _ _ _ _ => zN3
        refine kst_end (⟨vs, nn, false⟩ : List Value × Nat × Bool) (by assumption) zN3 (fun p hp => by rw [List.mem_singleton.mp hp]; exact .head _) (fun p hp => .tail _ hp) rfl trivial (by simp) ?_ ⟨ks, by rw [hxs]; exact hS, P_sp hst hsp⟩
        intro z h1 h2 _
        have h3 : z ≠ Str.ofString "begun" := h2 _ (List.Mem.head _)
        simp [h1, h3, kstB]
  · rintro ⟨vs, nn, b⟩ u hh tk _ ⟨ks, hS, hst⟩ zF2 zN2
    clear zF zN
    rw [← hx1', codes_T] at hst
    have hok := wst_ok0 l
    have hks : ks = wordsGo [] false l := by rw [← wst_all l [] false, ← hst]
    rw [← hst] at hok
    (try dsimp only)
    k_steps
    refine ⟨?_⟩
    rename Fr _ _ _ _ => zF3
    rename News _ _ _ _ => zN3
    refine my_join (sep := [32]) (ks := ks) (by decide +kernel) ⟨_, (zN3 _ (List.Mem.head _)).1, rfl, _, rfl⟩ hS ?_ (by decide) ?_
    · have h1 := hok.2.1
      have h2 := hok.2.2
      simp only at h1 h2
      (first | lia | omega)
    intro t' k'
    show Q _ _
    dsimp only
    refine ret_go (s := s) hret (by assumption) zF3 ⟨_, congrArg (Value.str · _) ?_⟩
    rw [hks]; rfl
end
section -- C_kinds
open PySem PySem.W PyProof.Rows
set_option maxRecDepth 100000
set_option maxHeartbeats 8000000 
theorem off_C_kinds : True := by (w_top off); trivial
theorem le_sumK {k : List Nat} : ∀ {ks : List (List Nat)}, k ∈ ks → k.length ≤ (ks.map List.length).sum
  | a :: r, h => by
    rcases List.mem_cons.mp h with rfl | h
    · simp
    · have := le_sumK h
      simp only [List.map_cons, List.sum_cons]; (first | lia | omega)
theorem sum_drop_lastK (x : List Nat) : ∀ ks : List (List Nat), ks ≠ [] → ((ks.dropLast ++ [ks.getLast?.getD [] ++ x]).map List.length).sum = (ks.map List.length).sum + x.length
  | [], h => absurd rfl h
  | [a], _ => by simp
  | a :: b :: r, _ => by
    have ih := sum_drop_lastK x (b :: r) (by simp)
    rw [List.getLast?_cons_cons]
    simp only [List.dropLast_cons_cons, List.cons_append, List.map_cons, List.sum_cons] at ih ⊢
    (first | lia | omega)
theorem last_TK (ks : List (List Nat)) : (ks.map Mine.T).getLast?.getD Str.empty = Mine.T (ks.getLast?.getD []) := by
  rw [List.getLast?_map]
  cases ks.getLast? <;> rfl
noncomputable def KOk (n : Nat) (ks : List (List Nat)) : Prop := (∃ r rest, ks = (97 :: 66 :: r) :: rest) ∧ (∀ k ∈ ks, ∀ c ∈ k, c ∈ signs14) ∧ (ks.map List.length).sum + ks.length ≤ n + 3
theorem KOk.ne {n : Nat} {ks : List (List Nat)} (h : KOk n ks) : ks ≠ [] := by
  obtain ⟨⟨r, rest, rfl⟩, _⟩ := h; simp
theorem KOk.new {n : Nat} {ks : List (List Nat)} (h : KOk n ks) : KOk (n + 1) (ks ++ [[]]) := by
  obtain ⟨⟨r, rest, rfl⟩, h2, h3⟩ := h
  refine ⟨⟨r, rest ++ [[]], rfl⟩, fun k hk => ?_, ?_⟩
  · rcases List.mem_append.mp hk with hk | hk
    · exact h2 k hk
    · rw [List.mem_singleton.mp hk]; intro c hc; cases hc
  · simp only [List.map_append, List.sum_append, List.length_append, List.map_cons, List.map_nil, List.sum_cons, List.sum_nil, List.length_cons, List.length_nil] at h3 ⊢
    (first | lia | omega)
theorem KOk.grow {n : Nat} {ks : List (List Nat)} (h : KOk n ks) {c : Nat} (hc : c ∈ signs14) : KOk (n + 1) (ks.dropLast ++ [ks.getLast?.getD [] ++ [c]]) := by
  have hne := h.ne
  obtain ⟨h1, h2, h3⟩ := h
  refine ⟨?_, fun k hk => ?_, ?_⟩
  · obtain ⟨r, rest, rfl⟩ := h1
    cases rest with
    | nil => exact ⟨r ++ [c], [], by simp⟩
    | cons b t => exact ⟨r, (b :: t).dropLast ++ [(b :: t).getLast?.getD [] ++ [c]], by rw [List.getLast?_cons_cons, List.dropLast_cons_cons]; rfl⟩
  · rcases List.mem_append.mp hk with hk | hk
    · exact h2 k (List.dropLast_subset _ hk)
    · rw [List.mem_singleton.mp hk]
      intro x hx
      rcases List.mem_append.mp hx with hx | hx
      · cases hl : ks.getLast? with
        | none => rw [hl] at hx; cases hx
        | some z => rw [hl] at hx; exact h2 z (List.mem_of_getLast? hl) x hx
      · rw [List.mem_singleton.mp hx]; exact hc
  · rw [sum_drop_lastK _ _ hne]
    have hp := List.length_pos_iff.mpr hne
    simp only [List.length_append, List.length_dropLast, List.length_singleton]
    (first | lia | omega)
theorem item13 : ∀ k < 13, ∃ c ∈ signs14, Txt.item (Str.ofString "aBc: \tbZy\n\x0b\x1f\xa0") ((k : Nat) : Int) = (⟨#[c]⟩ : Str) := by
  intro k hk
  refine ⟨signs14.getD k 0, ?_, ?_⟩
  · have : ∀ k < 13, signs14.getD k 0 ∈ signs14 := by decide
    exact this k hk
  · have : ∀ k < 13, Txt.item (Str.ofString "aBc: \tbZy\n\x0b\x1f\xa0") ((k : Nat) : Int) = (⟨#[signs14.getD k 0]⟩ : Str) := by decide +kernel
    exact this k hk
theorem item_sign {n : Int} (h0 : 0 ≤ n) (h1 : n < 14) (h2 : n ≠ 13) : ∃ c ∈ signs14, Txt.item (Str.ofString "aBc: \tbZy\n\x0b\x1f\xa0") n = (⟨#[c]⟩ : Str) := by
  obtain ⟨k, rfl⟩ := Int.eq_ofNat_of_zero_le h0
  exact item13 k (by (first | lia | omega))
section
variable {prog : Program} {w : World} {A : Around} {E : Value → Shared → Prop} {s : Shared} {h₀ : Heap} {L D : Addr} {m : Str → Option Value} {news news' : List (Addr × Obj)} {vs : List Value} {n : Nat} {k : Int} {t : Tok}
theorem sub_last2 {value slice : PySem.Expr} {xs : List Str} {B : Nat} {Q : Value → Shared → Prop} (N : News h₀ L s.heap news) (hm : (D, listOf vs.toArray n) ∈ news) (hS : StrsAre vs xs) (hne : xs ≠ []) (hB : ∀ y ∈ xs, y.length ≤ B) (hk : k = -1) (h : ∀ y t', y = xs.getLast?.getD Str.empty → y.length ≤ B → Q (.str y t') s)
    (hs : subscripted slice false (.ref D) (.int k t) = operate [.ref D, .int k t] (getItem (.ref D) (.int k t)) := by with_unfolding_all rfl) :
    wpAny (model prog w) A (subscriptTail value slice (.ref D) (.int k t)) Q E s :=
  sub_last N hm hS hne hk (fun t' => h _ t' rfl (by
    cases hl : xs.getLast? with
    | none => exact absurd (List.getLast?_eq_none_iff.mp hl) hne
    | some z => exact hB z (List.mem_of_getLast? hl))) hs
end
local macro_rules | `(tactic| walk_at "exec For Name Name cons nil") => `(tactic| (refine Stp.out ?_))
local macro_rules | `(tactic| walk_at "pyIter ref") => `(tactic| (refine Stp.out ?_))
local macro_rules | `(tactic| walk_at "InvEndN") => `(tactic| (refine Stp.out ?_))
local macro_rules | `(tactic| walk_at "subscriptTail") => `(tactic| (rename (And True True) => zMk; refine Stp.out ?_))
local macro_rules | `(tactic| walk_at "setItem ref int") => `(tactic| (refine Stp.out ?_))
local macro_rules | `(tactic| walk_at "call builtin:list.append") => `(tactic| (refine Stp.out ?_))

theorem c_kinds (w mean mg mb) (l : Addr) (vs : List Value) (ns : List Int) (hi : IntsAre vs ns) (hlen : ns.length ≤ 63) : Con w mean mg mb 3 60 (.ref 137) [.ref l] [] (fun h => h.IsList l vs.toArray) (fun h h' v => ∃ kl us n ks, v = .ref kl ∧ h'.get? kl = some (listOf us.toArray n) ∧ h.get? kl = none ∧ StrsAre us (ks.map Mine.T) ∧ OkKinds ks) := by
  unfold Con
  k_fill
  intro dp un gd cn cs a ccd cl outer A₀ base h₀ L m s Q E B F X T hk hp hd hu hret
  
  refine wpAny_call ?_
  k_dflt (
    (refine' code_pure (by assumption) (by assumption) (by assumption) (by assumption) ?kA ?kF ?kK ?k6 ?k7 ?k8 ?k9 ?kB (by assumption) ?_ ?c1 ?c2 ?c3 ?c4 ?c5)
    (case kA => exact rfl); (case kF => exact rfl); (case kK => assumption)
    (case k6 => k_is); (case k7 => k_is); (case k8 => ktr_room)
    (case k9 => first | exact BindsTo.of_eq rfl | exact binds_K (by k_in) rfl (by k_is) rfl rfl rfl | fail "binds")
    (case c5 => decide); (case kB => exact locs rfl); (case c1 => exact Nat.succ_pos _); (case c2 => exact rfl); (case c3 => exact rfl); (case c4 => exact rfl)
    intro g' L' h' tk0' htk0' hP' hg' F' N' B' X' T'; (try dsimp only); (try k_lift B'); (try k_fold))
  rename Giv _ _ => hP'
  have hl : Heap.IsList _ _ _ := hP'.out
  k_steps
  refine ⟨?_⟩
  (rename Fr _ _ _ _ => lF')
  (refine' For_invVF ?F ?k1 ?k2 ?_ ?hs ?hE; (case F => with_unfolding_all exact lF'); (case k1 => with_unfolding_all exact rfl); (case k2 => with_unfolding_all exact rfl); (case hs => (intro _; with_unfolding_all rfl)); (case hE => with_unfolding_all passes_own); k_whole)
  k_steps
  refine ⟨?_⟩
  rename Fr _ _ _ _ => zF
  rename News _ _ _ _ => zN
  with_unfolding_all refine kst_list (σ := List Value × Nat) (fun c => [(_, listOf c.1.toArray c.2)]) (fun _ => []) (fun _ => True) [] (fun pre c => ∃ ks, StrsAre c.1 (ks.map Mine.T) ∧ KOk pre.length ks) ([.str (Str.ofString "aB") _], 0) (by rfl) hl (by assumption) zF zN trivial (by simp) ⟨[[97, 66]], .cons _ _ .nil, ⟨[], [], rfl⟩, by decide, by decide⟩ ?_ ?_
  · rintro ⟨vs, nn⟩ pre post n tn u hh tk own hpre hmem hoff _ ⟨ks, hS, hok⟩ zF2 zN2
    have hoff2 : ∀ p ∈ own, p.1 ≠ _ := fun p hp => hoff p hp _ (List.Mem.head _)
    have hlp : pre.length + 1 ≤ 63 := by
      have e1 := congrArg List.length hpre
      rw [List.length_append, List.length_cons] at e1
      (first | lia | omega)
    have hB : ∀ y ∈ ks.map Mine.T, y.length ≤ 100 := fun y hy => by
      obtain ⟨k, hk, rfl⟩ := List.mem_map.mp hy
      have h1 := hok.2.2
      have h2 := le_sumK hk
      rw [T_len]; (first | lia | omega)
    have hsz : vs.toArray.size ≤ sizeLine := by
      have e1 := hok.2.2
      rw [List.size_toArray, hS.length, List.length_map, sizeLine_eq]; (first | lia | omega)
    have hne : ks.map Mine.T ≠ [] := fun e => hok.ne (List.map_eq_nil_iff.mp e)
    have hvs : vs ≠ [] := fun e => hne (List.eq_nil_of_length_eq_zero (by rw [← hS.length, e]; rfl))
    generalize hxs : ks.map Mine.T = xs at hS hB hne
    simp only [List.cons_append, List.nil_append] at zN2
    clear zF zN hoff hpre hl hP'
    (try dsimp only)
    (try k_fold)
    have zMk : True ∧ True := ⟨trivial, trivial⟩
    k_steps
    · refine ⟨?_⟩
      with_reducible k_dflt (refine' append_K ?k1 ?k2 ?k3 ?_ ?z; (case k1 => k_asm); (case k2 => k_asm); (case k3 => exact Upd.head (by assumption)); (case z => assumption); k_whole)
      intro h' F' N'
      try k_sweep
      k_steps
      refine ⟨?_⟩
      rename News _ _ _ _ => zN3
      simp only [List.push_toArray] at zN3
      refine kst_end (⟨vs ++ [_], nn + 1⟩ : List Value × Nat) (by assumption) zN3 (fun p hp => by rw [List.mem_singleton.mp hp]; exact .head _) (fun p hp => .tail _ hp) rfl trivial (by simp) ?_ ⟨ks ++ [[]], ?_, ?_⟩
      · intro z h1 _ _
        simp [h1, kstB]
      · rw [List.map_append, hxs]
        exact StrsAre.append' hS (.cons _ _ .nil)
      · rw [List.length_append, List.length_singleton]; exact hok.new
    · refine ⟨?_⟩
      rename (True ∧ True) => zMk
      clear zMk
      with_reducible k_dflt (refine' sub_last2 ?k1 ?k2 ?k3 ?k4 ?k4b ?k5 ?_ ?k6; (case k1 => k_asm); (case k2 => k_mem); (case k3 => assumption); (case k4 => assumption); (case k4b => assumption); (case k5 => rfl); (case k6 => with_unfolding_all rfl); k_whole)
      intro y' t' hy' hl'
      k_steps
      refine ⟨?_⟩
      with_reducible k_dflt (refine' set_last ?k1 ?k2 ?k3 ?k4 ?k5 ?_; (case k1 => k_asm); (case k2 => k_asm); (case k3 => exact Upd.head (by assumption)); (case k4 => assumption); (case k5 => rfl); k_whole)
      intro h' F' N'
      try k_sweep
      k_steps
      refine ⟨?_⟩
      rename News _ _ _ _ => zN3
      rename (_ = (List.getLast? _).getD _) => zy
      rename (Int.fmod _ 14 ≠ 13) => zc
      obtain ⟨c, hc, e⟩ := item_sign (n := n.fmod 14) (Int.fmod_nonneg_of_pos _ (by decide)) (Int.fmod_lt_of_pos _ (by decide)) zc
      refine kst_end (⟨vs.dropLast ++ [_], nn⟩ : List Value × Nat) (by assumption) zN3 (fun p hp => by rw [List.mem_singleton.mp hp]; exact .head _) (fun p hp => .tail _ hp) rfl trivial (by simp) ?_ ⟨ks.dropLast ++ [ks.getLast?.getD [] ++ [c]], ?_, ?_⟩
      · intro z h1 _ _
        simp [h1, kstB]
      · rw [zy, ← hxs, last_TK, e, show (⟨#[c]⟩ : Str) = Mine.T [c] from rfl, T_app, List.map_append, List.map_dropLast, hxs]
        exact StrsAre.setLast hS
      · rw [List.length_append, List.length_singleton]; exact hok.grow hc
  · rintro ⟨vs, nn⟩ u hh tk _ ⟨ks, hS, hok⟩ zF2 zN2
    clear zF zN hl hP'
    (try dsimp only)
    k_steps
    rename Fr _ _ _ _ => zF3
    rename News _ _ _ _ => zN3
    rename (∀ b o, s.heap.get? b = some o → _) => zg
    show Q _ _
    dsimp only
    refine ret_go (s := s) hret zg zF3 ⟨_, vs, nn, ks, rfl, (zN3 _ (List.Mem.head _)).1, ?_, hS, hok.1, hok.2.1, ?_⟩
    · cases q : s.heap.get? _ with
      | none => rfl
      | some o => have := (zN3 _ (List.Mem.head _)).2.2; rw [zg _ _ q] at this; cases this
    · have := hok.2.2
      (first | lia | omega)
end
section
local macro_rules | `(tactic| walk_at "call builtin:str.replace") => `(tactic| (refine Stp.out ?_))
local macro_rules | `(tactic| walk_at "exec For Tuple List cons nil") => `(tactic| (refine Stp.out ?_))
local macro_rules | `(tactic| walk_at "pyIter ref") => `(tactic| (refine Stp.out ?_))
section -- C_quoted
open PySem PySem.W PyProof.Rows
set_option maxRecDepth 100000
set_option maxHeartbeats 8000000 
theorem off_C_quoted : True := by (w_top off); trivial
theorem c_quoted (w mean mg mb) (l : List Nat) (t : Tok) (hx : l.length ≤ 70) : Con w mean mg mb 1 30 (.ref 144) [.str (T l) t] [] (fun _ => True) (fun _ _ v => ∃ u, v = .str (T (qt l)) u) := by
  unfold Con
  k_fill
  intro dp un gd cn cs a ccd cl outer A₀ base h₀ L m s Q E B F X T hk hp hd hu hret
  have hx0 : (Mine.T l).length ≤ 70 := by rw [T_len]; exact hx
  refine wpAny_call ?_
  k_dflt (
    (refine' code_pure (by assumption) (by assumption) (by assumption) (by assumption) ?kA ?kF ?kK ?k6 ?k7 ?k8 ?k9 ?kB (by assumption) ?_ ?c1 ?c2 ?c3 ?c4 ?c5)
    (case kA => exact rfl); (case kF => exact rfl); (case kK => assumption)
    (case k6 => k_is); (case k7 => k_is); (case k8 => ktr_room)
    (case k9 => first | exact BindsTo.of_eq rfl | exact binds_K (by k_in) rfl (by k_is) rfl rfl rfl | fail "binds")
    (case c5 => decide); (case kB => exact locs rfl); (case c1 => exact Nat.succ_pos _); (case c2 => exact rfl); (case c3 => exact rfl); (case c4 => exact rfl)
    intro g' L' h' tk0' htk0' hP' hg' F' N' B' X' T'; (try dsimp only); (try k_lift B'); (try k_fold))
  k_steps
  refine ⟨?_⟩
  (rename Fr _ _ _ _ => lF')
  with_reducible (refine' For_turns ?F ?_ ?hs ?hE; (case F => with_unfolding_all exact lF'); (case hs => (intro _; with_unfolding_all rfl)); (case hE => with_unfolding_all passes_own); k_whole)
  k_steps
  refine ⟨?_⟩
  rename Fr _ _ _ _ => zF
  rename News _ _ _ _ => zN
  with_unfolding_all refine turns_q (l := l) hx rfl zF zN (by rfl) ⟨by (first | lia | omega), by (first | lia | omega), by (first | lia | omega)⟩ ⟨by (first | lia | omega), by (first | lia | omega), by (first | lia | omega)⟩ ⟨by (first | lia | omega), by (first | lia | omega), by (first | lia | omega)⟩ ⟨by (first | lia | omega), by (first | lia | omega), by (first | lia | omega)⟩ ⟨by (first | lia | omega), by (first | lia | omega), by (first | lia | omega)⟩ ?_ ?_
  · intro tt y z c ua ub xs tx led m₁ h tk₁ Qe Ee e1 e2 e3 e4 e5 zF1 zN1 zEnd
    clear zF zN
    obtain ⟨q1, q2, q3⟩ := e5
    have e6 : (Mine.T xs).length ≤ 100000 := by rw [T_len]; exact e4
    k_steps
    refine ⟨?_⟩
    with_unfolding_all refine my_replace _ (by assumption) (by assumption) (by assumption) (by assumption) (by assumption) (by omega) (by assumption) ?_
    intro x' t' k' hx' hl'
    k_steps
    rename Fr _ _ _ _ => zF
    rename News _ _ _ _ => zN
    rename (_ = Mine.T _) => zX
    subst zX
    simp only [T_cps] at zF
    refine zEnd _ _ _ _ zF (fun p hp => zN p ?_) (by rfl)
    repeat (first | with_reducible exact hp | with_reducible refine List.mem_cons_of_mem _ ?_)
  · intro m₁ h tk' tx' zF1 zN1
    clear zF zN
    have e6 := qst_len hx 5
    generalize hxs : qst l 5 = xs at zF1 e6
    have e7 : (Mine.T xs).length ≤ 100000 := by rw [T_len]; exact e6
    k_steps
    rename Fr _ _ _ _ => zF
    show Q _ _
    refine ret_go (s := s) hret (by assumption) zF ⟨_, congrArg (Value.str · _) ?_⟩
    subst hxs
    rw [show qst l 5 = l.flatMap esc from qt_rp l, show (Str.ofString "'" : Str) = Mine.T [39] from by decide +kernel, T_app, T_app]
    rfl
end
end
section
local macro_rules | `(tactic| walk_at "call type:map") => `(tactic| (refine Stp.out ?_))
local macro_rules | `(tactic| walk_at "call builtin:str.join") => `(tactic| (refine Stp.out ?_))
section -- C_capwords1
open PySem PySem.W PyProof.Rows
set_option maxRecDepth 100000
set_option maxHeartbeats 8000000 
theorem off_C_capwords1 : True := by (w_top off); trivial
theorem c_capwords1 (w mean mg mb) (l : List Nat) (t : Tok) (hx : l.length ≤ 4000) (hsp : ∀ c ∈ l, Unicode.isSpace c = isSp c) (hf : ∀ c ∈ l, Fine c) : Con w mean mg mb 3 60 (.ref 36) [.str (Mine.T l) t] [] (fun _ => True) (fun _ _ v => ∃ u, v = .str (Mine.T (wordsL l)) u) := by
  unfold Con
  k_fill
  intro dp un gd cn cs a ccd cl outer A₀ base h₀ L m s Q E B F X T hk hp hd hu hret
  have hx1 : (Mine.T l).length ≤ 4000 := by rw [T_len]; exact hx
  generalize hx1' : Mine.T l = x at hx1 ⊢
  refine wpAny_call ?_
  k_dflt (
    (refine' code_pure (by assumption) (by assumption) (by assumption) (by assumption) ?kA ?kF ?kK ?k6 ?k7 ?k8 ?k9 ?kB (by assumption) ?_ ?c1 ?c2 ?c3 ?c4 ?c5)
    (case kA => exact rfl); (case kF => exact rfl); (case kK => assumption)
    (case k6 => k_is); (case k7 => k_is); (case k8 => ktr_room)
    (case k9 => first | exact BindsTo.of_eq rfl | exact binds_K (by k_in) rfl (by k_is) rfl rfl rfl | fail "binds")
    (case c5 => decide); (case kB => exact locs rfl); (case c1 => exact Nat.succ_pos _); (case c2 => exact rfl); (case c3 => exact rfl); (case c4 => exact rfl)
    intro g' L' h' tk0' htk0' hP' hg' F' N' B' X' T'; (try dsimp only); (try k_lift B'); (try k_fold))
  rename Giv _ _ => hP'
  
  k_steps
  with_unfolding_all refine get_cap ?_
  intro k'
  k_steps
  refine ⟨?_⟩
  rename Fr _ _ _ _ => zF
  rename News _ _ _ _ => zN
  rename (Heap.IsList _ _ _) => zL
  rename (List.map _ _ = _) => zE
  rename (StrsAre _ _) => zS
  refine call_map zL ?_
  intro h3 z1 z2 z3 z4 z5
  have zF3 := zF.keeps z5
  have zN3 := zN.keepsAll z5
  dsimp only
  k_steps
  refine ⟨?_⟩
  obtain ⟨oI, hoI, _⟩ := id zL
  have hlt := Heap.lt_size hoI
  have zw := words_weight_T l
  rw [hx1'] at zw
  have zlaw := words_law l hsp hf
  have zp1 : Mine.T [58, 32] = Str.ofString ": " := by decide +kernel
  have zp2 : Mine.T [32] = Str.ofString " " := by decide +kernel
  rw [hx1'] at zlaw
  simp only [zp1, zp2, ← zE] at zlaw zw
  refine join_map rfl z1 z2 z3 (zL.at fun o e => z5 _ o e) (Nat.ne_of_gt (Nat.lt_add_of_pos_right (by decide))) (Nat.ne_of_gt (Nat.lt_add_of_pos_right (by decide))) (Nat.ne_of_lt hlt) zS ?_ ?_ ?_ ?_
  · intro y hy
    have := short_of_weight zw hy
    (first | lia | omega)
  · (first | lia | omega)
  · exact cap_ok (by (first | lia | omega)) (by decide +kernel)
  intro h4 tk4 t4 hk4
  show Q _ _
  refine hret.out _ h4 tk4 (fun b o e => ?_) ⟨t4, congrArg (Value.str · _) zlaw⟩
  rename (∀ b o, s.heap.get? b = some o → _) => zg
  have e1 := zF.keep b o (zg b o e)
  exact hk4 b o (Nat.ne_of_lt (Heap.lt_size e1)) (z5 b o e1)
end
section -- C_capwords2
open PySem PySem.W PyProof.Rows
set_option maxRecDepth 100000
set_option maxHeartbeats 8000000 
theorem off_C_capwords2 : True := by (w_top off); trivial
theorem c_capwords2 (w mean mg mb) (l : List Nat) (t u : Tok) (hx : l.length ≤ 4000) (hf : ∀ c ∈ l, Fine c) : Con w mean mg mb 3 60 (.ref 36) [.str (Mine.T l) t, .str (Str.ofString ": ") u] [] (fun _ => True) (fun _ _ v => ∃ u, v = .str (Mine.T (capL l)) u) := by
  unfold Con
  k_fill
  intro dp un gd cn cs a ccd cl outer A₀ base h₀ L m s Q E B F X T hk hp hd hu hret
  have hx1 : (Mine.T l).length ≤ 4000 := by rw [T_len]; exact hx
  generalize hx1' : Mine.T l = x at hx1 ⊢
  refine wpAny_call ?_
  k_dflt (
    (refine' code_pure (by assumption) (by assumption) (by assumption) (by assumption) ?kA ?kF ?kK ?k6 ?k7 ?k8 ?k9 ?kB (by assumption) ?_ ?c1 ?c2 ?c3 ?c4 ?c5)
    (case kA => exact rfl); (case kF => exact rfl); (case kK => assumption)
    (case k6 => k_is); (case k7 => k_is); (case k8 => ktr_room)
    (case k9 => first | exact BindsTo.of_eq rfl | exact binds_K (by k_in) rfl (by k_is) rfl rfl rfl | fail "binds")
    (case c5 => decide); (case kB => exact locs rfl); (case c1 => exact Nat.succ_pos _); (case c2 => exact rfl); (case c3 => exact rfl); (case c4 => exact rfl)
    intro g' L' h' tk0' htk0' hP' hg' F' N' B' X' T'; (try dsimp only); (try k_lift B'); (try k_fold))
  rename Giv _ _ => hP'
  
  k_steps
  with_unfolding_all refine get_cap ?_
  intro k'
  k_steps
  refine ⟨?_⟩
  rename Fr _ _ _ _ => zF
  rename News _ _ _ _ => zN
  rename (Heap.IsList _ _ _) => zL
  rename (List.map _ _ = _) => zE
  rename (StrsAre _ _) => zS
  refine call_map zL ?_
  intro h3 z1 z2 z3 z4 z5
  have zF3 := zF.keeps z5
  have zN3 := zN.keepsAll z5
  dsimp only
  k_steps
  refine ⟨?_⟩
  obtain ⟨oI, hoI, _⟩ := id zL
  have hlt := Heap.lt_size hoI
  have zw := split_weight l
  rw [hx1'] at zw
  have zlaw := split_law l hf
  have zp1 : Mine.T [58, 32] = Str.ofString ": " := by decide +kernel
  have zp2 : Mine.T [32] = Str.ofString " " := by decide +kernel
  rw [hx1'] at zlaw
  simp only [zp1, zp2, ← zE] at zlaw zw
  refine join_map rfl z1 z2 z3 (zL.at fun o e => z5 _ o e) (Nat.ne_of_gt (Nat.lt_add_of_pos_right (by decide))) (Nat.ne_of_gt (Nat.lt_add_of_pos_right (by decide))) (Nat.ne_of_lt hlt) zS ?_ ?_ ?_ ?_
  · intro y hy
    have := short_of_weight zw hy
    (first | lia | omega)
  · (first | lia | omega)
  · exact cap_ok (by (first | lia | omega)) (by decide +kernel)
  intro h4 tk4 t4 hk4
  show Q _ _
  refine hret.out _ h4 tk4 (fun b o e => ?_) ⟨t4, congrArg (Value.str · _) zlaw⟩
  rename (∀ b o, s.heap.get? b = some o → _) => zg
  have e1 := zF.keep b o (zg b o e)
  exact hk4 b o (Nat.ne_of_lt (Heap.lt_size e1)) (z5 b o e1)
end
end
section
local macro_rules | `(tactic| walk_at "call builtin:str.join") => `(tactic| (refine Stp.out ?_))
section -- C_row
open PySem PySem.W PyProof.Rows
set_option maxRecDepth 100000
set_option maxHeartbeats 8000000 
theorem off_C_row : True := by (w_top off); trivial
theorem row_end (ks : List (List Nat)) (xs : List Str) (hxs : ks.map Mine.T = xs) (k : Int) (h0 : k ≤ xs.length) (h1 : min (xs.length : Int) 0 ≤ k)
    (h2 : ∀ j : Int, k < j → j ≤ xs.length → (if 0 < j then (if (xs.getD (j - 1).toNat Str.empty == Str.ofString "") = true then true else false) else false) = true)
    (h3 : (if 0 < k then (if (xs.getD (k - 1).toNat Str.empty == Str.ofString "") = true then true else false) else false) = false) : trim ks = ks.take k.toNat := by
  subst hxs
  rw [List.length_map] at h0 h1 h2
  have he : Str.ofString "" = Mine.T [] := rfl
  have at_ : ∀ j : Nat, j < ks.length → (ks.map Mine.T).getD j Str.empty = Mine.T (ks.getD j []) := fun j hj => by
    rw [List.getD_eq_getElem?_getD, List.getD_eq_getElem?_getD, List.getElem?_map, List.getElem?_eq_getElem hj]; rfl
  refine trim_take ks k.toNat (by (first | lia | omega)) (fun x hx => ?_) fun x hp hx => ?_
  · obtain ⟨i, hi, rfl⟩ := List.mem_drop_iff_getElem.mp hx
    have hh := h2 ((k.toNat + i + 1 : Nat) : Int) (by (first | lia | omega)) (by (first | lia | omega))
    rw [if_pos (by (first | lia | omega))] at hh
    have e1 : (((k.toNat + i + 1 : Nat) : Int) - 1).toNat = k.toNat + i := by (first | lia | omega)
    rw [e1, at_ _ (by (first | lia | omega)), he, T_eq, List.getD_eq_getElem?_getD, List.getElem?_eq_getElem (by (first | lia | omega))] at hh
    simpa using hh
  · have hk : 0 < k := by (first | lia | omega)
    rw [if_pos hk] at h3
    have hlt : k.toNat - 1 < ks.length := by (first | lia | omega)
    have e1 : (k - 1).toNat = k.toNat - 1 := by (first | lia | omega)
    rw [e1, at_ _ hlt, he, T_eq, List.getD_eq_getElem?_getD, hx] at h3
    intro e
    subst e
    simp at h3
theorem sum_take (ks : List (List Nat)) (n : Nat) : ((ks.take n).map List.length).sum + (ks.take n).length ≤ (ks.map List.length).sum + ks.length := by
  induction ks generalizing n with
  | nil => simp
  | cons a r ih =>
    cases n with
    | zero => simp
    | succ n => have := ih n; simp only [List.take_succ_cons, List.map_cons, List.sum_cons, List.length_cons]; (first | lia | omega)
theorem c_row (w mean mg mb) (l : Addr) (vs : List Value) (ks : List (List Nat)) (hi : StrsAre vs (ks.map Mine.T)) (hlen : (ks.map List.length).sum + ks.length ≤ 4000) : Con w mean mg mb 3 60 (.ref 170) [.ref l] [] (fun h => h.IsList l vs.toArray) (fun _ _ v => ∃ u, v = .str (Mine.T (rowL ks)) u) := by
  unfold Con
  k_fill
  intro dp un gd cn cs a ccd cl outer A₀ base h₀ L m s Q E B F X T hk hp hd hu hret
  have hlx : (ks.map Mine.T).length ≤ 4000 := by rw [List.length_map]; (first | lia | omega)
  generalize hxs : ks.map Mine.T = xs at hi hlx
  refine wpAny_call ?_
  k_dflt (
    (refine' code_pure (by assumption) (by assumption) (by assumption) (by assumption) ?kA ?kF ?kK ?k6 ?k7 ?k8 ?k9 ?kB (by assumption) ?_ ?c1 ?c2 ?c3 ?c4 ?c5)
    (case kA => exact rfl); (case kF => exact rfl); (case kK => assumption)
    (case k6 => k_is); (case k7 => k_is); (case k8 => ktr_room)
    (case k9 => first | exact BindsTo.of_eq rfl | exact binds_K (by k_in) rfl (by k_is) rfl rfl rfl | fail "binds")
    (case c5 => decide); (case kB => exact locs rfl); (case c1 => exact Nat.succ_pos _); (case c2 => exact rfl); (case c3 => exact rfl); (case c4 => exact rfl)
    intro g' L' h' tk0' htk0' hP' hg' F' N' B' X' T'; (try dsimp only); (try k_lift B'); (try k_fold))
  rename Giv _ _ => hP'
  have hl : Heap.IsList _ _ _ := hP'.out
  k_steps
  all_goals (try refine ⟨?_⟩)
  rename News _ _ _ _ => zN
  rename Fr _ _ _ _ => zF
  rename ((_ : Int) ≤ ((xs.length : Nat) : Int)) => z1
  rename (min _ _ ≤ (_ : Int)) => z2
  have key := row_end ks xs hxs _ z1 z2 (by assumption) (by assumption)
  refine my_join (sep := [58, 32]) (ks := trim ks) rfl ⟨_, (zN _ (List.Mem.head _)).1, rfl, 0, rfl⟩ ?_ ?_ (by decide) ?_
  · rw [key, List.map_take, hxs]
    exact StrsAre.pick_upto (by assumption) (by (first | lia | omega))
  · rw [key]
    exact Nat.le_trans (sum_take ks _) (by (first | lia | omega))
  intro t' k'
  show Q _ _
  dsimp only
  exact ret_go (s := s) hret (by assumption) zF ⟨_, rfl⟩
end
end
section -- C_sV
open PySem PySem.W PyProof.Rows
set_option maxRecDepth 100000
set_option maxHeartbeats 8000000 
theorem off_C_sV : True := by (w_top off); trivial
theorem c_str (w mean mg mb) (v : Value) (o : Option (List Nat)) (wh : Str) (wt : Tok) (hwh : wh.length ≤ 20) : Con1 w mean mg mb 3 60 (.ref 130) [v, .str wh wt] [] (fun h => Val h v o) (fun _ _ r => ∃ u, r = .str (T (o.getD [78, 111, 110, 101])) u) := by
  unfold Con1
  k_fill
  intro dp un cn cs a ccd cl outer A₀ base h₀ L m s Q E B F X TT hk hp hd hu hret
  refine wpAny_call ?_
  k_dflt (
    (refine' code_pure (by assumption) (by assumption) (by assumption) (by assumption) ?kA ?kF ?kK ?k6 ?k7 ?k8 ?k9 ?kB (by assumption) ?_ ?c1 ?c2 ?c3 ?c4 ?c5)
    (case kA => exact rfl); (case kF => exact rfl); (case kK => assumption)
    (case k6 => k_is); (case k7 => k_is); (case k8 => ktr_room)
    (case k9 => first | exact BindsTo.of_eq rfl | exact binds_K (by k_in) rfl (by k_is) rfl rfl rfl | fail "binds")
    (case c5 => decide); (case kB => exact locs rfl); (case c1 => exact Nat.succ_pos _); (case c2 => exact rfl); (case c3 => exact rfl); (case c4 => exact rfl)
    intro g' L' h' tk0' htk0' hP' hg' F' N' B' X' T'; (try dsimp only); (try k_lift B'); (try k_fold))
  rename Giv _ _ => hP'
  have hv : Val _ v o := hP'.out
  k_steps
  k_dflt (refine' str_V ?k1 ?k2 ?k3 ?k5 ?k6 ?_; (case k1 => k_asm); (case k2 => k_asm); (case k3 => exact Val.at (by assumption) (Fr.keep (by assumption))); (case k5 => with_unfolding_all exact rfl); (case k6 => first | k_units | (refine Nat.lt_of_le_of_lt ?_ (by assumption : _ + 60 < cLine); with_unfolding_all exact Nat.add_le_add_left (by decide : 23 ≤ 60) _)))
  intro zh' zu' ztk' zF' zN' zk'
  k_steps
  rename Fr _ _ _ _ => zF
  show Q _ _
  (try dsimp only)
  exact ret_go (s := s) hret (by assumption) zF ⟨_, rfl⟩
end
section -- C_rV
open PySem PySem.W PyProof.Rows
set_option maxRecDepth 100000
set_option maxHeartbeats 8000000 
theorem off_C_rV : True := by (w_top off); trivial
theorem c_rep (w mean mg mb) (v : Value) (q : List Nat) (wh : Str) (wt : Tok) (hwh : wh.length ≤ 20) : Con1 w mean mg mb 3 60 (.ref 130) [v, .str wh wt, .builtin "repr"] [] (fun h => Rp h v q) (fun _ _ r => ∃ u, r = .str (T (q)) u) := by
  unfold Con1
  k_fill
  intro dp un cn cs a ccd cl outer A₀ base h₀ L m s Q E B F X TT hk hp hd hu hret
  refine wpAny_call ?_
  k_dflt (
    (refine' code_pure (by assumption) (by assumption) (by assumption) (by assumption) ?kA ?kF ?kK ?k6 ?k7 ?k8 ?k9 ?kB (by assumption) ?_ ?c1 ?c2 ?c3 ?c4 ?c5)
    (case kA => exact rfl); (case kF => exact rfl); (case kK => assumption)
    (case k6 => k_is); (case k7 => k_is); (case k8 => ktr_room)
    (case k9 => first | exact BindsTo.of_eq rfl | exact binds_K (by k_in) rfl (by k_is) rfl rfl rfl | fail "binds")
    (case c5 => decide); (case kB => exact locs rfl); (case c1 => exact Nat.succ_pos _); (case c2 => exact rfl); (case c3 => exact rfl); (case c4 => exact rfl)
    intro g' L' h' tk0' htk0' hP' hg' F' N' B' X' T'; (try dsimp only); (try k_lift B'); (try k_fold))
  rename Giv _ _ => hP'
  have hv : Rp _ v q := hP'.out
  k_steps
  k_dflt (refine' repr_V ?k1 ?k2 ?k3 ?k5 ?k6 ?_; (case k1 => k_asm); (case k2 => k_asm); (case k3 => exact Rp.at (by assumption) (Fr.keep (by assumption))); (case k5 => with_unfolding_all exact rfl); (case k6 => first | k_units | (refine Nat.lt_of_le_of_lt ?_ (by assumption : _ + 60 < cLine); with_unfolding_all exact Nat.add_le_add_left (by decide : 23 ≤ 60) _)))
  intro zh' zu' ztk' zF' zN' zk'
  k_steps
  rename Fr _ _ _ _ => zF
  show Q _ _
  (try dsimp only)
  exact ret_go (s := s) hret (by assumption) zF ⟨_, rfl⟩
end
section -- C_vsV
open PySem PySem.W PyProof.Rows
set_option maxRecDepth 100000
set_option maxHeartbeats 8000000 
theorem off_C_vsV : True := by (w_top off); trivial
theorem c_vstr (w mean mg mb) (v : Value) (o : Option (List Nat)) (fa : Addr) (wt : Tok) : Con1 w mean mg mb 3 60 (.ref 93) [.ref fa, v, .str (Str.ofString "s") wt] [] (fun h => Val h v o) (fun _ _ r => ∃ u, r = .str (T (o.getD [78, 111, 110, 101])) u) := by
  unfold Con1
  k_fill
  intro dp un cn cs a ccd cl outer A₀ base h₀ L m s Q E B F X TT hk hp hd hu hret
  refine wpAny_call ?_
  k_dflt (
    (refine' code_pure (by assumption) (by assumption) (by assumption) (by assumption) ?kA ?kF ?kK ?k6 ?k7 ?k8 ?k9 ?kB (by assumption) ?_ ?c1 ?c2 ?c3 ?c4 ?c5)
    (case kA => exact rfl); (case kF => exact rfl); (case kK => assumption)
    (case k6 => k_is); (case k7 => k_is); (case k8 => ktr_room)
    (case k9 => first | exact BindsTo.of_eq rfl | exact binds_K (by k_in) rfl (by k_is) rfl rfl rfl | fail "binds")
    (case c5 => decide); (case kB => exact locs rfl); (case c1 => exact Nat.succ_pos _); (case c2 => exact rfl); (case c3 => exact rfl); (case c4 => exact rfl)
    intro g' L' h' tk0' htk0' hP' hg' F' N' B' X' T'; (try dsimp only); (try k_lift B'); (try k_fold))
  rename Giv _ _ => hP'
  have hv : Val _ v o := hP'.out
  k_steps
  k_dflt (refine' str_V ?k1 ?k2 ?k3 ?k5 ?k6 ?_; (case k1 => k_asm); (case k2 => k_asm); (case k3 => exact Val.at (by assumption) (Fr.keep (by assumption))); (case k5 => with_unfolding_all exact rfl); (case k6 => first | k_units | (refine Nat.lt_of_le_of_lt ?_ (by assumption : _ + 60 < cLine); with_unfolding_all exact Nat.add_le_add_left (by decide : 23 ≤ 60) _)))
  intro zh' zu' ztk' zF' zN' zk'
  k_steps
  rename Fr _ _ _ _ => zF
  show Q _ _
  (try dsimp only)
  exact ret_go (s := s) hret (by assumption) zF ⟨_, rfl⟩
end
section -- C_vrV
open PySem PySem.W PyProof.Rows
set_option maxRecDepth 100000
set_option maxHeartbeats 8000000 
theorem off_C_vrV : True := by (w_top off); trivial
theorem c_vrep (w mean mg mb) (v : Value) (q : List Nat) (fa : Addr) (wt : Tok) : Con1 w mean mg mb 3 60 (.ref 93) [.ref fa, v, .str (Str.ofString "r") wt] [] (fun h => Rp h v q) (fun _ _ r => ∃ u, r = .str (T (q)) u) := by
  unfold Con1
  k_fill
  intro dp un cn cs a ccd cl outer A₀ base h₀ L m s Q E B F X TT hk hp hd hu hret
  refine wpAny_call ?_
  k_dflt (
    (refine' code_pure (by assumption) (by assumption) (by assumption) (by assumption) ?kA ?kF ?kK ?k6 ?k7 ?k8 ?k9 ?kB (by assumption) ?_ ?c1 ?c2 ?c3 ?c4 ?c5)
    (case kA => exact rfl); (case kF => exact rfl); (case kK => assumption)
    (case k6 => k_is); (case k7 => k_is); (case k8 => ktr_room)
    (case k9 => first | exact BindsTo.of_eq rfl | exact binds_K (by k_in) rfl (by k_is) rfl rfl rfl | fail "binds")
    (case c5 => decide); (case kB => exact locs rfl); (case c1 => exact Nat.succ_pos _); (case c2 => exact rfl); (case c3 => exact rfl); (case c4 => exact rfl)
    intro g' L' h' tk0' htk0' hP' hg' F' N' B' X' T'; (try dsimp only); (try k_lift B'); (try k_fold))
  rename Giv _ _ => hP'
  have hv : Rp _ v q := hP'.out
  k_steps
  k_dflt (refine' repr_V ?k1 ?k2 ?k3 ?k5 ?k6 ?_; (case k1 => k_asm); (case k2 => k_asm); (case k3 => exact Rp.at (by assumption) (Fr.keep (by assumption))); (case k5 => with_unfolding_all exact rfl); (case k6 => first | k_units | (refine Nat.lt_of_le_of_lt ?_ (by assumption : _ + 60 < cLine); with_unfolding_all exact Nat.add_le_add_left (by decide : 23 ≤ 60) _)))
  intro zh' zu' ztk' zF' zN' zk'
  k_steps
  rename Fr _ _ _ _ => zF
  show Q _ _
  (try dsimp only)
  exact ret_go (s := s) hret (by assumption) zF ⟨_, rfl⟩
end
section
local macro_rules | `(tactic| walk_at "call ref") => `(tactic| (refine Stp.out ?_))
section -- C_w_text
open PySem PySem.W PyProof.Rows
set_option maxRecDepth 100000
set_option maxHeartbeats 8000000 
theorem off_C_w_text : True := by (w_top off); trivial
theorem c_w_text (w mean mg mb) (x : List Nat) (t : Tok) (hx : x.length ≤ 4000) (hsp : ∀ c ∈ x, Unicode.isSpace c = isSp c) (hf : ∀ c ∈ x, Fine c) (wh : Str) (wt : Tok) : Con1 w mean mg mb 5 80 (.ref 130) [.str (Mine.T x) t, .str wh wt, .ref 36] [] (fun _ => True) (fun _ _ v => ∃ u, v = .str (Mine.T (wordsL x)) u) := by
  unfold Con1
  k_fill
  intro dp un cn cs a ccd cl outer A₀ base h₀ L m s Q E B F X T hk hp hd hu hret
  
  refine wpAny_call ?_
  k_dflt (
    (refine' code_pure (by assumption) (by assumption) (by assumption) (by assumption) ?kA ?kF ?kK ?k6 ?k7 ?k8 ?k9 ?kB (by assumption) ?_ ?c1 ?c2 ?c3 ?c4 ?c5)
    (case kA => exact rfl); (case kF => exact rfl); (case kK => assumption)
    (case k6 => k_is); (case k7 => k_is); (case k8 => ktr_room)
    (case k9 => first | exact BindsTo.of_eq rfl | exact binds_K (by k_in) rfl (by k_is) rfl rfl rfl | fail "binds")
    (case c5 => decide); (case kB => exact locs rfl); (case c1 => exact Nat.succ_pos _); (case c2 => exact rfl); (case c3 => exact rfl); (case c4 => exact rfl)
    intro g' L' h' tk0' htk0' hP' hg' F' N' B' X' T'; (try dsimp only); (try k_lift B'); (try k_fold))
  rename Giv _ _ => hP'
  
  k_steps
  refine ⟨?_⟩
  rename Fr _ _ _ _ => zF
  rename News _ _ _ _ => zN
  with_unfolding_all refine Con.use (c_capwords1 w mean mg mb x t hx hsp hf) (by assumption) zF (by assumption) (by assumption) rfl zN ⟨trivial⟩ (show dp + 1 + 3 < _ by (first | lia | omega)) (show un + 3 + 60 < _ by (first | lia | omega)) ?_
  rintro v h2 tk2 ⟨u2, rfl⟩ zF2 zN2 zk2
  clear zF zN
  dsimp only
  k_steps
  rename Fr _ _ _ _ => zF
  show Q _ _
  (try dsimp only)
  exact ret_go (s := s) hret (by assumption) zF ⟨_, rfl⟩
end
end
section -- Cn3
open PySem PySem.W PySem.Calls PyProof.Rows
section
set_option maxRecDepth 100000
/-- one line of the row -/
noncomputable def lineL (k : List Nat) : Option (List Nat) → List Nat
  | none => k
  | some [] => k
  | some (c :: x) => k ++ [58, 32] ++ c :: x
theorem T_empty_app (x : Str) : Str.empty ++ x = x := by
  refine Str.ext' ?_
  rw [Str.cps_append]; simp [Str.empty]
theorem line_empty {k x le : List Nat} {xk y e : Str} (hk : T k = xk) (hy : T x = y) (he : T le = e) (h : (y.length : Int) = 0) : Str.empty ++ xk ++ e = T (lineL k (some x) ++ le) := by
  subst hk hy he
  rw [T_len] at h
  have : x = [] := List.eq_nil_of_length_eq_zero (by (first | lia | omega))
  subst this
  rw [T_empty_app, T_app]; rfl
theorem line_full {k x le : List Nat} {xk y e : Str} (hk : T k = xk) (hy : T x = y) (he : T le = e) (h : ¬ (y.length : Int) = 0) : Str.empty ++ xk ++ Str.ofString ": " ++ y ++ e = T (lineL k (some x) ++ le) := by
  subst hk hy he
  rw [T_len] at h
  cases x with
  | nil => exact absurd rfl h
  | cons c x =>
    rw [T_empty_app, show Str.ofString ": " = T [58, 32] from rfl, T_app, T_app, T_app]; rfl
theorem line_none {k le : List Nat} {xk e : Str} (hk : T k = xk) (he : T le = e) : Str.empty ++ xk ++ e = T (lineL k none ++ le) := by
  subst hk he
  rw [T_empty_app, T_app]; rfl
theorem boolL_len (b : Bool) : (boolL b).length ≤ 5 := by cases b <;> decide
theorem intL_len : ∀ {i : Int}, -20 ≤ i → i ≤ 29 → (intL i).length ≤ 5 := by
  intro i h1 h2
  have key : ∀ n : Fin 50, (intL ((n.val : Int) - 20)).length ≤ 5 := by decide +kernel
  have := key ⟨(i + 20).toNat, by (first | lia | omega)⟩
  rwa [show (((i + 20).toNat : Nat) : Int) - 20 = i from by (first | lia | omega)] at this
end
end
section -- Vs
open PySem PySem.W PySem.Calls PyProof.Rows
set_option maxRecDepth 100000
section
section
variable {M : Model} {A : Around} {E : Value → Shared → Prop} {s : Shared} {Q : Value → Shared → Prop} {h : Heap} {v : Value} {o : Option (List Nat)}
theorem is_V (k : Val h v o) (c : Q (.bool o.isNone) s) : wpAny M A (compareOp .Is v .none) Q E s := by
  cases k with
  | none => exact is_none_none c
  | text x t hx => exact is_str_none c
  | bool b => exact is_bool_none c
  | int i t h1 h2 => exact is_int_none c
  | list l vs ks hl hi hlen hal => exact is_ref_none c
theorem Val.olen' (k : Val h v o) : (o.getD [78, 111, 110, 101]).length ≤ 2000 := by
  cases k with
  | none => exact Nat.le_of_ble_eq_true rfl
  | text x t hx => exact hx
  | bool b => have := boolL_len b; show (boolL b).length ≤ 2000; (first | lia | omega)
  | int i t h1 h2 => have := intL_len h1 h2; show (intL i).length ≤ 2000; (first | lia | omega)
  | list l vs ks hl hi hlen hal => have := listL_len ks; show (listL ks).length ≤ 2000; (first | lia | omega)
end
end
end
section -- Rv
open PySem PySem.W PySem.Calls PyProof.Rows
section
set_option maxRecDepth 100000
section
variable {prog : Program} {w : World} {A : Around} {E : Value → Shared → Prop} {s : Shared} {env : Env} {h₀ : Heap} {x : Str} {body : List Stmt} {Q : Flow → Shared → Prop}
/-- a loop over reversed(l), with a state -/
theorem kst_rev {σ : Type} {I l : Addr} {vs : List Value} {m₀ : Str → Option Value} (Led : σ → List (Addr × Obj)) (ps : σ → List (Str × Value)) (Facts : σ → Prop) (stored : List Str) (P : Nat → σ → Prop) (c₀ : σ)
    (hh : A.handled = none) (hl : h₀.IsList l vs.toArray) (hI : News h₀ env.locals s.heap ((I, revObj l ((vs.length : Int) - 1)) :: Led c₀)) (hlL : l ≠ env.locals) (hoff : ∀ p ∈ Led c₀, p.1 ≠ I ∧ p.1 ≠ l) (F : Fr h₀ env.locals s.heap m₀) (hf : Facts c₀) (hk : ∀ p ∈ ps c₀, m₀ p.1 = some p.2) (hp : P 0 c₀)
    (turn : ∀ (c : σ) (i : Nat) (v : Value) (u : Str → Option Value) h tk own, i < vs.length → vs[vs.length - 1 - i]? = some v → OwnOff own ((Led c₀).map (·.1)) → Facts c → P i c →
      Fr h₀ env.locals h (fun y => if y = x then some v else kstB (fun z => if stored.contains z then u z else m₀ z) (ps c) y) → News h₀ env.locals h (Led c ++ own) →
      wpAny (model prog w) A (execs body env) (InvPostN h₀ env.locals (KstS Led ps Facts x stored m₀ (fun pre => P pre.length) (List.replicate (i + 1) 0)) own ((Led c₀).map (·.1)) { s with heap := h, toks := tk } Q) E { s with heap := h, toks := tk })
    (done : ∀ (c : σ) (u : Str → Option Value) h tk, Facts c → P vs.length c → Fr h₀ env.locals h (fun y => if y = x then u y else kstB (fun z => if stored.contains z then u z else m₀ z) (ps c) y) → News h₀ env.locals h (Led c) → Q .next { s with heap := h, toks := tk }) :
    wpAny (model prog w) A (pyIter (.ref I)) (fun it s₂ => LoopAtV prog w A h₀ env x body Q E it s₂) E s := by
  have hIx := hI _ (List.mem_cons_self ..)
  have N : News h₀ env.locals s.heap (Led c₀) := fun p hp => hI p (List.mem_cons_of_mem _ hp)
  have hit : Heap.IsRevIter s.heap I l ((vs.length : Int) - 1) := ⟨_, hIx.1, rfl, rfl⟩
  have hne : l ≠ I := fun e => by
    obtain ⟨o, ho, _⟩ := hl
    rw [e, hIx.2.2] at ho; cases ho
  refine wpAny_pyIter_revIter hit ?_
  have W := Walks.listRev (prog := prog) (w := w) hh I l hne vs.toArray
  have hlen : vs.toArray.size = vs.length := by simp
  rw [hlen] at W
  refine loop_invN (fun i m nx => KstS Led ps Facts x stored m₀ (fun pre => P pre.length) (List.replicate i 0) m nx) W ?_ ?_ ?_ ?_ ⟨Nat.zero_le _, ?_, hl.at fun o e => F.keep _ o e⟩ F N ⟨c₀, rfl, hf, hk, fun _ _ _ _ => rfl, hp⟩ ?_ ?_
  · intro hmm
    rcases List.mem_cons.mp hmm with e | hmm
    · exact hIx.2.1 e.symm
    · exact hlL (List.mem_singleton.mp hmm).symm
  · intro b hb
    rw [List.mem_singleton.mp hb]
    exact hIx.2.2
  · intro p hp hq
    exact (hoff p hp).1 (List.mem_singleton.mp hq)
  · intro q hq hmm
    rcases List.mem_cons.mp hmm with e | hmm
    · exact (hoff q hq).1 e
    · exact (hoff q hq).2 (List.mem_singleton.mp hmm)
  · have e : (vs.length : Int) - ((0 : Nat) : Int) - 1 = (vs.length : Int) - 1 := by (first | lia | omega)
    have e2 : (vs.length : Int) - 1 - ((0 : Nat) : Int) = (vs.length : Int) - 1 := by (first | lia | omega)
    first
      | (rw [e2]; exact hit)
      | (rw [e]; exact hit)
  · rintro i v m₁ news₁ h tk own hin hP _ hsep ⟨c, rfl, hf', h1, h2, hp'⟩ F₁ N₁
    rw [List.length_replicate] at hp'
    refine turn c i v m₁ h tk own hin (by simpa using hP) hsep hf' hp' (kst_fr h1 h2 F₁) N₁
  · rintro m₁ nx h tk ⟨c, rfl, hf', h1, h2, hp'⟩ F₁ N₁
    rw [List.length_replicate] at hp'
    exact done c m₁ h tk hf' hp' (kst_frOut h1 h2 F₁) N₁
end
end
end
section
local macro_rules | `(tactic| walk_at "call ref") => `(tactic| (refine Stp.out ?_))
local macro_rules | `(tactic| walk_at "compareOp Is") => `(tactic| (refine Stp.out ?_))
section -- C_fl
open PySem PySem.W PyProof.Rows
set_option maxRecDepth 100000
set_option maxHeartbeats 8000000 
theorem off_C_fl : True := by (w_top off); trivial
theorem c_finL (w mean mg mb) (k : List Nat) (kt : Tok) (hk2 : k.length ≤ 2000) (v : Value) (o : Option (List Nat)) : Con1 w mean mg mb 5 80 (.ref 122) [.str (Mine.T k) kt, v] [] (fun h => Val h v o) (fun _ _ r => ∃ u, r = .str (Mine.T (lineL k o ++ [10])) u) := by
  unfold Con1
  k_fill
  intro dp un cn cs a ccd cl outer A₀ base h₀ L m s Q E B F X T hk hp hd hu hret
  have hk1 : (Mine.T k).length ≤ 2000 := by rw [T_len]; exact hk2
  generalize hxk : Mine.T k = xk at hk1 ⊢
  refine wpAny_call ?_
  k_dflt (
    (refine' code_pure (by assumption) (by assumption) (by assumption) (by assumption) ?kA ?kF ?kK ?k6 ?k7 ?k8 ?k9 ?kB (by assumption) ?_ ?c1 ?c2 ?c3 ?c4 ?c5)
    (case kA => exact rfl); (case kF => exact rfl); (case kK => assumption)
    (case k6 => k_is); (case k7 => k_is); (case k8 => ktr_room)
    (case k9 => first | exact BindsTo.of_eq rfl | exact binds_K (by k_in) rfl (by k_is) rfl rfl rfl | (refine' kp_binds ?kx ?ke; (case kx => k_in); (case ke => exact fun _ => rfl)) | fail "binds")
    (case c5 => decide); (case kB => exact locs rfl); (case c1 => exact Nat.succ_pos _); (case c2 => exact rfl); (case c3 => exact rfl); (case c4 => exact rfl)
    intro g' L' h' tk0' htk0' hP' hg' F' N' B' X' T'; (try dsimp only); (try k_lift B'); (try k_fold))
  rename Giv _ _ => hP'
  have hv : Val _ v o := hP'.out
  k_steps
  refine ⟨?_⟩
  rename Fr _ _ _ _ => zF
  rename News _ _ _ _ => zN
  with_unfolding_all refine Con1.useS (c_str w mean mg mb _ o _ _ (by decide +kernel)) (by assumption) zF (by assumption) (by assumption) rfl zN ⟨hv.at zF.keep⟩ (show dp + 1 + 3 < _ by (first | lia | omega)) (show un + 3 + 60 < _ by (first | lia | omega)) ?_
  intro u2 h2 tk2 zF2 zN2
  clear zF zN
  have hyl : (Mine.T (o.getD [78, 111, 110, 101])).length ≤ 2000 := by rw [T_len]; exact hv.olen'
  generalize hy : Mine.T (o.getD [78, 111, 110, 101]) = y at hyl ⊢
  k_steps
  refine ⟨?_⟩
  refine is_V hv ?_
  cases o
  all_goals
    dsimp only [Option.isNone]
    k_steps
  all_goals (rename Fr _ _ _ _ => zF)
  all_goals (show Q _ _)
  all_goals (exact ret_go (s := s) hret (by assumption) zF ⟨_, congrArg (Value.str · _) (by first | exact line_empty hxk hy (by rfl) (by assumption) | exact line_full hxk hy (by rfl) (by assumption) | exact line_none hxk (by rfl))⟩)
end
section -- C_fm
open PySem PySem.W PyProof.Rows
set_option maxRecDepth 100000
set_option maxHeartbeats 8000000 
theorem off_C_fm : True := by (w_top off); trivial
theorem c_finM (w mean mg mb) (k : List Nat) (kt : Tok) (hk2 : k.length ≤ 2000) (v : Value) (o : Option (List Nat)) : Con1 w mean mg mb 5 80 (.ref 122) [.str (Mine.T k) kt, v] [(Str.ofString "insert_final_newline", .bool false)] (fun h => Val h v o) (fun _ _ r => ∃ u, r = .str (Mine.T (lineL k o ++ [])) u) := by
  unfold Con1
  k_fill
  intro dp un cn cs a ccd cl outer A₀ base h₀ L m s Q E B F X T hk hp hd hu hret
  have hk1 : (Mine.T k).length ≤ 2000 := by rw [T_len]; exact hk2
  generalize hxk : Mine.T k = xk at hk1 ⊢
  refine wpAny_call ?_
  k_dflt (
    (refine' code_pure (by assumption) (by assumption) (by assumption) (by assumption) ?kA ?kF ?kK ?k6 ?k7 ?k8 ?k9 ?kB (by assumption) ?_ ?c1 ?c2 ?c3 ?c4 ?c5)
    (case kA => exact rfl); (case kF => exact rfl); (case kK => assumption)
    (case k6 => k_is); (case k7 => k_is); (case k8 => ktr_room)
    (case k9 => first | exact BindsTo.of_eq rfl | exact binds_K (by k_in) rfl (by k_is) rfl rfl rfl | (refine' kp_binds ?kx ?ke; (case kx => k_in); (case ke => exact fun _ => rfl)) | fail "binds")
    (case c5 => decide); (case kB => exact locs rfl); (case c1 => exact Nat.succ_pos _); (case c2 => exact rfl); (case c3 => exact rfl); (case c4 => exact rfl)
    intro g' L' h' tk0' htk0' hP' hg' F' N' B' X' T'; (try dsimp only); (try k_lift B'); (try k_fold))
  rename Giv _ _ => hP'
  have hv : Val _ v o := hP'.out
  k_steps
  refine ⟨?_⟩
  rename Fr _ _ _ _ => zF
  rename News _ _ _ _ => zN
  with_unfolding_all refine Con1.useS (c_str w mean mg mb _ o _ _ (by decide +kernel)) (by assumption) zF (by assumption) (by assumption) rfl zN ⟨hv.at zF.keep⟩ (show dp + 1 + 3 < _ by (first | lia | omega)) (show un + 3 + 60 < _ by (first | lia | omega)) ?_
  intro u2 h2 tk2 zF2 zN2
  clear zF zN
  have hyl : (Mine.T (o.getD [78, 111, 110, 101])).length ≤ 2000 := by rw [T_len]; exact hv.olen'
  generalize hy : Mine.T (o.getD [78, 111, 110, 101]) = y at hyl ⊢
  k_steps
  refine ⟨?_⟩
  refine is_V hv ?_
  cases o
  all_goals
    dsimp only [Option.isNone]
    k_steps
  all_goals (rename Fr _ _ _ _ => zF)
  all_goals (show Q _ _)
  all_goals (exact ret_go (s := s) hret (by assumption) zF ⟨_, congrArg (Value.str · _) (by first | exact line_empty hxk hy (by rfl) (by assumption) | exact line_full hxk hy (by rfl) (by assumption) | exact line_none hxk (by rfl))⟩)
end
end
section -- Cn4
open PySem PySem.W PySem.Calls PyProof.Rows
section
set_option maxRecDepth 100000
/-- the rows laid into each other -/
noncomputable def nestV (o : Option (List Nat)) : List (List Nat) → Option (List Nat)
  | [] => o
  | k :: r => some (lineL k (nestV o r))
noncomputable def olen : Option (List Nat) → Nat
  | none => 0
  | some x => x.length
theorem lineL_len (k : List Nat) (o : Option (List Nat)) : (lineL k o).length ≤ k.length + 2 + olen o := by
  cases o with
  | none => simp only [lineL, olen]; (first | lia | omega)
  | some x =>
    cases x with
    | nil => simp only [lineL, olen]; (first | lia | omega)
    | cons c x => simp only [lineL, olen, List.length_append, List.length_cons, List.length_nil]; (first | lia | omega)
theorem nestV_len (o : Option (List Nat)) : ∀ ks : List (List Nat), olen (nestV o ks) ≤ (ks.map List.length).sum + 2 * ks.length + olen o
  | [] => by simp [nestV]
  | k :: r => by
    have h1 := nestV_len o r
    have h2 := lineL_len k (nestV o r)
    simp only [nestV, olen, List.map_cons, List.sum_cons, List.length_cons] at *
    (first | lia | omega)
theorem le_sumN : ∀ {ks : List (List Nat)} {k : List Nat}, k ∈ ks → k.length ≤ (ks.map List.length).sum
  | a :: r, k, h => by
    rcases List.mem_cons.mp h with rfl | h
    · simp
    · have := le_sumN h
      simp only [List.map_cons, List.sum_cons]; (first | lia | omega)
theorem drop_sum (ks : List (List Nat)) (n : Nat) : ((ks.drop n).map List.length).sum + 2 * (ks.drop n).length ≤ (ks.map List.length).sum + 2 * ks.length := by
  induction ks generalizing n with
  | nil => simp
  | cons a r ih =>
    cases n with
    | zero => simp
    | succ n => have := ih n; simp only [List.drop_succ_cons, List.map_cons, List.sum_cons, List.length_cons]; (first | lia | omega)
theorem nestV_drop {o : Option (List Nat)} {ks : List (List Nat)} {i : Nat} {k : List Nat} (hi : i < ks.length) (hk : ks[ks.length - 1 - i]? = some k) : nestV o (ks.drop (ks.length - (i + 1))) = some (lineL k (nestV o (ks.drop (ks.length - i)))) := by
  have e1 : ks.length - (i + 1) = ks.length - 1 - i := by (first | lia | omega)
  rw [e1, List.drop_eq_getElem_cons (by (first | lia | omega))]
  have e2 : ks[ks.length - 1 - i] = k := by
    rw [List.getElem?_eq_getElem (by (first | lia | omega))] at hk; exact Option.some.inj hk
  rw [e2, show ks.length - 1 - i + 1 = ks.length - i from by (first | lia | omega)]
  rfl
end
end
section
local macro_rules | `(tactic| walk_at "call ref") => `(tactic| (refine Stp.out ?_))
local macro_rules | `(tactic| walk_at "pyIter ref") => `(tactic| (refine Stp.out ?_))
local macro_rules | `(tactic| walk_at "InvEndN") => `(tactic| (refine Stp.out ?_))
section -- C_nested
open PySem PySem.W PyProof.Rows
set_option maxRecDepth 100000
set_option maxHeartbeats 8000000 
theorem off_C_nested : True := by (w_top off); trivial
theorem c_nested (w mean mg mb) (l : Addr) (vs : List Value) (ks : List (List Nat)) (hi : StrsAre vs (ks.map Mine.T)) (v : Value) (o : Option (List Nat)) (hlen : (ks.map List.length).sum + 2 * ks.length + olen o ≤ 2000) : Con1 w mean mg mb 7 100 (.ref 184) [.ref l, v] [] (fun h => h.IsList l vs.toArray ∧ Val h v o) (fun _ _ r => (ks = [] ∧ r = v) ∨ ∃ x u, nestV o ks = some x ∧ r = .str (Mine.T x) u) := by
  unfold Con1
  k_fill
  intro dp un cn cs a ccd cl outer A₀ base h₀ L m s Q E B F X T hk hp hd hu hret
  
  refine wpAny_call ?_
  k_dflt (
    (refine' code_pure (by assumption) (by assumption) (by assumption) (by assumption) ?kA ?kF ?kK ?k6 ?k7 ?k8 ?k9 ?kB (by assumption) ?_ ?c1 ?c2 ?c3 ?c4 ?c5)
    (case kA => exact rfl); (case kF => exact rfl); (case kK => assumption)
    (case k6 => k_is); (case k7 => k_is); (case k8 => ktr_room)
    (case k9 => first | exact BindsTo.of_eq rfl | exact binds_K (by k_in) rfl (by k_is) rfl rfl rfl | (refine' kp_binds ?kx ?ke; (case kx => k_in); (case ke => exact fun _ => rfl)) | fail "binds")
    (case c5 => decide); (case kB => exact locs rfl); (case c1 => exact Nat.succ_pos _); (case c2 => exact rfl); (case c3 => exact rfl); (case c4 => exact rfl)
    intro g' L' h' tk0' htk0' hP' hg' F' N' B' X' T'; (try dsimp only); (try k_lift B'); (try k_fold))
  rename Giv _ _ => hP'
  have hl : Heap.IsList _ _ _ := hP'.out.1
  have hv : Val _ _ _ := hP'.out.2
  k_steps
  refine ⟨?_⟩
  rename Fr _ _ _ _ => zF
  rename News _ _ _ _ => zN
  have hlv : vs.length = ks.length := by rw [hi.length, List.length_map]
  with_unfolding_all refine kst_rev (σ := Value) (fun _ => []) (fun c => [(Str.ofString "line", c)]) (fun _ => True) [] (fun i c => (i = 0 ∧ c = v) ∨ ∃ x u, nestV o (ks.drop (ks.length - i)) = some x ∧ c = .str (Mine.T x) u) v rfl hl zN ?_ (by simp) zF trivial (by simp) (.inl ⟨rfl, rfl⟩) ?_ ?_
  · intro e
    obtain ⟨oo, ho, _⟩ := hl
    have := zF.above
    have h2 := Heap.lt_size ho
    have e' : l = _ := e
    subst e'
    exact absurd (Nat.lt_of_lt_of_le h2 this) (Nat.lt_irrefl _)
  · rintro c i v' u hh tk own hin hvi hoff _ hP zF2 zN2
    have hik : i < ks.length := by (first | lia | omega)
    obtain ⟨kk, hkk⟩ : ∃ kk, ks[ks.length - 1 - i]? = some kk := ⟨_, List.getElem?_eq_getElem (by (first | lia | omega))⟩
    obtain ⟨t, ht⟩ := hi.get (ks.length - 1 - i) (Mine.T kk) (by rw [List.getElem?_map, hkk]; rfl)
    rw [hlv, ht] at hvi
    obtain rfl := (Option.some.inj hvi).symm
    have hkl : kk.length ≤ 2000 := by
      have h1 := le_sumN (List.mem_of_getElem? hkk)
      (first | lia | omega)
    have hvc : ∀ {G : Heap}, Val G v o → Val G c (nestV o (ks.drop (ks.length - i))) := by
      intro G hv
      rcases hP with ⟨rfl, rfl⟩ | ⟨x, u, e, rfl⟩
      · rw [show ks.length - 0 = ks.length from by (first | lia | omega), List.drop_length]; exact hv
      · rw [e]
        refine .text x u ?_
        have h1 := nestV_len o (ks.drop (ks.length - i))
        have h2 := drop_sum ks (ks.length - i)
        rw [e] at h1
        have h3 : x.length ≤ _ := h1
        (first | lia | omega)
    clear zF zN hoff
    (try dsimp only)
    (try k_fold)
    k_steps
    refine ⟨?_⟩
    rename Fr _ _ _ _ => zF
    rename News _ _ _ _ => zN
    with_unfolding_all refine Con1.use (c_finM w mean mg mb kk t hkl c (nestV o (ks.drop (ks.length - i)))) (by assumption) zF (by assumption) (by assumption) rfl zN ⟨(hvc hv).at fun b o e => zF.keep b o e⟩ (show dp + 1 + 5 < _ by (first | lia | omega)) (show un + 3 + 80 < _ by (first | lia | omega)) ?_
    rintro r h2 tk2 ⟨u2, rfl⟩ zF3 zN3 zk2
    clear zF zN
    dsimp only
    k_steps
    refine ⟨?_⟩
    rename Fr _ _ _ _ => zF
    rename News _ _ _ _ => zN
    refine kst_end (.str (Mine.T (lineL kk (nestV o (ks.drop (ks.length - i))) ++ [])) u2 : Value) zF zN (fun p hp => nomatch hp) (fun p hp => hp) rfl trivial (fun p hp => by obtain rfl := List.mem_singleton.mp hp; first | exact if_pos rfl | rfl) ?_ (.inr ⟨_, _, ?_, rfl⟩)
    · intro z h1 h2 h3
      have h2' : z ≠ Str.ofString "line" := h2 (Str.ofString "line", _) (List.Mem.head _)
      simp [h1, h2', kstB]
    · rw [List.length_replicate, List.append_nil]
      exact nestV_drop hik hkk
  · rintro c u hh tk _ hP zF2 zN2
    clear zF zN
    (try dsimp only)
    k_steps
    rename (∀ b o, s.heap.get? b = some o → _) => zg
    rename Fr _ _ _ _ => zF
    show Q _ _
    (try dsimp only)
    refine ret_go (s := s) hret zg zF ?_
    rcases hP with ⟨e, rfl⟩ | ⟨x, u', e, rfl⟩
    · exact .inl ⟨List.eq_nil_of_length_eq_zero (by (first | lia | omega)), rfl⟩
    · rw [hlv, Nat.sub_self, List.drop_zero] at e
      exact .inr ⟨x, u', e, rfl⟩
end
end
section -- Ls3
open PySem PySem.W PySem.Calls PyProof.Rows
set_option maxRecDepth 100000
section
theorem cd_T (l : List Nat) : cd (T l) = l := T_cps l
/-- a text's writing, as a text -/
noncomputable def qs (x : Str) : Str := T (qt (cd x))
theorem c_quotedS (w mean mg mb) (x : Str) (t : Tok) (hx : x.length ≤ 70) : Con w mean mg mb 1 30 (.ref 144) [.str x t] [] (fun _ => True) (fun _ _ v => ∃ u, v = .str (qs x) u) := by
  have := c_quoted w mean mg mb (cd x) t hx
  rwa [T_cd] at this
theorem ys_strs {ys : List Value} {f : Str → Str} {g : List Nat → List Nat} {ks : List (List Nat)} {xs : List Str} (hxs : ks.map T = xs) (h : CarriedAll ys ((xs.filter (fun _ => true)).map fun a => PyData.str (f a))) (hf : ∀ k, f (T k) = T (g k)) : StrsAre ys ((ks.map g).map T) := by
  have := CarriedAll.strsOf h
  rw [filter_everyA, ← hxs, List.map_map] at this
  rw [List.map_map]
  have e : (f ∘ T) = (T ∘ g) := funext fun k => hf k
  rwa [e] at this
theorem last_len (ks : List (List Nat)) : (ks.getLast?.getD []).length ≤ (ks.map List.length).sum := by
  cases h : ks.getLast? with
  | none => simp
  | some k => exact le_sumN (List.mem_of_getLast? h)
section
variable {prog : Program} {w : World} {A : Around} {E : Value → Shared → Prop} {s : Shared} {D : Addr} {vs : List Value} {k : Int} {t : Tok}
theorem sub_lastI {value slice : PySem.Expr} {xs : List Str} {Q : Value → Shared → Prop} (hl : s.heap.IsList D vs.toArray) (hS : StrsAre vs xs) (hne : xs ≠ []) (hk : k = -1) (h : ∀ t', Q (.str (xs.getLast?.getD Str.empty) t') s)
    (hs : subscripted slice false (.ref D) (.int k t) = operate [.ref D, .int k t] (getItem (.ref D) (.int k t)) := by with_unfolding_all rfl) :
    wpAny (model prog w) A (subscriptTail value slice (.ref D) (.int k t)) Q E s := by
  have hlen := hS.length
  have hp : 0 < xs.length := List.length_pos_iff.mpr hne
  obtain ⟨t', e⟩ := hS.get (xs.length - 1) (xs.getLast?.getD Str.empty) (by rw [List.getLast?_eq_getElem?, List.getElem?_eq_getElem (by (first | lia | omega))]; rfl)
  refine tail_any hl.typeIs slot_list_getitem.lookup (wpAny_getItem_list_neg hl (x := .str (xs.getLast?.getD Str.empty) t') (by (first | lia | omega)) (by rw [List.size_toArray]; (first | lia | omega)) (by (first | lia | omega)) ?_ (h t')) hs
  subst hk
  rw [List.size_toArray, hlen, show (-1 + (xs.length : Int)).toNat = xs.length - 1 from by (first | lia | omega)]
  simpa using e
end
end
end
section -- Vd
open PySem PySem.W PySem.Calls PyProof.Rows
set_option maxRecDepth 100000
section
noncomputable def tup3 (a b c : Value) : Obj := { cls := .type "tuple", data := .seq [a, b, c].toArray 0 }
noncomputable def noneL : List Nat := [78, 111, 110, 101]
noncomputable def lastL (ks : List (List Nat)) : List Nat := ks.getLast?.getD []
/-- the six values with their writings, as they lie in the heap -/
noncomputable def vled (vl t1 t2 t3 t4 t5 t6 : Addr) (u0 u1 u2 u3 u4 u5 u6 u7 u8 u9 u10 u11 u12 u13 : Tok) (l : Addr) (ks : List (List Nat)) (i : Int) (it : Tok) : List (Addr × Obj) :=
  [(vl, listOf [.ref t1, .ref t2, .ref t3, .ref t4, .ref t5, .ref t6].toArray 0),
   (t6, tup3 (.ref l) (.str (T (listL ks)) u12) (.str (T (listL ks)) u13)),
   (t5, tup3 (.str (T (lastL ks)) u9) (.str (T (lastL ks)) u10) (.str (T (qt (lastL ks))) u11)),
   (t4, tup3 (.int i it) (.str (T (intL i)) u7) (.str (T (intL i)) u8)),
   (t3, tup3 (.bool (Int.fmod i 2 == 1)) (.str (T (boolL (Int.fmod i 2 == 1))) u5) (.str (T (boolL (Int.fmod i 2 == 1))) u6)),
   (t2, tup3 (.str (T noneL) u2) (.str (T noneL) u3) (.str (T (qt noneL)) u4)),
   (t1, tup3 .none (.str (T noneL) u0) (.str (T noneL) u1))]
theorem eN : Str.ofString "None" = T noneL := rfl
theorem eN2 : Str.ofString "'None'" = T (qt noneL) := by decide +kernel
theorem eB1 {i : Int} (h : Int.fmod i 2 = 1) : Str.ofString "True" = T (boolL (Int.fmod i 2 == 1)) := by rw [h]; decide +kernel
theorem eB0 {i : Int} (h : ¬ Int.fmod i 2 = 1) : Str.ofString "False" = T (boolL (Int.fmod i 2 == 1)) := by
  rw [show (Int.fmod i 2 == 1) = false from by simpa using h]; decide +kernel
theorem eLst {ks : List (List Nat)} {yj : Str} (h : T (joinL [44, 32] (ks.map qt)) = yj) : Str.ofString "[" ++ yj ++ Str.ofString "]" = T (listL ks) := by
  subst h
  rw [show Str.ofString "[" = T [91] from rfl, show Str.ofString "]" = T [93] from rfl, T_app, T_app]; rfl
theorem eLast {ks : List (List Nat)} {xs : List Str} (h : ks.map T = xs) : xs.getLast?.getD Str.empty = T (lastL ks) := by subst h; exact last_T ks
theorem eQs (l : List Nat) : qs (T l) = T (qt l) := by rw [qs, cd_T]
end
end
section
local macro_rules | `(tactic| walk_at "call builtin:str.join") => `(tactic| (refine Stp.out ?_))
local macro_rules | `(tactic| walk_at "call ref") => `(tactic| (refine Stp.out ?_))
local macro_rules | `(tactic| walk_at "subscriptTail") => `(tactic| (refine Stp.out ?_))
local macro_rules | `(tactic| walk_at "eval IfExp") => `(tactic| (rename (And True True) => zMk; refine Stp.out ?_))
section -- C_values
open PySem PySem.W PyProof.Rows
set_option maxRecDepth 100000
set_option maxHeartbeats 8000000 
theorem off_C_values : True := by (w_top off); trivial
theorem c_values (w mean mg mb) (l : Addr) (vs : List Value) (n : Nat) (ks : List (List Nat)) (hi : StrsAre vs (ks.map Mine.T)) (hlen : (ks.map List.length).sum + ks.length ≤ 66) (hal : ∀ k ∈ ks, ∀ c ∈ k, c ∈ signs14) (hne : ks ≠ []) (i : Int) (it : Tok) (hi1 : -20 ≤ i) (hi2 : i ≤ 29) : Con1 w mean mg mb 7 100 (.ref 156) [.ref l, .int i it] [] (fun h => h.get? l = some (listOf vs.toArray n)) (fun h h' r => ∃ (vl t1 t2 t3 t4 t5 t6 : Addr) (u0 u1 u2 u3 u4 u5 u6 u7 u8 u9 u10 u11 u12 u13 : Tok), r = .ref vl ∧ ∀ p ∈ vled vl t1 t2 t3 t4 t5 t6 u0 u1 u2 u3 u4 u5 u6 u7 u8 u9 u10 u11 u12 u13 l ks i it, h'.get? p.1 = some p.2 ∧ h.get? p.1 = none) := by
  unfold Con1
  k_fill
  intro dp un cn cs a ccd cl outer A₀ base h₀ L m s Q E B F X T hk hp hd hu hret
  have hlx : (ks.map Mine.T).length ≤ 66 := by rw [List.length_map]; (first | lia | omega)
  have hnx : ks.map Mine.T ≠ [] := fun e => hne (List.map_eq_nil_iff.mp e)
  have hll : ((ks.map Mine.T).getLast?.getD Str.empty).length ≤ 66 := by
    rw [last_T, T_len]
    have := last_len ks
    (first | lia | omega)
  generalize hxs : ks.map Mine.T = xs at hi hlx hnx hll
  refine wpAny_call ?_
  k_dflt (
    (refine' code_pure (by assumption) (by assumption) (by assumption) (by assumption) ?kA ?kF ?kK ?k6 ?k7 ?k8 ?k9 ?kB (by assumption) ?_ ?c1 ?c2 ?c3 ?c4 ?c5)
    (case kA => exact rfl); (case kF => exact rfl); (case kK => assumption)
    (case k6 => k_is); (case k7 => k_is); (case k8 => ktr_room)
    (case k9 => first | exact BindsTo.of_eq rfl | exact binds_K (by k_in) rfl (by k_is) rfl rfl rfl | (refine' kp_binds ?kx ?ke; (case kx => k_in); (case ke => exact fun _ => rfl)) | fail "binds")
    (case c5 => decide); (case kB => exact locs rfl); (case c1 => exact Nat.succ_pos _); (case c2 => exact rfl); (case c3 => exact rfl); (case c4 => exact rfl)
    intro g' L' h' tk0' htk0' hP' hg' F' N' B' X' T'; (try dsimp only); (try k_lift B'); (try k_fold))
  rename Giv _ _ => hP'
  have hg0 : Heap.get? _ _ = _ := hP'.out
  have hl : Heap.IsList _ _ _ := PySem.IsL.isList hg0
  have zMk : True ∧ True := ⟨trivial, trivial⟩
  k_steps
  refine ⟨?_⟩
  rename Fr _ _ _ _ => zF
  rename News _ _ _ _ => zN
  with_unfolding_all refine cut_str (Mine.T (boolL (Int.fmod i 2 == 1))) zF zN ?_ ?_
  · intro Q' E' zQ
    rename (True ∧ True) => zMk
    clear zMk
    k_steps
    all_goals
      rename Fr _ _ _ _ => zF
      rename News _ _ _ _ => zN
      first | rw [eB1 (i := i) (by assumption)] | rw [eB0 (i := i) (by assumption)]
      exact zQ _ _ _ zF zN
  intro ub hb tkb zFb zNb
  clear zF zN
  rename (True ∧ True) => zMk
  clear zMk
  k_steps
  · refine ⟨?_⟩
    rename (_ ∈ xs) => zm
    rename Fr _ _ _ _ => zF
    rename News _ _ _ _ => zN
    obtain ⟨kk, hkk, hke⟩ := List.mem_map.mp (hxs.symm ▸ zm)
    have hkl := le_sumN hkk
    have hkx := T_len kk
    rw [hke] at hkx
    with_unfolding_all refine Con.use (c_quotedS w mean mg mb _ _ (by (first | lia | omega))) (by assumption) zF (by assumption) (by assumption) rfl zN ⟨trivial⟩ (show dp + 1 + 1 < _ by (first | lia | omega)) (show un + 3 + 30 < _ by (first | lia | omega)) ?_
    rintro r h2 tk2 ⟨u2, rfl⟩ zF2 zN2 zk2
    with_unfolding_all exact ⟨.str _ _, _, _, rfl, zk2⟩
  · refine ⟨?_⟩
    rename (CarriedAll _ _) => zC
    rename (Heap.IsList _ _ _) => zL
    have zS := ys_strs (g := qt) hxs zC (fun k => by rw [qs, cd_T])
    refine my_join (sep := [44, 32]) (ks := ks.map qt) rfl zL zS ?_ (by decide) ?_
    · have z1 := qts_len ks
      rw [List.length_map]; (first | lia | omega)
    intro t2 tk2
    have zlen := joinL_le [44, 32] (ks.map qt)
    have z1 := qts_len ks
    rw [← T_len (joinL _ _), List.length_map] at zlen
    generalize hyj : Mine.T (joinL [44, 32] (ks.map qt)) = yj at zlen ⊢
    have zlen2 : yj.length ≤ 500 := by
      have e2 : ([44, 32] : List Nat).length = 2 := rfl
      rw [e2] at zlen
      (first | lia | omega)
    clear zlen zL zC zS
    dsimp only
    k_steps
    refine ⟨?_⟩
    rename Fr _ _ _ _ => zF
    rename News _ _ _ _ => zN
    with_unfolding_all refine Con.use (c_figures w mean mg mb i _ hi1 hi2) (by assumption) zF (by assumption) (by assumption) rfl zN ⟨trivial⟩ (show dp + 1 + 3 < _ by (first | lia | omega)) (show un + 3 + 60 < _ by (first | lia | omega)) ?_
    rintro r h2 tk2 ⟨u2, rfl⟩ zF2 zN2 zk2
    clear zF zN
    dsimp only
    k_steps
    refine ⟨?_⟩
    rename Fr _ _ _ _ => zF
    rename News _ _ _ _ => zN
    with_unfolding_all refine Con.use (c_figures w mean mg mb i _ hi1 hi2) (by assumption) zF (by assumption) (by assumption) rfl zN ⟨trivial⟩ (show dp + 1 + 3 < _ by (first | lia | omega)) (show un + 3 + 60 < _ by (first | lia | omega)) ?_
    rintro r h2 tk2 ⟨u2, rfl⟩ zF2 zN2 zk2
    clear zF zN
    dsimp only
    k_steps
    iterate 3
      refine ⟨?_⟩
      with_reducible k_dflt (refine' sub_lastI ?k1 ?k2 ?k3 ?k4 ?_ ?k6; (case k1 => (repeat (first | assumption | (refine' Heap.IsList.at ?zq1 (fun o => Fr.keep ?zq2 _ o); (case zq2 => assumption))))); (case k2 => assumption); (case k3 => assumption); (case k4 => rfl); (case k6 => with_unfolding_all rfl); k_whole)
      intro t'
      k_steps
    refine ⟨?_⟩
    rename Fr _ _ _ _ => zF
    rename News _ _ _ _ => zN
    with_unfolding_all refine Con.use (c_quotedS w mean mg mb _ _ (by (first | lia | omega))) (by assumption) zF (by assumption) (by assumption) rfl zN ⟨trivial⟩ (show dp + 1 + 1 < _ by (first | lia | omega)) (show un + 3 + 30 < _ by (first | lia | omega)) ?_
    rintro r h2 tk2 ⟨u2, rfl⟩ zF2 zN2 zk2
    clear zF zN
    dsimp only
    k_steps
    rename Fr _ _ _ _ => zF
    rename News _ _ _ _ => zN
    rename (∀ b o, s.heap.get? b = some o → _) => zg
    have zE := eLast hxs
    simp only [eN, eN2, eLst hyj, zE, eQs, ← T_int] at zN
    show Q _ _
    (try dsimp only)
    refine ret_go (s := s) hret zg zF ⟨_, _, _, _, _, _, _, _, _, _, _, _, _, _, _, _, _, _, _, _, _, rfl, fun p hp => ⟨(zN p hp).1, kts_none zg (zN p hp).2.2⟩⟩
end
end
section -- Rf
open PySem PySem.W PySem.Calls PyProof.Rows
set_option maxRecDepth 100000
section
/-- the values that _law_refuses refuses -/
inductive Rf5 (h : Heap) : Value → Prop
  | none : Rf5 h .none
  | text (x : List Nat) (t : Tok) (hx : x.length ≤ 4000) : Rf5 h (.str (T x) t)
  | bool (b : Bool) : Rf5 h (.bool b)
  | int (i : Int) (t : Tok) (h1 : -20 ≤ i) (h2 : i ≤ 29) : Rf5 h (.int i t)
  | list (l : Addr) (vs : List Value) (xs : List Str) (hl : h.IsList l vs.toArray) (hi : StrsAre vs xs) (hnx : xs ≠ []) : Rf5 h (.ref l)
/-- an error has left a call: what the caller's handler goes on with -/
structure RsP (w : World) (mean : ExcName → Option Value) (mg mb : Str → Option Value) (base g' : Heap) (L' : Addr) (mf : Str → Option Value) (A1 : Around) (env : Env) (outer1 : List Env) (cls : String) (e : Addr) (g₂ h' : Heap) : Prop where
  fr : Fr g' L' g₂ mf
  bl : Below A1 base (env :: outer1) g₂
  inn : (Mine.hd.heap_39 w.params).In g₂
  top : Top Mine.hd.view_39 loose0 mean mg mb g₂
  sn : RaisedSN base g₂ (env :: outer1) e (.type cls) [] h'
  rn : RaisedN base (env :: outer1) e (.type cls) [] h'
  up : g₂.UpToSlots h'
/-- a cut: a call that raises -/
theorem cut_err {M : Model} {tree : Sem Value} {Q E : Value → Shared → Prop} {hp : Heap} {g : Array GenState} {d : Drawn} {tk : Nat} {os : OsState}
    (w : World) (mean : ExcName → Option Value) (mg mb : Str → Option Value) {base g' : Heap} {L' : Addr} {mf : Str → Option Value} {A1 : Around} {env : Env} {outer1 : List Env} (_ : Below A1 base outer1 g') (_ : Fr g' L' hp mf)
    (h1 : ∀ Q' E' : Value → Shared → Prop, (∀ cls e g₂ h' tk', RsP w mean mg mb base g' L' mf (A1.deeper env) env outer1 cls e g₂ h' → E' (.ref e) ⟨h', g, d, tk', os⟩) → wpAny M (A1.deeper env) tree Q' E' ⟨hp, g, d, tk, os⟩)
    (h2 : ∀ cls e g₂ h' tk', RsP w mean mg mb base g' L' mf (A1.deeper env) env outer1 cls e g₂ h' → E (.ref e) ⟨h', g, d, tk', os⟩) : wpAny M (A1.deeper env) tree Q E ⟨hp, g, d, tk, os⟩ := h1 Q E h2
end
end
section
local macro_rules | `(tactic| walk_at "call ref") => `(tactic| (rename (And True True) => zMk; refine Stp.out ?_))
local macro_rules | `(tactic| walk_at "exec Raise some none") => `(tactic| (rename (And True (And True True)) => zMk2; refine Stp.out ?_))
local macro_rules | `(tactic| walk_at "call builtin:isinstance") => `(tactic| (rename (And True (And True True)) => zMk2; refine Stp.out ?_))
local macro_rules | `(tactic| walk_at "call type:SystemExit") => `(tactic| (rename (And True (And True True)) => zMk2; refine Stp.out ?_))
local macro_rules | `(tactic| walk_at "getAttr ref") => `(tactic| (rename (And True (And True True)) => zMk2; refine Stp.out ?_))
section -- C_fV
open PySem PySem.W PyProof.Rows
set_option maxRecDepth 100000
set_option maxHeartbeats 8000000 
theorem off_C_fV : True := by (w_top off); trivial
theorem c_fV (w mean mg mb) (v : Value) (wt : Tok) : ConS w mean mg mb 5 80 (.ref 130) [v, .str (Str.ofString "part") wt, .ref 191] [] (fun h => Rf5 h v) (fun _ _ r => ∃ u, r = .str (Str.ofString "<part _law_refuses() failed>") u) := by
  unfold ConS
  k_fill
  intro dp un cn cs a ccd cl A₀ base h₀ L m s Q E XB TB B F X T hk hp hd hu hret
  refine wpAny_call ?_
  k_dflt (
    (refine' code_pureS (by assumption) (by assumption) (by assumption) (by assumption) ?kA ?kF ?kK ?k6 ?k7 ?k8 ?k9 ?kB (by assumption) ?_ ?c1 ?c2 ?c3 ?c4 ?c5)
    (case kA => exact rfl); (case kF => exact rfl); (case kK => assumption)
    (case k6 => k_is); (case k7 => k_is); (case k8 => ktr_room)
    (case k9 => first | exact BindsTo.of_eq rfl | exact binds_K (by k_in) rfl (by k_is) rfl rfl rfl | fail "binds")
    (case c5 => decide); (case kB => exact locs rfl); (case c1 => exact Nat.succ_pos _); (case c2 => exact rfl); (case c3 => exact rfl); (case c4 => exact rfl)
    intro g' L' h' tk0' htk0' hP' hT' F' N' B' X' T' D'; (try dsimp only); (try k_lift B'); (try k_fold))
  rename Giv _ _ => hP'
  have zMk : True ∧ True := ⟨trivial, trivial⟩
  k_steps
  refine ⟨?_⟩
  rename Fr _ _ _ _ => zF
  rename Below _ _ _ _ => zB
  with_unfolding_all refine cut_err w mean mg mb zB zF ?_ ?_
  · intro Q' E' zE
    rename (True ∧ True) => zMk
    clear zMk
    have hv := hP'.out
    cases hv with
    | none =>
      have zMk : True ∧ True ∧ True := ⟨trivial, trivial, trivial⟩
      k_steps
      refine ⟨?_⟩
      with_reducible refine Raise_sys rfl ?_
      k_steps
      refine ⟨?_⟩
      rename (True ∧ True ∧ True) => zMk
      clear zMk
      with_reducible refine call_sys_raise ?_
      intro h' e a
      k_steps
      exact zE _ _ _ _ _ ⟨by assumption, by assumption, by assumption, by assumption, by first | assumption | exact RaisedS.toSN (by assumption), by first | assumption | exact RaisedSN.toN (RaisedS.toSN (by assumption)), by assumption⟩
    | text x t hx =>
      k_steps
      exact zE _ _ _ _ _ ⟨by assumption, by assumption, by assumption, by assumption, by first | assumption | exact RaisedS.toSN (by assumption), by first | assumption | exact RaisedSN.toN (RaisedS.toSN (by assumption)), by assumption⟩
    | bool b =>
      k_steps
      · exact zE _ _ _ _ _ ⟨by assumption, by assumption, by assumption, by assumption, by first | assumption | exact RaisedS.toSN (by assumption), by first | assumption | exact RaisedSN.toN (RaisedS.toSN (by assumption)), by assumption⟩
      · exact absurd (Int.sub_self _) (by assumption)
    | int i t h1 h2 =>
      k_steps
      · exact zE _ _ _ _ _ ⟨by assumption, by assumption, by assumption, by assumption, by first | assumption | exact RaisedS.toSN (by assumption), by first | assumption | exact RaisedSN.toN (RaisedS.toSN (by assumption)), by assumption⟩
      · exact absurd (Int.sub_self _) (by assumption)
    | list l vs xs hl hi hnx =>
      have zMk : True ∧ True ∧ True := ⟨trivial, trivial, trivial⟩
      k_steps
      refine ⟨?_⟩
      with_reducible (refine' isi_list_str ?zq0 ?_; (case zq0 => (first | assumption | (refine' Heap.IsList.at ?za1 (fun o => Fr.keep ?za2 _ o); (case za2 => assumption); (case za1 => first | assumption | (refine' Heap.IsList.at ?zb1 (fun o => Fr.keep ?zb2 _ o); (case zb2 => assumption); (case zb1 => first | assumption | (refine' Heap.IsList.at ?zc1 (fun o => Fr.keep ?zc2 _ o); (case zc2 => assumption); (case zc1 => first | assumption | (refine' Heap.IsList.at ?zd1 (fun o => Fr.keep ?zd2 _ o); (case zd2 => assumption); (case zd1 => assumption)))))))))))
      intro tk
      k_steps
      refine ⟨?_⟩
      rename (True ∧ True ∧ True) => zMk
      clear zMk
      with_reducible (refine' isi_list_list ?zq0 ?_; (case zq0 => (first | assumption | (refine' Heap.IsList.at ?ze1 (fun o => Fr.keep ?ze2 _ o); (case ze2 => assumption); (case ze1 => first | assumption | (refine' Heap.IsList.at ?zf1 (fun o => Fr.keep ?zf2 _ o); (case zf2 => assumption); (case zf1 => first | assumption | (refine' Heap.IsList.at ?zg1 (fun o => Fr.keep ?zg2 _ o); (case zg2 => assumption); (case zg1 => first | assumption | (refine' Heap.IsList.at ?zh1 (fun o => Fr.keep ?zh2 _ o); (case zh2 => assumption); (case zh1 => assumption)))))))))))
      intro tk
      k_steps
      with_reducible k_dflt (refine' sub_first ?k1 ?k2 ?k3 ?k4 ?_ ?k6; (case k1 => (first | assumption | (refine' Heap.IsList.at ?zi1 (fun o => Fr.keep ?zi2 _ o); (case zi2 => assumption); (case zi1 => first | assumption | (refine' Heap.IsList.at ?zj1 (fun o => Fr.keep ?zj2 _ o); (case zj2 => assumption); (case zj1 => first | assumption | (refine' Heap.IsList.at ?zk1 (fun o => Fr.keep ?zk2 _ o); (case zk2 => assumption); (case zk1 => first | assumption | (refine' Heap.IsList.at ?zl1 (fun o => Fr.keep ?zl2 _ o); (case zl2 => assumption); (case zl1 => assumption)))))))))); (case k2 => assumption); (case k3 => assumption); (case k4 => rfl); (case k6 => with_unfolding_all rfl); k_whole)
      intro t'
      k_steps
      exact zE _ _ _ _ _ ⟨by assumption, by assumption, by assumption, by assumption, by first | assumption | exact RaisedS.toSN (by assumption), by first | assumption | exact RaisedSN.toN (RaisedS.toSN (by assumption)), by assumption⟩
  · intro cls e g₂ h' tk' zR
    obtain ⟨zf, zb, zx, zt, zs, zr, zu⟩ := zR
    have zMk : True ∧ True ∧ True := ⟨trivial, trivial, trivial⟩
    k_steps
    refine ⟨?_⟩
    rename (True ∧ True ∧ True) => zMk
    clear zMk
    with_reducible (refine' get_fname ?F ?X ?o ?z ?_; (case F => k_asm); (case X => k_asm); (case o => k_is); (case z => decide +kernel))
    intro tk u
    k_steps
    rename Fr _ _ _ _ => zF
    rename KtsTurn _ _ _ => zT
    show Q _ _
    (try dsimp only)
    exact ret_goS hret zT zF ⟨_, congrArg (Value.str · _) (by decide +kernel)⟩
end
end
section -- C_cV
open PySem PySem.W PyProof.Rows
set_option maxRecDepth 100000
set_option maxHeartbeats 8000000 
theorem off_C_cV : True := by (w_top off); trivial
theorem c_cV (w mean mg mb) (v : Value) (wt : Tok) : ConS w mean mg mb 5 80 (.ref 130) [v, .str (Str.ofString "part") wt, .ref 36] [] (fun h => NoSpl h v) (fun _ _ r => ∃ u, r = .str (Str.ofString "<part capwords() failed>") u) := by
  unfold ConS
  k_fill
  intro dp un cn cs a ccd cl A₀ base h₀ L m s Q E XB TB B F X T hk hp hd hu hret
  refine wpAny_call ?_
  k_dflt (
    (refine' code_pureS (by assumption) (by assumption) (by assumption) (by assumption) ?kA ?kF ?kK ?k6 ?k7 ?k8 ?k9 ?kB (by assumption) ?_ ?c1 ?c2 ?c3 ?c4 ?c5)
    (case kA => exact rfl); (case kF => exact rfl); (case kK => assumption)
    (case k6 => k_is); (case k7 => k_is); (case k8 => ktr_room)
    (case k9 => first | exact BindsTo.of_eq rfl | exact binds_K (by k_in) rfl (by k_is) rfl rfl rfl | fail "binds")
    (case c5 => decide); (case kB => exact locs rfl); (case c1 => exact Nat.succ_pos _); (case c2 => exact rfl); (case c3 => exact rfl); (case c4 => exact rfl)
    intro g' L' h' tk0' htk0' hP' hT' F' N' B' X' T' D'; (try dsimp only); (try k_lift B'); (try k_fold))
  rename Giv _ _ => hP'
  have hl : NoSpl _ v := hP'.out
  k_steps
  with_reducible refine get_cap ?_
  intro tk
  k_steps
  with_reducible (refine' meth_A ?zq0 rfl ?_; (case zq0 => (repeat (first | assumption | refine NoSpl.at ?_ (Fr.keep (by assumption))))))
  intro h' tk e a
  k_steps
  with_reducible (refine' leave_ofS ?k1 ?k0 ?k2 ?k3 ?_; (case k0 => assumption); (case k2 => assumption); (case k1 => assumption); (case k3 => k_asm); k_whole)
  intro h' S' U'
  try dsimp only at S' U' ⊢
  k_steps
  with_reducible (refine' get_fname ?F ?X ?o ?z ?_; (case F => k_asm); (case X => k_asm); (case o => k_is); (case z => decide +kernel))
  intro tk u
  k_steps
  rename Fr _ _ _ _ => zF
  rename KtsTurn _ _ _ => zT
  show Q _ _
  (try dsimp only)
  exact ret_goS hret zT zF ⟨_, congrArg (Value.str · _) (by decide +kernel)⟩
end
end Mine
end
section -- Pn
open PySem PySem.W PySem.Calls PyProof.Rows
set_option maxRecDepth 100000
namespace Mine
theorem trim_last : ∀ ks : List (List Nat), trim ks = [] ∨ ∃ a t, trim ks = a :: t ∧ joinL [58, 32] (a :: t) ≠ []
  | [] => .inl rfl
  | k :: r => by
    rcases trim_last r with h | ⟨a, t, h, hj⟩
    · unfold trim
      rw [h]
      by_cases hk : k = []
      · left; simp [hk]
      · right
        refine ⟨k, [], by simp [hk], by simpa [joinL] using hk⟩
    · right
      refine ⟨k, a :: t, by unfold trim; rw [h], ?_⟩
      simp [joinL]
theorem line_row (k : List Nat) (r : List (List Nat)) : lineL k (some (rowL r)) = rowL (k :: r) := by
  unfold rowL
  rcases trim_last r with h | ⟨a, t, h, hj⟩
  · have e : trim (k :: r) = if k = [] then [] else [k] := by
      conv => lhs; unfold trim
      rw [h]
    rw [h, e]
    by_cases hk : k = []
    · simp [hk, joinL, lineL]
    · simp [hk, joinL, lineL]
  · have e : trim (k :: r) = k :: a :: t := by
      conv => lhs; unfold trim
      rw [h]
    rw [h, e]
    cases hc : joinL [58, 32] (a :: t) with
    | nil => exact absurd hc hj
    | cons c x => rw [lineL, joinL, hc]
theorem line_none_row (k : List Nat) : lineL k none = rowL [k] := by
  unfold rowL
  by_cases hk : k = []
  · simp [hk, trim, joinL, lineL]
  · simp [hk, trim, joinL, lineL]
theorem row_one (x : List Nat) : rowL [x] = x := by
  unfold rowL
  by_cases hk : x = []
  · simp [hk, trim, joinL]
  · simp [hk, trim, joinL]
theorem nest_line (o : Option (List Nat)) (k : List Nat) : ∀ r : List (List Nat), lineL k (nestV o r) = rowL (k :: r ++ o.toList)
  | [] => by
    cases o with
    | none => exact line_none_row k
    | some x =>
      have := line_row k [x]
      rw [row_one] at this
      simpa [nestV] using this
  | a :: r => by
    rw [nestV, nest_line o a r, line_row]; rfl
theorem nest_row {o : Option (List Nat)} {ks : List (List Nat)} (h : ks ≠ []) : nestV o ks = some (rowL (ks ++ o.toList)) := by
  cases ks with
  | nil => exact absurd rfl h
  | cons k r => rw [nestV, nest_line]
end Mine
end
section -- Pn2
open PySem PySem.W PySem.Calls PyProof.Rows
set_option maxRecDepth 100000
namespace Mine
theorem trim_cap : ∀ ks : List (List Nat), trim (ks.map capL) = (trim ks).map capL
  | [] => rfl
  | k :: r => by
    have ih := trim_cap r
    rw [List.map_cons]
    unfold trim
    rw [ih]
    cases h : trim r with
    | nil =>
      simp only [List.map_nil, capL_nil]
      by_cases hk : k = []
      · simp [hk]
      · simp [hk]
    | cons a t => rfl
theorem row_cap (ks : List (List Nat)) : rowL (ks.map capL) = capL (rowL ks) := by
  unfold rowL
  rw [trim_cap, cap_join]
theorem row_capO (ks : List (List Nat)) (o : Option (List Nat)) : rowL (ks.map capL ++ (o.map capL).toList) = capL (rowL (ks ++ o.toList)) := by
  rw [← row_cap, List.map_append]
  cases o <;> rfl

/-- the signs of what is written -/
theorem signs_fine : ∀ c ∈ signs14, Fine c := by decide
theorem esc_fine {c : Nat} (h : Fine c) : ∀ d ∈ esc c, Fine d := by
  unfold esc
  repeat' split
  all_goals (intro d hd)
  all_goals (first | (rw [List.mem_singleton.mp hd]; exact h) | (revert d; decide))
theorem qt_fine {l : List Nat} (h : ∀ c ∈ l, Fine c) : ∀ d ∈ qt l, Fine d := by
  intro d hd
  rcases List.mem_cons.mp hd with rfl | hd
  · exact .inl (by decide)
  · rcases List.mem_append.mp hd with hd | hd
    · obtain ⟨c, hc, hd⟩ := List.mem_flatMap.mp hd
      exact esc_fine (h c hc) d hd
    · rw [List.mem_singleton.mp hd]; exact .inl (by decide)
theorem joinL_fine (sep : List Nat) (hs : ∀ c ∈ sep, Fine c) : ∀ ks : List (List Nat), (∀ k ∈ ks, ∀ c ∈ k, Fine c) → ∀ d ∈ joinL sep ks, Fine d
  | [], _, d, hd => by cases hd
  | [a], h, d, hd => h a (List.mem_cons_self ..) d hd
  | a :: b :: r, h, d, hd => by
    rw [joinL, List.mem_append, List.mem_append] at hd
    rcases hd with (hd | hd) | hd
    · exact h a (List.mem_cons_self ..) d hd
    · exact hs d hd
    · exact joinL_fine sep hs (b :: r) (fun k hk => h k (List.mem_cons_of_mem _ hk)) d hd
theorem trim_sub : ∀ (ks : List (List Nat)), ∀ k ∈ trim ks, k ∈ ks
  | [], k, h => by cases h
  | a :: r, k, h => by
    unfold trim at h
    cases hr : trim r with
    | nil =>
      rw [hr] at h
      by_cases ha : a = []
      · simp [ha] at h
      · simp [ha] at h; rw [h]; exact List.mem_cons_self ..
    | cons b t =>
      rw [hr] at h
      rcases List.mem_cons.mp h with rfl | h
      · exact List.mem_cons_self ..
      · exact List.mem_cons_of_mem _ (trim_sub r k (by rw [hr]; exact h))
theorem trim_le : ∀ ks : List (List Nat), ((trim ks).map List.length).sum + 2 * (trim ks).length ≤ (ks.map List.length).sum + 2 * ks.length
  | [] => by simp [trim]
  | a :: r => by
    have ih := trim_le r
    unfold trim
    cases hr : trim r with
    | nil =>
      by_cases ha : a = []
      · simp [ha]
      · simp [ha]; (first | lia | omega)
    | cons b t =>
      rw [hr] at ih
      simp only [List.map_cons, List.sum_cons, List.length_cons] at ih ⊢
      (first | lia | omega)
theorem row_len (ks : List (List Nat)) : (rowL ks).length ≤ (ks.map List.length).sum + 2 * ks.length := by
  have h1 := joinL_le [58, 32] (trim ks)
  have h2 := trim_le ks
  have e : ([58, 32] : List Nat).length = 2 := rfl
  rw [e] at h1
  unfold rowL
  (first | lia | omega)
theorem row_fine {ks : List (List Nat)} (h : ∀ k ∈ ks, ∀ c ∈ k, Fine c) : ∀ d ∈ rowL ks, Fine d :=
  joinL_fine _ (by decide) _ fun k hk => h k (trim_sub _ k hk)
theorem listL_fine {ks : List (List Nat)} (h : ∀ k ∈ ks, ∀ c ∈ k, Fine c) : ∀ d ∈ listL ks, Fine d := by
  intro d hd
  rcases List.mem_cons.mp hd with rfl | hd
  · exact .inl (by decide)
  · rcases List.mem_append.mp hd with hd | hd
    · refine joinL_fine [44, 32] (by decide) (ks.map qt) (fun k hk => ?_) d hd
      obtain ⟨k', hk', rfl⟩ := List.mem_map.mp hk
      exact qt_fine (h k' hk')
    · rw [List.mem_singleton.mp hd]; exact .inl (by decide)
theorem bool_fine (b : Bool) : ∀ c ∈ boolL b, Fine c := by cases b <;> decide
theorem int_fine {i : Int} (h1 : -20 ≤ i) (h2 : i ≤ 29) : ∀ c ∈ intL i, Fine c := by
  have key : ∀ n : Fin 50, ∀ c ∈ intL ((n.val : Int) - 20), Fine c := by decide +kernel
  have := key ⟨(i + 20).toNat, by (first | lia | omega)⟩
  rwa [show (((i + 20).toNat : Nat) : Int) - 20 = i from by (first | lia | omega)] at this
theorem none_fine : ∀ c ∈ noneL, Fine c := by decide
theorem last_fine {ks : List (List Nat)} (h : ∀ k ∈ ks, ∀ c ∈ k, c ∈ signs14) : ∀ c ∈ lastL ks, c ∈ signs14 := by
  unfold lastL
  cases hl : ks.getLast? with
  | none => intro c hc; cases hc
  | some k => exact h k (List.mem_of_getLast? hl)

theorem Con1.imp {w : World} {mean : ExcName → Option Value} {mg mb : Str → Option Value} {dn du : Nat} {fn : Value} {vs : List Value} {kw : List (Str × Value)} {Pre : Heap → Prop} {Post Post' : Heap → Heap → Value → Prop}
    (C : Con1 w mean mg mb dn du fn vs kw Pre Post) (k : ∀ h h' v, Pre h → (∀ b o, h.get? b = some o → h'.get? b = some o) → Post h h' v → Post' h h' v) : Con1 w mean mg mb dn du fn vs kw Pre Post' :=
  fun dp un cn cs a ccd cl outer A₀ base h₀ L m s Q E B F X T hk hp hd hu R =>
    C dp un cn cs a ccd cl outer A₀ base h₀ L m s Q E B F X T hk hp hd hu ⟨fun v h' tk st po => R.out v h' tk st (k _ _ _ hp.out st po)⟩
/-- rows laid into each other, the kinds not none at all -/
theorem c_nestedR (w mean mg mb) (l : Addr) (vs : List Value) (ks : List (List Nat)) (hi : StrsAre vs (ks.map Mine.T)) (v : Value) (o : Option (List Nat)) (hlen : (ks.map List.length).sum + 2 * ks.length + olen o ≤ 2000) (hne : ks ≠ []) : Con1 w mean mg mb 7 100 (.ref 184) [.ref l, v] [] (fun h => h.IsList l vs.toArray ∧ Val h v o) (fun _ _ r => ∃ u, r = .str (Mine.T (rowL (ks ++ o.toList))) u) :=
  (c_nested w mean mg mb l vs ks hi v o hlen).imp fun h h' r _ _ po => by
    rcases po with ⟨e, _⟩ | ⟨x, u, e, rfl⟩
    · exact absurd e hne
    · rw [nest_row hne] at e
      obtain rfl := Option.some.inj e
      exact ⟨u, rfl⟩
/-- the same, great letters -/
theorem c_nestedC (w mean mg mb) (l : Addr) (vs : List Value) (ks : List (List Nat)) (hi : StrsAre vs ((ks.map capL).map Mine.T)) (v : Value) (o : Option (List Nat)) (hlen : (ks.map List.length).sum + 2 * ks.length + olen o ≤ 2000) (hne : ks ≠ []) : Con1 w mean mg mb 7 100 (.ref 184) [.ref l, v] [] (fun h => h.IsList l vs.toArray ∧ Val h v (o.map capL)) (fun _ _ r => ∃ u, r = .str (Mine.T (capL (rowL (ks ++ o.toList)))) u) := by
  have := c_nestedR w mean mg mb l vs (ks.map capL) hi v (o.map capL) (by
    have e1 : (ks.map capL).map List.length = ks.map List.length := by
      rw [List.map_map]; exact List.map_congr_left fun k _ => capL_len k
    have e2 : olen (o.map capL) = olen o := by cases o <;> simp [olen, capL_len]
    rw [e1, e2, List.length_map]; exact hlen) (fun e => hne (List.map_eq_nil_iff.mp e))
  rwa [row_capO] at this
/-- the rest of the kinds: a value to go on with -/
theorem c_nestedV (w mean mg mb) (l : Addr) (vs : List Value) (ks : List (List Nat)) (hi : StrsAre vs (ks.map Mine.T)) (v : Value) (o : Option (List Nat)) (hlen : (ks.map List.length).sum + 2 * ks.length + olen o ≤ 2000) : Con1 w mean mg mb 7 100 (.ref 184) [.ref l, v] [] (fun h => h.IsList l vs.toArray ∧ Val h v o) (fun _ h' r => Val h' r (nestV o ks)) :=
  (c_nested w mean mg mb l vs ks hi v o hlen).imp fun h h' r hp st po => by
    rcases po with ⟨rfl, rfl⟩ | ⟨x, u, e, rfl⟩
    · exact hp.2.at st
    · rw [e]
      refine .text x u ?_
      have := nestV_len o ks
      rw [e] at this
      have h3 : x.length ≤ _ := this
      (first | lia | omega)
theorem c_finR (w mean mg mb) (k : List Nat) (kt : Tok) (hk2 : k.length ≤ 2000) (v : Value) (o : Option (List Nat)) (r : List (List Nat)) : Con1 w mean mg mb 5 80 (.ref 122) [.str (Mine.T k) kt, v] [] (fun h => Val h v (nestV o r)) (fun _ _ x => ∃ u, x = .str (Mine.T (rowL (k :: r ++ o.toList)) ++ Str.ofString "\n") u) :=
  (c_finL w mean mg mb k kt hk2 v (nestV o r)).imp fun _ _ x _ _ po => by
    obtain ⟨u, rfl⟩ := po
    rw [nest_line, show Str.ofString "\n" = Mine.T [10] from rfl, T_app]
    exact ⟨u, rfl⟩
/-- a text with a great letter at each part, as a text -/
noncomputable def cps (x : Str) : Str := T (capL (cd x))
theorem c_capwordsS (w mean mg mb) (x : Str) (t u : Tok) (hx : x.length ≤ 4000) (hf : ∀ c ∈ cd x, Fine c) : Con w mean mg mb 3 60 (.ref 36) [.str x t, .str (Str.ofString ": ") u] [] (fun _ => True) (fun _ _ v => ∃ u, v = .str (cps x) u) := by
  have := c_capwords2 w mean mg mb (cd x) t u hx hf
  rwa [T_cd] at this
theorem eCps (l : List Nat) : cps (T l) = T (capL l) := by rw [cps, cd_T]
theorem strs_row0 {us : List Value} {ks : List (List Nat)} (h : StrsAre us (ks.map T)) : StrsAre (us ++ []) ((ks ++ []).map T) := by simpa using h
theorem strs_row1 {us : List Value} {ks : List (List Nat)} (h : StrsAre us (ks.map T)) (wr : List Nat) (u : Tok) : StrsAre (us ++ [.str (T wr) u]) ((ks ++ [wr]).map T) := by
  rw [List.map_append]
  exact StrsAre.append' h (.cons _ _ .nil)
end Mine
end
section -- Pn3
open PySem PySem.W PySem.Calls PyProof.Rows
set_option maxRecDepth 100000
namespace Mine
/-- the row, and the row with great letters -/
noncomputable def RW (ks : List (List Nat)) (o : Option (List Nat)) : Str := T (rowL (ks ++ o.toList))
noncomputable def CW (ks : List (List Nat)) (o : Option (List Nat)) : Str := T (capL (rowL (ks ++ o.toList)))
theorem rowO_len (ks : List (List Nat)) (o : Option (List Nat)) : (rowL (ks ++ o.toList)).length ≤ (ks.map List.length).sum + 2 * ks.length + olen o + 2 := by
  have := row_len (ks ++ o.toList)
  cases o with
  | none => simpa [olen, Option.toList] using Nat.le_trans this (by simp [olen, Option.toList])
  | some x =>
    simp only [Option.toList, List.map_append, List.sum_append, List.map_cons, List.map_nil, List.sum_cons, List.sum_nil, List.length_append, List.length_cons, List.length_nil, olen] at this ⊢
    (first | lia | omega)
theorem RW_len (ks : List (List Nat)) (o : Option (List Nat)) : (RW ks o).length ≤ (ks.map List.length).sum + 2 * ks.length + olen o + 2 := by
  rw [RW, T_len]; exact rowO_len ks o
theorem rowO_fine {ks : List (List Nat)} {o : Option (List Nat)} (h : ∀ k ∈ ks, ∀ c ∈ k, c ∈ signs14) (ho : ∀ x, o = some x → ∀ c ∈ x, Fine c) : ∀ d ∈ rowL (ks ++ o.toList), Fine d := by
  refine row_fine fun k hk => ?_
  rcases List.mem_append.mp hk with hk | hk
  · exact fun c hc => signs_fine c (h k hk c hc)
  · cases o with
    | none => cases hk
    | some x => rw [List.mem_singleton.mp hk]; exact ho x rfl
theorem c_rowW (w mean mg mb) (l : Addr) (vs : List Value) (ks : List (List Nat)) (o : Option (List Nat)) (hi : StrsAre vs ((ks ++ o.toList).map Mine.T)) (hlen : (ks.map List.length).sum + 2 * ks.length + olen o ≤ 1900) : Con w mean mg mb 3 60 (.ref 170) [.ref l] [] (fun h => h.IsList l vs.toArray) (fun _ _ v => ∃ u, v = .str (RW ks o) u) :=
  c_row w mean mg mb l vs (ks ++ o.toList) hi (by
    cases o with
    | none => simp [Option.toList]; (first | lia | omega)
    | some x => simp [Option.toList, olen] at hlen ⊢; (first | lia | omega))
theorem c_nestedW (w mean mg mb) (l : Addr) (vs : List Value) (ks : List (List Nat)) (hi : StrsAre vs (ks.map Mine.T)) (v : Value) (o : Option (List Nat)) (hlen : (ks.map List.length).sum + 2 * ks.length + olen o ≤ 1900) (hne : ks ≠ []) : Con1 w mean mg mb 7 100 (.ref 184) [.ref l, v] [] (fun h => h.IsList l vs.toArray ∧ Val h v o) (fun _ _ r => ∃ u, r = .str (RW ks o) u) :=
  c_nestedR w mean mg mb l vs ks hi v o (by (first | lia | omega)) hne
theorem c_nestedCW (w mean mg mb) (l : Addr) (vs : List Value) (ks : List (List Nat)) (hi : StrsAre vs ((ks.map capL).map Mine.T)) (v : Value) (o : Option (List Nat)) (hlen : (ks.map List.length).sum + 2 * ks.length + olen o ≤ 1900) (hne : ks ≠ []) : Con1 w mean mg mb 7 100 (.ref 184) [.ref l, v] [] (fun h => h.IsList l vs.toArray ∧ Val h v (o.map capL)) (fun _ _ r => ∃ u, r = .str (CW ks o) u) :=
  c_nestedC w mean mg mb l vs ks hi v o (by (first | lia | omega)) hne
theorem c_finW (w mean mg mb) (k : List Nat) (kt : Tok) (hk2 : k.length ≤ 2000) (v : Value) (o : Option (List Nat)) (r : List (List Nat)) : Con1 w mean mg mb 5 80 (.ref 122) [.str (Mine.T k) kt, v] [] (fun h => Val h v (nestV o r)) (fun _ _ x => ∃ u, x = .str (RW (k :: r) o ++ Str.ofString "\n") u) :=
  c_finR w mean mg mb k kt hk2 v o r
theorem c_capwordsW (w mean mg mb) (ks : List (List Nat)) (o : Option (List Nat)) (t u : Tok) (h : ∀ k ∈ ks, ∀ c ∈ k, c ∈ signs14) (ho : ∀ x, o = some x → ∀ c ∈ x, Fine c) (hlen : (ks.map List.length).sum + 2 * ks.length + olen o ≤ 1900) : Con w mean mg mb 3 60 (.ref 36) [.str (RW ks o) t, .str (Str.ofString ": ") u] [] (fun _ => True) (fun _ _ v => ∃ u, v = .str (CW ks o) u) :=
  c_capwords2 w mean mg mb (rowL (ks ++ o.toList)) t u (by have := rowO_len ks o; (first | lia | omega)) (rowO_fine h ho)
theorem c_cappedW (w mean mg mb) (ks : List (List Nat)) (o : Option (List Nat)) (t : Tok) (h : ∀ k ∈ ks, ∀ c ∈ k, c ∈ signs14) (ho : ∀ x, o = some x → ∀ c ∈ x, Fine c) (hlen : (ks.map List.length).sum + 2 * ks.length + olen o ≤ 1900) : Con w mean mg mb 3 60 (.ref 177) [.str (RW ks o) t] [] (fun _ => True) (fun _ _ v => ∃ u, v = .str (CW ks o) u) :=
  c_capped w mean mg mb (rowL (ks ++ o.toList)) t (by have := rowO_len ks o; (first | lia | omega)) (rowO_fine h ho)
end Mine
end
section -- Pn4
open PySem PySem.W PySem.Calls PyProof.Rows
set_option maxRecDepth 100000
namespace Mine
/-- the row and its great form under names of their own, so that no step unfolds them -/
structure RowIs (ks : List (List Nat)) (o : Option (List Nat)) (R C : Str) : Prop where
  row : R = RW ks o
  cap : C = CW ks o
  kinds : ∀ k ∈ ks, ∀ c ∈ k, c ∈ signs14
  val : ∀ x, o = some x → ∀ c ∈ x, Fine c
  len : (ks.map List.length).sum + 2 * ks.length + olen o ≤ 1900
theorem RowIs.len' {ks o R C} (h : RowIs ks o R C) : R.length ≤ 1902 := by
  rw [h.row]; have := RW_len ks o; have := h.len; (first | lia | omega)
theorem c_rowV {ks : List (List Nat)} {o : Option (List Nat)} {R C : Str} (h : RowIs ks o R C) (w mean mg mb) (l : Addr) (vs : List Value) (hi : StrsAre vs ((ks ++ o.toList).map Mine.T)) : Con w mean mg mb 3 60 (.ref 170) [.ref l] [] (fun h => h.IsList l vs.toArray) (fun _ _ v => ∃ u, v = .str R u) := by
  have := c_rowW w mean mg mb l vs ks o hi h.len
  rwa [← h.row] at this
theorem c_nestedV1 {ks : List (List Nat)} {o : Option (List Nat)} {R C : Str} (h : RowIs ks o R C) (w mean mg mb) (l : Addr) (vs : List Value) (hi : StrsAre vs (ks.map Mine.T)) (v : Value) (hne : ks ≠ []) : Con1 w mean mg mb 7 100 (.ref 184) [.ref l, v] [] (fun h => h.IsList l vs.toArray ∧ Val h v o) (fun _ _ r => ∃ u, r = .str R u) := by
  have := c_nestedW w mean mg mb l vs ks hi v o h.len hne
  rwa [← h.row] at this
theorem c_nestedV2 {ks : List (List Nat)} {o : Option (List Nat)} {R C : Str} (h : RowIs ks o R C) (w mean mg mb) (l : Addr) (vs : List Value) (hi : StrsAre vs ((ks.map capL).map Mine.T)) (v : Value) (hne : ks ≠ []) : Con1 w mean mg mb 7 100 (.ref 184) [.ref l, v] [] (fun h => h.IsList l vs.toArray ∧ Val h v (o.map capL)) (fun _ _ r => ∃ u, r = .str C u) := by
  have := c_nestedCW w mean mg mb l vs ks hi v o h.len hne
  rwa [← h.cap] at this
/-- the rest of the kinds: what comes back is a value to go on with -/
theorem c_restV {k : List Nat} {r : List (List Nat)} {o : Option (List Nat)} {R C : Str} (h : RowIs (k :: r) o R C) (w mean mg mb) (l : Addr) (vs : List Value) (hi : StrsAre vs (r.map Mine.T)) (v : Value) : Con1 w mean mg mb 7 100 (.ref 184) [.ref l, v] [] (fun h => h.IsList l vs.toArray ∧ Val h v o) (fun _ h' x => Val h' x (nestV o r)) :=
  c_nestedV w mean mg mb l vs r hi v o (by have := h.len; simp only [List.map_cons, List.sum_cons, List.length_cons] at this; (first | lia | omega))
theorem c_finV {k : List Nat} {r : List (List Nat)} {o : Option (List Nat)} {R C : Str} (h : RowIs (k :: r) o R C) (w mean mg mb) (x : Str) (hx : x = T k) (kt : Tok) (v : Value) : Con1 w mean mg mb 5 80 (.ref 122) [.str x kt, v] [] (fun h => Val h v (nestV o r)) (fun _ _ x => ∃ u, x = .str (R ++ Str.ofString "\n") u) := by
  have := c_finW w mean mg mb k kt (by have := h.len; simp only [List.map_cons, List.sum_cons, List.length_cons] at this; (first | lia | omega)) v o r
  rw [← h.row] at this
  rw [hx]; exact this
theorem c_capwordsV {ks : List (List Nat)} {o : Option (List Nat)} {R C : Str} (h : RowIs ks o R C) (w mean mg mb) (t u : Tok) : Con w mean mg mb 3 60 (.ref 36) [.str R t, .str (Str.ofString ": ") u] [] (fun _ => True) (fun _ _ v => ∃ u, v = .str C u) := by
  have := c_capwordsW w mean mg mb ks o t u h.kinds h.val h.len
  rwa [← h.row, ← h.cap] at this
theorem c_cappedV {ks : List (List Nat)} {o : Option (List Nat)} {R C : Str} (h : RowIs ks o R C) (w mean mg mb) (t : Tok) : Con w mean mg mb 3 60 (.ref 177) [.str R t] [] (fun _ => True) (fun _ _ v => ∃ u, v = .str C u) := by
  have := c_cappedW w mean mg mb ks o t h.kinds h.val h.len
  rwa [← h.row, ← h.cap] at this
end Mine
namespace Mine
theorem ne_same {prog : Program} {w : World} {A : Around} {E : Value → Shared → Prop} {s : Shared} {x : Str} {t u : Tok} {Q : Value → Shared → Prop} (h : Q (.bool false) s) : wpAny (model prog w) A (compareOp .NotEq (.str x t) (.str x u)) Q E s :=
  PyProof.Rows.ne_str (by rw [show (x != x) = false from by simp]; exact h)
end Mine
end
section -- Pn5
open PySem PySem.W PySem.Calls PyProof.Rows
set_option maxRecDepth 100000
namespace Mine
theorem pick_rest {us : List Value} : (slicePick us.toArray (some 1) none none).toList = us.drop 1 := by
  have e : sliceBounds (some 1) none none us.toArray.size = (((min 1 us.toArray.size : Nat) : Int), ((us.toArray.size : Nat) : Int), 1) := by
    simp only [sliceBounds, Option.getD_none, show (1 : Int) > 0 by decide, if_true, if_neg (show ¬ ((1 : Int) < 0) by (first | lia | omega))]
    congr 1
    (first | lia | omega)
  rw [kmk_pick_nat _ e]
  show ((us.drop (min 1 us.toArray.size)).take (us.toArray.size - min 1 us.toArray.size)) = _
  rw [List.size_toArray, kmk_drop_min, List.take_of_length_le]
  rw [List.length_drop]; (first | lia | omega)
theorem strs_rest {us : List Value} {k0 : List Nat} {kr : List (List Nat)} (h : StrsAre us ((k0 :: kr).map T)) : StrsAre (us.drop 1) (kr.map T) := by
  cases h with
  | cons x t r => exact r
end Mine
end
section -- Ne
open PySem PySem.W PySem.Calls PyProof.Rows
set_option maxRecDepth 100000
namespace Mine
theorem SHP {p q : Str} (hp : PyData.canLay0 (.str p) = true) (hq : PyData.canLay0 (.str q) = true) : SeqAt.shaped (PyData.list [PyData.str p, PyData.str q]) = true := by
  simp [SeqAt.shaped, PyData.canLay0, PyData.canLayAll0, PyData.depth, PyData.depthAll] at hp hq ⊢
  exact ⟨hp, hq⟩
section
variable {prog : Program} {w : World} {A : Around} {E : Value → Shared → Prop} {s : Shared} {a b : Addr} {Q : Value → Shared → Prop}
theorem ne_two {p q : Str} {t1 t2 t3 t4 : Tok} (ha : s.heap.IsList a [Value.str p t1, Value.str q t2].toArray) (hb : s.heap.IsList b [Value.str p t3, Value.str q t4].toArray) (hp : PyData.canLay0 (.str p) = true) (hq : PyData.canLay0 (.str q) = true) (hu : A.units + 64 < cLine) (h : Q (.bool false) s) :
    wpAny (model prog w) A (compareOp .NotEq (.ref a) (.ref b)) Q E s :=
  ne_dataH_same (reads_newData ha (.cons (.str p t1) (.cons (.str q t2) .nil))) (reads_newData hb (.cons (.str p t3) (.cons (.str q t4) .nil))) (SHP hp hq) (SHP hp hq) hu (SeqAt.noMix_of_shape (.list .str) rfl _ _ (list_map_has (l := [p, q]) (g := PyData.str) fun _ => rfl) (list_map_has (l := [p, q]) (g := PyData.str) fun _ => rfl)) (by
    have : PySem.Spec.same (.list [.str p, .str q]) (.list [.str p, .str q]) = true := by simp [PySem.Spec.same, PySem.Spec.sameAll]
    rw [this]; exact h)
end
end Mine
namespace Mine
theorem lay_T {l : List Nat} (h : ∀ c ∈ l, Fine c) : PyData.canLay0 (.str (T l)) = true := by
  simp only [PyData.canLay0]
  unfold PyData.strOk
  rw [Array.all_eq_true_iff_forall_mem]
  intro c hc
  have hm : c ∈ l := by simpa [T] using hc
  rcases h c hm with h | h <;> simp <;> (first | lia | omega)
end Mine
end
section -- Lw
open PySem PySem.W PySem.Calls PyProof.Rows
set_option maxRecDepth 100000
namespace Mine
theorem none_sp : ∀ c ∈ noneL, Unicode.isSpace c = isSp c := by decide +kernel
theorem signs_sp : ∀ c ∈ signs14, Unicode.isSpace c = isSp c := by decide +kernel
theorem last_sp {ks : List (List Nat)} (h : ∀ k ∈ ks, ∀ c ∈ k, c ∈ signs14) : ∀ c ∈ lastL ks, Unicode.isSpace c = isSp c := fun c hc => signs_sp c (last_fine h c hc)
theorem last_fineF {ks : List (List Nat)} (h : ∀ k ∈ ks, ∀ c ∈ k, c ∈ signs14) : ∀ c ∈ lastL ks, Fine c := fun c hc => signs_fine c (last_fine h c hc)
theorem lastL_len (ks : List (List Nat)) : (lastL ks).length ≤ (ks.map List.length).sum := last_len ks
theorem lists_fine {ks : List (List Nat)} (h : ∀ k ∈ ks, ∀ c ∈ k, c ∈ signs14) : ∀ c ∈ listL ks, Fine c := listL_fine fun k hk c hc => signs_fine c (h k hk c hc)
theorem RowIs.as {ks ks' : List (List Nat)} {o : Option (List Nat)} {R C : Str} (h : RowIs ks o R C) (e : ks = ks') : RowIs ks' o R C := by subst e; exact h
theorem StrsAre_as {us : List Value} {ks ks' : List (List Nat)} (h : StrsAre us (ks.map T)) (e : ks = ks') : StrsAre us (ks'.map T) := by subst e; exact h
theorem noneL_len : noneL.length = 4 := rfl
end Mine
end
section -- Kd
open PySem PySem.W PySem.Calls PyProof.Rows
set_option maxRecDepth 100000
namespace Mine
theorem off_Kd : True := by (w_top off); trivial
theorem Con1.pre {w : World} {mean : ExcName → Option Value} {mg mb : Str → Option Value} {dn du : Nat} {fn : Value} {vs : List Value} {kw : List (Str × Value)} {P P' : Heap → Prop} {Post : Heap → Heap → Value → Prop}
    (C : Con1 w mean mg mb dn du fn vs kw P Post) (k : ∀ h, P' h → P h) : Con1 w mean mg mb dn du fn vs kw P' Post :=
  fun _ _ _ _ _ _ _ _ _ _ _ _ _ _ _ _ B F X T hk hp => C _ _ _ _ _ _ _ _ _ _ _ _ _ _ _ _ B F X T hk (hp.imp (k _))
theorem ConS.pre {w : World} {mean : ExcName → Option Value} {mg mb : Str → Option Value} {dn du : Nat} {fn : Value} {vs : List Value} {kw : List (Str × Value)} {P P' : Heap → Prop} {Post : Heap → Heap → Value → Prop}
    (C : ConS w mean mg mb dn du fn vs kw P Post) (k : ∀ h, P' h → P h) : ConS w mean mg mb dn du fn vs kw P' Post :=
  fun _ _ _ _ _ _ _ _ _ _ _ _ _ _ _ XB TB B F X T hk hp => C _ _ _ _ _ _ _ _ _ _ _ _ _ _ _ XB TB B F X T hk (hp.imp (k _))
theorem Con1.toS {w : World} {mean : ExcName → Option Value} {mg mb : Str → Option Value} {dn du : Nat} {fn : Value} {vs : List Value} {kw : List (Str × Value)} {P : Heap → Prop} {Post : Heap → Heap → Value → Prop}
    (C : Con1 w mean mg mb dn du fn vs kw P Post) : ConS w mean mg mb dn du fn vs kw P Post :=
  fun _ _ _ _ _ _ _ _ _ _ _ _ s _ _ _ _ B F X T hk hp hd hu R => C _ _ _ _ _ _ _ _ _ _ _ _ _ _ _ _ B F X T hk hp hd hu ⟨fun v h' tk' st po => R.out v s.heap h' tk' .refl st po⟩
/-- what the law knows of its kinds -/
structure Kcx (ks : List (List Nat)) (us : List Value) : Prop where
  ss : StrsAre us (ks.map T)
  sum : (ks.map List.length).sum + ks.length ≤ 66
  al : ∀ k ∈ ks, ∀ c ∈ k, c ∈ signs14
  ne : ks ≠ []
noncomputable def failedC : Str := Str.ofString "<part capwords() failed>"
noncomputable def Lk (kl : Addr) (us : List Value) (nk : Nat) (h : Heap) : Prop := h.get? kl = some (listOf us.toArray nk)
section
variable {prog : Program} {w : World} {A : Around} {E : Value → Shared → Prop} {s : Shared} {Q : Value → Shared → Prop}
theorem isi_none_str (h : ∀ tk, Q (.bool false) { s with toks := tk }) : wpAny (model prog w) A (call (.builtin "isinstance") [.none, .type "str"]) Q E s := by
  walk1
  exact h _
theorem isi_bool_str {b : Bool} (h : ∀ tk, Q (.bool false) { s with toks := tk }) : wpAny (model prog w) A (call (.builtin "isinstance") [.bool b, .type "str"]) Q E s := by
  walk1
  exact h _
theorem isi_int_str {i : Int} {t : Tok} (h : ∀ tk, Q (.bool false) { s with toks := tk }) : wpAny (model prog w) A (call (.builtin "isinstance") [.int i t, .type "str"]) Q E s := by
  walk1
  exact h _
theorem isi_str_str {x : Str} {t : Tok} (h : ∀ tk, Q (.bool true) { s with toks := tk }) : wpAny (model prog w) A (call (.builtin "isinstance") [.str x t, .type "str"]) Q E s := by
  walk1
  exact h _
end
/-- what is known of a value: its text in a row, its writing, its writing with repr, whether it is a text, what capwords makes of it -/
structure Kd (us : List Value) (kl : Addr) (v : Value) (o : Option (List Nat)) (x q : List Nat) (b : Bool) (G : Str) : Prop where
  len : x.length ≤ 600
  fine : ∀ c ∈ x, Fine c
  fineQ : ∀ c ∈ q, Fine c
  text : b = true → (∃ u, v = .str (T x) u) ∧ G = T (wordsL x) ∧ ∀ c ∈ x, Unicode.isSpace c = isSp c
  noText : b = false → G = failedC
  nn : o = none ∧ v = .none ∨ o = some x
  ox : o.getD noneL = x
  val : ∀ h nk, Lk kl us nk h → Val h v o
  rp : ∀ h nk, Lk kl us nk h → Rp h v q
  noSpl : b = false → ∀ h nk, Lk kl us nk h → NoSpl h v
  isi : ∀ {prog : Program} {w : World} {A : Around} {E : Value → Shared → Prop} {s : Shared} {Q : Value → Shared → Prop} (nk : Nat), Lk kl us nk s.heap → (∀ tk, Q (.bool b) { s with toks := tk }) → wpAny (model prog w) A (call (.builtin "isinstance") [v, .type "str"]) Q E s
  isn : ∀ {M : Model} {A : Around} {E : Value → Shared → Prop} {s : Shared} {Q : Value → Shared → Prop}, Q (.bool o.isNone) s → wpAny M A (compareOp .Is v .none) Q E s
  rf : ∀ h nk, Lk kl us nk h → Rf5 h v
section
variable {ks : List (List Nat)} {us : List Value} {kl : Addr} {nk : Nat} {v : Value} {o : Option (List Nat)} {x q : List Nat} {b : Bool} {G : Str}
theorem false_true {P : Prop} : false = true → P := fun e => by cases e
theorem true_false {P : Prop} : true = false → P := fun e => by cases e
theorem Kd.none : Kd us kl .none none noneL noneL false failedC where
  len := Nat.le_of_ble_eq_true rfl
  fine := none_fine
  fineQ := none_fine
  text := false_true
  noText := fun _ => rfl
  nn := .inl ⟨rfl, rfl⟩
  ox := rfl
  val := fun _ _ _ => .none
  rp := fun _ _ _ => .none
  noSpl := fun _ _ _ _ => .none
  isi := fun _ _ h => isi_none_str h
  isn := fun h => is_none_none h
  rf := fun _ _ _ => .none
theorem Kd.ofText (y : List Nat) (u : Tok) (hl : y.length ≤ 600) (hf : ∀ c ∈ y, Fine c) (hs : ∀ c ∈ y, Unicode.isSpace c = isSp c) (hr : ∀ h, Rp h (.str (T y) u) (qt y)) : Kd us kl (.str (T y) u) (some y) y (qt y) true (T (wordsL y)) where
  len := hl
  fine := hf
  fineQ := qt_fine hf
  text := fun _ => ⟨⟨u, rfl⟩, rfl, hs⟩
  noText := true_false
  nn := .inr rfl
  ox := rfl
  val := fun _ _ _ => .text y u (by (first | lia | omega))
  rp := fun h _ _ => hr h
  noSpl := true_false
  isi := fun _ _ h => isi_str_str h
  isn := fun h => is_str_none h
  rf := fun _ _ _ => .text y u (Nat.le_trans hl (by decide))
theorem Kd.bool (c : Bool) : Kd us kl (.bool c) (some (boolL c)) (boolL c) (boolL c) false failedC where
  len := Nat.le_trans (boolL_len c) (by decide)
  fine := bool_fine c
  fineQ := bool_fine c
  text := false_true
  noText := fun _ => rfl
  nn := .inr rfl
  ox := rfl
  val := fun _ _ _ => .bool c
  rp := fun _ _ _ => .bool c
  noSpl := fun _ _ _ _ => .bool c
  isi := fun _ _ h => isi_bool_str h
  isn := fun h => is_bool_none h
  rf := fun _ _ _ => .bool c
theorem Kd.int (i : Int) (t : Tok) (h1 : -20 ≤ i) (h2 : i ≤ 29) : Kd us kl (.int i t) (some (intL i)) (intL i) (intL i) false failedC where
  len := Nat.le_trans (intL_len h1 h2) (by decide)
  fine := int_fine h1 h2
  fineQ := int_fine h1 h2
  text := false_true
  noText := fun _ => rfl
  nn := .inr rfl
  ox := rfl
  val := fun _ _ _ => .int i t h1 h2
  rp := fun _ _ _ => .int i t h1 h2
  noSpl := fun _ _ _ _ => .int i t
  isi := fun _ _ h => isi_int_str h
  isn := fun h => is_int_none h
  rf := fun _ _ _ => .int i t h1 h2
theorem Kd.list (H : Kcx ks us) : Kd us kl (.ref kl) (some (listL ks)) (listL ks) (listL ks) false failedC where
  len := by have := listL_len ks; have := H.sum; (first | lia | omega)
  fine := lists_fine H.al
  fineQ := lists_fine H.al
  text := false_true
  noText := fun _ => rfl
  nn := .inr rfl
  ox := rfl
  val := fun _ _ hl => .list kl us ks (PySem.IsL.isList hl) H.ss (Nat.le_trans H.sum (by decide)) H.al
  rp := fun _ _ hl => .list kl us ks (PySem.IsL.isList hl) H.ss (Nat.le_trans H.sum (by decide)) H.al
  noSpl := fun _ _ nk hl => .list kl us nk hl
  isi := fun _ hl h => isi_list_str (PySem.IsL.isList hl) h
  isn := fun h => is_ref_none h
  rf := fun _ _ hl => .list kl us (ks.map T) (PySem.IsL.isList hl) H.ss fun e => H.ne (List.map_eq_nil_iff.mp e)
theorem Kd.textN (u : Tok) : Kd us kl (.str (T noneL) u) (some noneL) noneL (qt noneL) true (T (wordsL noneL)) :=
  .ofText noneL u (Nat.le_of_ble_eq_true rfl) none_fine none_sp fun _ => .textN u
theorem last_le (H : Kcx ks us) : (lastL ks).length ≤ 600 := Nat.le_trans (lastL_len ks) (Nat.le_trans (Nat.le_add_right _ _) (Nat.le_trans H.sum (by decide)))
theorem Kd.last (H : Kcx ks us) (u : Tok) : Kd us kl (.str (T (lastL ks)) u) (some (lastL ks)) (lastL ks) (qt (lastL ks)) true (T (wordsL (lastL ks))) :=
  .ofText (lastL ks) u (last_le H) (last_fineF H.al) (last_sp H.al) fun _ => .text (lastL ks) u (Nat.le_trans (last_le H) (by decide)) (last_fine H.al)
theorem Kd.olen (k : Kd us kl v o x q b G) : olen o ≤ 600 := by
  rcases k.nn with ⟨rfl, _⟩ | rfl
  · exact Nat.zero_le _
  · exact k.len
theorem Kd.ofine (k : Kd us kl v o x q b G) : ∀ y, o = some y → ∀ c ∈ y, Fine c := by
  rcases k.nn with ⟨rfl, _⟩ | rfl
  · intro y e; cases e
  · intro y e; cases e; exact k.fine
theorem c_sA (k : Kd us kl v o x q b G) (nk : Nat) (w mean mg mb) (wt : Tok) : Con1 w mean mg mb 3 60 (.ref 130) [v, .str (Str.ofString "part") wt] [] (Lk kl us nk) (fun _ _ r => ∃ u, r = .str (T x) u) := by
  have := (c_str w mean mg mb v o (Str.ofString "part") wt (by decide +kernel)).pre (P' := Lk kl us nk) fun h hl => k.val h nk hl
  rwa [show o.getD [78, 111, 110, 101] = x from k.ox] at this
theorem c_rA (k : Kd us kl v o x q b G) (nk : Nat) (w mean mg mb) (wt : Tok) : Con1 w mean mg mb 3 60 (.ref 130) [v, .str (Str.ofString "part") wt, .builtin "repr"] [] (Lk kl us nk) (fun _ _ r => ∃ u, r = .str (T q) u) :=
  (c_rep w mean mg mb v q (Str.ofString "part") wt (by decide +kernel)).pre fun h hl => k.rp h nk hl
theorem c_vsA (k : Kd us kl v o x q b G) (nk : Nat) (w mean mg mb) (fa : Addr) (wt : Tok) : Con1 w mean mg mb 3 60 (.ref 93) [.ref fa, v, .str (Str.ofString "s") wt] [] (Lk kl us nk) (fun _ _ r => ∃ u, r = .str (T x) u) := by
  have := (c_vstr w mean mg mb v o fa wt).pre (P' := Lk kl us nk) fun h hl => k.val h nk hl
  rwa [show o.getD [78, 111, 110, 101] = x from k.ox] at this
theorem c_vrA (k : Kd us kl v o x q b G) (nk : Nat) (w mean mg mb) (fa : Addr) (wt : Tok) : Con1 w mean mg mb 3 60 (.ref 93) [.ref fa, v, .str (Str.ofString "r") wt] [] (Lk kl us nk) (fun _ _ r => ∃ u, r = .str (T q) u) :=
  (c_vrep w mean mg mb v q fa wt).pre fun h hl => k.rp h nk hl
theorem Kd.fA (k : Kd us kl v o x q b G) (nk : Nat) (w mean mg mb) (wt : Tok) : ConS w mean mg mb 5 80 (.ref 130) [v, .str (Str.ofString "part") wt, .ref 191] [] (Lk kl us nk) (fun _ _ r => ∃ u, r = .str (Str.ofString "<part _law_refuses() failed>") u) :=
  (c_fV w mean mg mb v wt).pre fun h hl => k.rf h nk hl
theorem c_kA (k : Kd us kl v o x q b G) (nk : Nat) (w mean mg mb) (wt : Tok) : ConS w mean mg mb 5 80 (.ref 130) [v, .str (Str.ofString "part") wt, .ref 36] [] (Lk kl us nk) (fun _ _ r => ∃ u, r = .str G u) := by
  cases b with
  | false =>
    obtain rfl := k.noText rfl
    exact (c_cV w mean mg mb v wt).pre fun h hl => k.noSpl rfl h nk hl
  | true =>
    obtain ⟨⟨u, e⟩, rfl, hs⟩ := k.text rfl
    rw [e]
    exact (c_w_text w mean mg mb x u (Nat.le_trans k.len (by decide)) hs k.fine _ wt).toS.pre fun _ _ => trivial
end
end Mine
end
section -- Kd2
open PySem PySem.W PySem.Calls PyProof.Rows
set_option maxRecDepth 100000
namespace Mine
section
variable {ks : List (List Nat)} {us : List Value} {kl : Addr} {nk : Nat} {v : Value} {o : Option (List Nat)} {x q : List Nat} {b : Bool} {G : Str}
variable {prog : Program} {w : World} {A : Around} {E : Value → Shared → Prop} {s : Shared} {Q : Value → Shared → Prop}
/-- the row's last part, if there is one -/
noncomputable def rowTail (o : Option (List Nat)) (v : Value) : List Value := match o with | none => [] | some _ => [v]
theorem rowTail_len (o : Option (List Nat)) (v : Value) : (rowTail o v).length ≤ 1 := by cases o <;> exact Nat.le_of_ble_eq_true rfl
theorem strs_row (k : Kd us kl v o x q b G) (H : Kcx ks us) (u : Tok) : StrsAre (us ++ rowTail o (.str (T x) u)) ((ks ++ o.toList).map T) := by
  rcases k.nn with ⟨rfl, _⟩ | rfl
  · exact strs_row0 H.ss
  · exact strs_row1 H.ss _ _
/-- what the great row's last part is laid from -/
noncomputable def CapV (v' : Value) (o : Option (List Nat)) : Prop := (v' = .none ∧ o = none) ∨ ∃ y u, v' = .str (T (capL y)) u ∧ o = some y ∧ y.length ≤ 600
theorem CapV.val {v' : Value} (c : CapV v' o) (h : Heap) : Val h v' (o.map capL) := by
  rcases c with ⟨rfl, rfl⟩ | ⟨y, u, rfl, rfl, hy⟩
  · exact .none
  · exact .text (capL y) u (by rw [capL_len]; (first | lia | omega))
theorem Kd.rowIs (k : Kd us kl v o x q b G) (H : Kcx ks us) : ∃ R C, RowIs ks o R C := ⟨_, _, rfl, rfl, H.al, k.ofine, by have := k.olen; have := H.sum; (first | lia | omega)⟩
end
section
variable {M : Model} {A : Around} {tree : Sem Value} {Q : Value → Shared → Prop} {E : Value → Shared → Prop} {hp h₀ : Heap} {g : Array GenState} {d : Drawn} {tk : Nat} {os : OsState} {L : Addr} {m : Str → Option Value} {news : List (Addr × Obj)}
/-- a cut: an expression that gives a new list -/
theorem cut_list (ol : List Value) (_ : Fr h₀ L hp m) (_ : News h₀ L hp news)
    (h1 : ∀ Q' E' : Value → Shared → Prop, (∀ a h' tk', Fr h₀ L h' m → News h₀ L h' ((a, listOf ol.toArray 0) :: news) → Q' (.ref a) ⟨h', g, d, tk', os⟩) → wpAny M A tree Q' E' ⟨hp, g, d, tk, os⟩)
    (h2 : ∀ a h' tk', Fr h₀ L h' m → News h₀ L h' ((a, listOf ol.toArray 0) :: news) → Q (.ref a) ⟨h', g, d, tk', os⟩) : wpAny M A tree Q E ⟨hp, g, d, tk, os⟩ := h1 Q E h2
/-- a cut: an expression that gives the great row's last part -/
theorem cut_cap (o : Option (List Nat)) (_ : Fr h₀ L hp m) (_ : News h₀ L hp news)
    (h1 : ∀ Q' E' : Value → Shared → Prop, (∀ v h' tk', CapV v o → Fr h₀ L h' m → News h₀ L h' news → Q' v ⟨h', g, d, tk', os⟩) → wpAny M A tree Q' E' ⟨hp, g, d, tk, os⟩)
    (h2 : ∀ v h' tk', CapV v o → Fr h₀ L h' m → News h₀ L h' news → Q v ⟨h', g, d, tk', os⟩) : wpAny M A tree Q E ⟨hp, g, d, tk, os⟩ := h1 Q E h2
end
theorem News.pick {h₀ h : Heap} {L : Addr} {news : List (Addr × Obj)} {p : Addr × Obj} (N : News h₀ L h news) (hp : p ∈ news) : News h₀ L h (p :: news) := fun r hr => by
  rcases List.mem_cons.mp hr with rfl | hr
  · exact N _ hp
  · exact N _ hr
/-- the law's loop over its six values: one turn for all -/
theorem turns_kd {prog : Program} {w : World} {A : Around} {E : Value → Shared → Prop} {env : Env} {h₀ hp : Heap} {g : Array GenState} {d : Drawn} {tk : Nat} {os : OsState} {target : PySem.Expr} {body : List Stmt} {Q : Flow → Shared → Prop}
    {ks : List (List Nat)} {us : List Value} {kl fa da : Addr} {nk : Nat} {i : Int} {itk : Tok} {vl t1 t2 t3 t4 t5 t6 : Addr} {u0 u1 u2 u3 u4 u5 u6 u7 u8 u9 u10 u11 u12 u13 : Tok} {m₀ : Str → Option Value} {rest : List (Addr × Obj)}
    (H : Kcx ks us) (hi1 : -20 ≤ i) (hi2 : i ≤ 29) (hh : A.handled = none) (F : Fr h₀ env.locals hp m₀)
    (N : News h₀ env.locals hp (vled vl t1 t2 t3 t4 t5 t6 u0 u1 u2 u3 u4 u5 u6 u7 u8 u9 u10 u11 u12 u13 kl ks i itk ++ (fa, instObj 110 da) :: (da, dictOf [] 0) :: (kl, listOf us.toArray nk) :: rest))
    (hk : m₀ (Str.ofString "kinds") = some (.ref kl)) (hf : m₀ (Str.ofString "formatter") = some (.ref fa))
    (turn : ∀ (t : Addr) (v : Value) (o : Option (List Nat)) (x q : List Nat) (b : Bool) (G : Str) (ua ub : Tok) (led : List (Addr × Obj)) (m₁ : Str → Option Value) (h : Heap) (tk₁ : Nat) (Qe : Flow → Shared → Prop) (Ee : Value → Shared → Prop),
      Kd us kl v o x q b G → Fr h₀ env.locals h (fun y => if y = Str.ofString "kinds" then some (.ref kl) else if y = Str.ofString "formatter" then some (.ref fa) else m₁ y) →
      News h₀ env.locals h ((t, tup3 v (.str (T x) ua) (.str (T q) ub)) :: (fa, instObj 110 da) :: (da, dictOf [] 0) :: (kl, listOf us.toArray nk) :: led) →
      (∀ h' tk' m', Fr h₀ env.locals h' m' → News h₀ env.locals h' led → m' (Str.ofString "kinds") = some (.ref kl) → m' (Str.ofString "formatter") = some (.ref fa) → Qe .next ⟨h', g, d, tk', os⟩) →
      wpAny (model prog w) A (assign target env (.ref t)) (fun _ s₃ => wpAny (model prog w) A (execs body env) Qe Ee s₃) Ee ⟨h, g, d, tk₁, os⟩)
    (done : ∀ (m₁ : Str → Option Value) h tk', Fr h₀ env.locals h m₁ → Q .next ⟨h, g, d, tk', os⟩) :
    wpAny (model prog w) A (pyIter (.ref vl)) (fun it s₂ => TurnsAt prog w A h₀ env target body Q E it s₂) E ⟨hp, g, d, tk, os⟩ := by
  refine turns_list (vs := [.ref t1, .ref t2, .ref t3, .ref t4, .ref t5, .ref t6]) (fun _ m => m (Str.ofString "kinds") = some (.ref kl) ∧ m (Str.ofString "formatter") = some (.ref fa)) hh F N (List.Mem.head _) rfl rfl ⟨hk, hf⟩ ?_ fun m₁ h tk' _ F' _ => done m₁ h tk' F'
  rintro j v m₁ h tk₁ own hv ⟨hk1, hk2⟩ F₁ N₁
  have F₂ := fr_two F₁ hk1 hk2
  have go : ∀ (t : Addr) (v : Value) (o : Option (List Nat)) (x q : List Nat) (b : Bool) (G : Str) (ua ub : Tok), Kd us kl v o x q b G → (t, tup3 v (.str (T x) ua) (.str (T q) ub)) ∈ vled vl t1 t2 t3 t4 t5 t6 u0 u1 u2 u3 u4 u5 u6 u7 u8 u9 u10 u11 u12 u13 kl ks i itk → 
      wpAny (model prog w) A (assign target env (.ref t)) (fun _ s₃ => wpAny (model prog w) A (execs body env) (TEnd h₀ env.locals (fun m => m (Str.ofString "kinds") = some (.ref kl) ∧ m (Str.ofString "formatter") = some (.ref fa)) (vled vl t1 t2 t3 t4 t5 t6 u0 u1 u2 u3 u4 u5 u6 u7 u8 u9 u10 u11 u12 u13 kl ks i itk ++ (fa, instObj 110 da) :: (da, dictOf [] 0) :: (kl, listOf us.toArray nk) :: rest ++ own) ⟨h, g, d, tk₁, os⟩ Q) E s₃) E ⟨h, g, d, tk₁, os⟩ := by
    intro t v o x q b G ua ub hk hm
    refine turn t v o x q b G ua ub _ m₁ h tk₁ _ _ hk F₂ (((News.pick (News.pick (News.pick (News.pick N₁ ?_) ?_) ?_) ?_))) fun h' tk' m' F' N' e1 e2 => TEnd.next F' N' ⟨e1, e2⟩
    · exact List.mem_append.mpr (.inl (List.mem_append.mpr (.inr (List.mem_cons_of_mem _ (List.mem_cons_of_mem _ (List.mem_cons_self ..))))))
    · exact List.mem_cons_of_mem _ (List.mem_append.mpr (.inl (List.mem_append.mpr (.inr (List.mem_cons_of_mem _ (List.mem_cons_self ..))))))
    · exact List.mem_cons_of_mem _ (List.mem_cons_of_mem _ (List.mem_append.mpr (.inl (List.mem_append.mpr (.inr (List.mem_cons_self ..))))))
    · exact List.mem_cons_of_mem _ (List.mem_cons_of_mem _ (List.mem_cons_of_mem _ (List.mem_append.mpr (.inl (List.mem_append.mpr (.inl hm))))))
  rcases j with _ | _ | _ | _ | _ | _ | j
  · obtain rfl := Option.some.inj hv
    exact go _ _ _ _ _ _ _ _ _ .none (by unfold vled; exact .tail _ (.tail _ (.tail _ (.tail _ (.tail _ (.tail _ (.head _)))))))
  · obtain rfl := Option.some.inj hv
    exact go _ _ _ _ _ _ _ _ _ (.textN _) (by unfold vled; exact .tail _ (.tail _ (.tail _ (.tail _ (.tail _ (.head _))))))
  · obtain rfl := Option.some.inj hv
    exact go _ _ _ _ _ _ _ _ _ (.bool _) (by unfold vled; exact .tail _ (.tail _ (.tail _ (.tail _ (.head _)))))
  · obtain rfl := Option.some.inj hv
    exact go _ _ _ _ _ _ _ _ _ (.int _ _ hi1 hi2) (by unfold vled; exact .tail _ (.tail _ (.tail _ (.head _))))
  · obtain rfl := Option.some.inj hv
    exact go _ _ _ _ _ _ _ _ _ (.last H _) (by unfold vled; exact .tail _ (.tail _ (.head _)))
  · obtain rfl := Option.some.inj hv
    exact go _ _ _ _ _ _ _ _ _  (.list H) (by unfold vled; exact .tail _ (.head _))
  · cases hv
end Mine
namespace Mine
theorem first_of {ks : List (List Nat)} {us : List Value} (H : Kcx ks us) : ∃ k0 kr, ks = k0 :: kr ∧ ∃ x0 : Str, x0 = T k0 ∧ x0.length ≤ 100 ∧ (List.map T ks).head?.getD Str.empty = x0 := by
  cases e : ks with
  | nil => exact absurd e H.ne
  | cons a r =>
    refine ⟨a, r, rfl, _, rfl, ?_, rfl⟩
    have := H.sum
    rw [e] at this
    simp only [List.map_cons, List.sum_cons, List.length_cons] at this
    rw [T_len]; (first | lia | omega)
theorem rest_size {ks : List (List Nat)} {us : List Value} (H : Kcx ks us) : us.toArray.size ≤ sizeLine := by
  have h1 := H.ss.length
  have h2 := H.sum
  rw [List.length_map] at h1
  rw [sizeLine_eq, List.size_toArray]; (first | lia | omega)
theorem elt_of {ks : List (List Nat)} {us : List Value} (H : Kcx ks us) {x : Str} (hm : x ∈ List.map T ks) : x.length ≤ 4000 ∧ ∀ c ∈ cd x, Fine c := by
  obtain ⟨k, hk, rfl⟩ := List.mem_map.mp hm
  have h1 := le_sumN hk
  have h2 := H.sum
  refine ⟨by rw [T_len]; (first | lia | omega), fun c hc => signs_fine c (H.al k hk c (by rw [cd_T] at hc; exact hc))⟩
end Mine
end
section -- Hu
open PySem PySem.W PySem.Calls PyProof.Rows
set_option maxRecDepth 100000
namespace Mine
theorem kinds_use {w : World} {mean : ExcName → Option Value} {mg mb : Str → Option Value} {dp un : Nat} {gd : Option (List Code)} {cn : Str} {cs : Scope} {a : Addr} {ccd : Value} {cl : List (Str × Addr)} {outer : List Env} {A₀ : Around} {base h₀ : Heap} {L : Addr} {m : Str → Option Value} {hp : Heap} {g : Array GenState} {d : Drawn} {tk : Nat} {os : OsState} {Q E : Value → Shared → Prop} {news : List (Addr × Obj)} {l : Addr} {vs : List Value} {ns : List Int} (hi : IntsAre vs ns) (hlen : ns.length ≤ 63)
    (B : Below A₀ base outer h₀) (F : Fr h₀ L hp m) (X : (Mine.hd.heap_39 w.params).In h₀) (T : Top Mine.hd.view_39 loose0 mean mg mb h₀) (hk : cs.kind = .function) (N : News h₀ L hp news) (hl : hp.IsList l vs.toArray) (hd : dp + 3 < recursionLimit) (hu : un + 60 < cLine)
    (ret : ∀ kl us nk ks h' tk', Kcx ks us → Fr h₀ L h' m → News h₀ L h' ((kl, listOf us.toArray nk) :: news) → Q (.ref kl) ⟨h', g, d, tk', os⟩) :
    wpAny (model PySem.Challenge.rw_ik0032_01.row.prog w) (ktrTop dp un gd cn cs L a ccd cl outer) (call (.ref 137) [.ref l] []) Q E ⟨hp, g, d, tk, os⟩ :=
  Con.use (s := ⟨hp, g, d, tk, os⟩) (c_kinds w mean mg mb l vs ns hi hlen) B F X T hk N ⟨hl⟩ hd hu fun v h' tk' po F' N' _ => by
    obtain ⟨kl, us, nk, ks, rfl, hg, hn, hS, hOk⟩ := po
    exact ret kl us nk ks h' tk' ⟨hS, hOk.len, hOk.2.1, hOk.ne⟩ F' (news_add F N' hg hn)
theorem values_use {w : World} {mean : ExcName → Option Value} {mg mb : Str → Option Value} {dp un : Nat} {cn : Str} {cs : Scope} {a : Addr} {ccd : Value} {cl : List (Str × Addr)} {outer : List Env} {A₀ : Around} {base h₀ : Heap} {L : Addr} {m : Str → Option Value} {hp : Heap} {g : Array GenState} {d : Drawn} {tk : Nat} {os : OsState} {Q E : Value → Shared → Prop} {news : List (Addr × Obj)} {l : Addr} {us : List Value} {nk : Nat} {ks : List (List Nat)} {i : Int} {it : Tok} (H : Kcx ks us) (hi1 : -20 ≤ i) (hi2 : i ≤ 29)
    (B : Below A₀ base outer h₀) (F : Fr h₀ L hp m) (X : (Mine.hd.heap_39 w.params).In h₀) (T : Top Mine.hd.view_39 loose0 mean mg mb h₀) (hk : cs.kind = .function) (N : News h₀ L hp news) (hl : hp.get? l = some (listOf us.toArray nk)) (hd : dp + 7 < recursionLimit) (hu : un + 100 < cLine)
    (ret : ∀ (vl t1 t2 t3 t4 t5 t6 : Addr) (u0 u1 u2 u3 u4 u5 u6 u7 u8 u9 u10 u11 u12 u13 : Tok) h' tk', Fr h₀ L h' m → News h₀ L h' (vled vl t1 t2 t3 t4 t5 t6 u0 u1 u2 u3 u4 u5 u6 u7 u8 u9 u10 u11 u12 u13 l ks i it ++ news) → Q (.ref vl) ⟨h', g, d, tk', os⟩) :
    wpAny (model PySem.Challenge.rw_ik0032_01.row.prog w) (ktrTop dp un (some []) cn cs L a ccd cl outer) (call (.ref 156) [.ref l, .int i it] []) Q E ⟨hp, g, d, tk, os⟩ :=
  Con1.use (s := ⟨hp, g, d, tk, os⟩) (c_values w mean mg mb l us nk ks H.ss H.sum H.al H.ne i it hi1 hi2) B F X T hk N ⟨hl⟩ hd hu fun v h' tk' po F' N' _ => by
    obtain ⟨vl, t1, t2, t3, t4, t5, t6, u0, u1, u2, u3, u4, u5, u6, u7, u8, u9, u10, u11, u12, u13, rfl, hled⟩ := po
    exact ret vl t1 t2 t3 t4 t5 t6 u0 u1 u2 u3 u4 u5 u6 u7 u8 u9 u10 u11 u12 u13 h' tk' F' (news_adds F N' _ hled)
end Mine
end
section -- LK
open PySem PySem.W PyProof.Rows
set_option maxRecDepth 100000
set_option maxHeartbeats 8000000 
namespace Mine
theorem off_LK : True := by (w_top off); trivial
local macro_rules | `(tactic| passes_own) => `(tactic| exact PySem.PassesOwn.leaving)
local macro_rules | `(tactic| walk_at "call ref") => `(tactic| (rename (And True (And True True)) => zMk2; refine Stp.out ?_))
local macro_rules | `(tactic| walk_at "exec For Tuple Call cons nil") => `(tactic| (refine Stp.out ?_))
local macro_rules | `(tactic| walk_at "call builtin:sum") => `(tactic| (refine Stp.out ?_))
local macro_rules | `(tactic| walk_at "call builtin:isinstance") => `(tactic| (refine Stp.out ?_))
local macro_rules | `(tactic| walk_at "compareOp Is") => `(tactic| (refine Stp.out ?_))
local macro_rules | `(tactic| walk_at "pyIter ref") => `(tactic| (rename (And True (And True True)) => zMk2; refine Stp.out ?_))
local macro_rules | `(tactic| walk_at "compareOp NotEq str str") => `(tactic| (with_reducible refine ne_same ?_))
local macro_rules | `(tactic| walk_at "subscriptTail") => `(tactic| (refine Stp.out ?_))
local macro_rules | `(tactic| walk_at "compareOp NotEq ref ref") => `(tactic| (refine Stp.out ?_))
local macro_rules | `(tactic| walk_at "binaryOp Add ref ref") => `(tactic| (refine Stp.out ?_))
local macro_rules | `(tactic| walk_at "eval IfExp") => `(tactic| (rename (And True True) => zMk; refine Stp.out ?_))

theorem law0 : PySem.Challenge.rw_ik0032_01.Holds :=
  Mine.hd (by 
   k_go0
   all_goals try k_fold
   have zMk2 : True ∧ True ∧ True := ⟨trivial, trivial, trivial⟩
   k_steps
   refine ⟨?_⟩
   rename (True ∧ True ∧ True) => zMk2
   clear zMk2
   rename Fr _ _ _ _ => zF
   rename News _ _ _ _ => zN
   rename Top _ _ _ _ _ _ => zT
   rename Frag.In _ _ => zX
   rename Below _ _ _ _ => zB
   rename Heap.IsList _ _ _ => zL
   rename IntsAre _ _ => zI
   rename (¬ _ < (_ : Int)) => zC
   have zlen := zC
   simp only [Int.not_lt] at zlen
   with_unfolding_all refine kinds_use zI (by (first | lia | omega)) zB zF zX zT rfl zN (zL.at fun o => zF.keep _ o) (by decide) (by decide) ?_
   intro kl us nk ks h2 tk2 zH zF2 zN3
   clear zF zN
   k_steps
   refine ⟨?_⟩
   rename (CarriedAll _ _) => zY
   rename Fr _ _ _ _ => zF
   rename News _ _ _ _ => zN
   rename Heap.IsList _ _ _ => zL2
   refine sum_K rfl zF zN zL2 (CarriedAll.intsOf zY) ?_
   clear zF zN zL2
   intro h3 tk3 t3 zF zN
   generalize (List.sum _ : Int) = S
   clear zY
   k_steps
   refine ⟨?_⟩
   (rename Fr _ _ _ _ => lF')
   with_reducible (refine' For_turns ?F ?_ ?hs ?hE; (case F => with_unfolding_all exact lF'); (case hs => (intro _; with_unfolding_all rfl)); (case hE => with_unfolding_all passes_own))
   have zMk2 : True ∧ True ∧ True := ⟨trivial, trivial, trivial⟩
   k_steps
   refine ⟨?_⟩
   rename Fr _ _ _ _ => zF
   rename News _ _ _ _ => zN
   rename_i fa da hA lA1 lA2 hB zMk2
   have zi1 : -20 ≤ Int.fmod S 50 - 20 := by have := Int.fmod_nonneg_of_pos S (show (0 : Int) < 50 by decide); (first | lia | omega)
   have zi2 : Int.fmod S 50 - 20 ≤ 29 := by have := Int.fmod_lt_of_pos S (show (0 : Int) < 50 by decide); (first | lia | omega)
   generalize Int.fmod S 50 - 20 = wh at zi1 zi2 zF ⊢
   with_unfolding_all refine values_use (ks := ks) (us := us) (nk := nk) zH zi1 zi2 zB zF zX zT rfl zN (zN _ (.tail _ (.tail _ (.head _)))).1 (by decide) (by decide) ?_
   intro vl t1 t2 t3 t4 t5 t6 u0 u1 u2 u3 u4 u5 u6 u7 u8 u9 u10 u11 u12 u13 h5 tk5 zF5 zN6
   clear zF zN
   k_steps
   refine ⟨?_⟩
   with_unfolding_all refine turns_kd zH zi1 zi2 rfl zF5 zN6 (by rfl) (by rfl) ?_ ?_
   · intro t v o x q b G ua ub led m₁ h6 tk6 Qe Ee zk zF7 zN7 zEnd
     clear zF5 zN6 zL lA1 lA2
     have zMk : True ∧ True := ⟨trivial, trivial⟩
     have zfx := zk.fine
     have zfq := zk.fineQ
     have zxl := zk.len
     k_steps
     refine ⟨?_⟩
     rename Fr _ _ _ _ => zF
     rename News _ _ _ _ => zN
     with_unfolding_all refine Con1.useS (c_sA zk nk _ _ _ _ _) zB zF zX zT rfl zN ⟨(zN (kl, listOf us.toArray nk) (by repeat (first | with_reducible exact List.mem_cons_self .. | with_reducible refine List.mem_cons_of_mem _ ?_))).1⟩ (by decide) (by decide) ?_
     intro uu hh ttk zF2 zN2
     clear zF zN
     k_steps
     refine ⟨?_⟩
     rename Fr _ _ _ _ => zF
     rename News _ _ _ _ => zN
     with_unfolding_all refine Con1.useS (c_rA zk nk _ _ _ _ _) zB zF zX zT rfl zN ⟨(zN (kl, listOf us.toArray nk) (by repeat (first | with_reducible exact List.mem_cons_self .. | with_reducible refine List.mem_cons_of_mem _ ?_))).1⟩ (by decide) (by decide) ?_
     intro uu hh ttk zF2 zN2
     clear zF zN
     k_steps
     refine ⟨?_⟩
     rename Fr _ _ _ _ => zF
     rename News _ _ _ _ => zN
     with_unfolding_all refine ne_two (PySem.IsL.isList (zN _ (.tail _ (.head _))).1) (PySem.IsL.isList (zN _ (.head _)).1) (lay_T zfx) (lay_T zfq) (Nat.le_of_ble_eq_true rfl) ?_
     k_steps
     refine ⟨?_⟩
     rename Fr _ _ _ _ => zF
     rename News _ _ _ _ => zN
     with_unfolding_all refine Con1.useS (c_vsA zk nk _ _ _ _ fa _) zB zF zX zT rfl zN ⟨(zN (kl, listOf us.toArray nk) (by repeat (first | with_reducible exact List.mem_cons_self .. | with_reducible refine List.mem_cons_of_mem _ ?_))).1⟩ (by decide) (by decide) ?_
     intro uu hh ttk zF2 zN2
     clear zF zN
     k_steps
     refine ⟨?_⟩
     rename Fr _ _ _ _ => zF
     rename News _ _ _ _ => zN
     with_unfolding_all refine Con1.useS (c_vrA zk nk _ _ _ _ fa _) zB zF zX zT rfl zN ⟨(zN (kl, listOf us.toArray nk) (by repeat (first | with_reducible exact List.mem_cons_self .. | with_reducible refine List.mem_cons_of_mem _ ?_))).1⟩ (by decide) (by decide) ?_
     intro uu hh ttk zF2 zN2
     clear zF zN
     k_steps
     refine ⟨?_⟩
     rename Fr _ _ _ _ => zF
     rename News _ _ _ _ => zN
     with_unfolding_all refine ne_two (PySem.IsL.isList (zN _ (.tail _ (.head _))).1) (PySem.IsL.isList (zN _ (.head _)).1) (lay_T zfx) (lay_T zfq) (Nat.le_of_ble_eq_true rfl) ?_
     k_steps
     refine ⟨?_⟩
     rename Fr _ _ _ _ => zF
     rename News _ _ _ _ => zN
     with_unfolding_all refine cut_str G zF zN ?_ ?_
     · intro Q' E' zQ
       rename (True ∧ True) => zMk
       clear zMk
       k_steps
       refine ⟨?_⟩
       rename Fr _ _ _ _ => zF
       rename News _ _ _ _ => zN
       with_unfolding_all refine zk.isi nk ((zN (kl, listOf us.toArray nk) (by repeat (first | with_reducible exact List.mem_cons_self .. | with_reducible refine List.mem_cons_of_mem _ ?_))).1) ?_
       intro tki
       cases b
       · obtain rfl := zk.noText rfl
         k_steps
         rename Fr _ _ _ _ => zF
         rename News _ _ _ _ => zN
         exact zQ _ _ _ zF zN
       · obtain ⟨⟨uw, rfl⟩, rfl, -⟩ := zk.text rfl
         k_steps
         refine ⟨?_⟩
         rename Fr _ _ _ _ => zF
         rename News _ _ _ _ => zN
         with_unfolding_all refine Con.useS (c_words _ _ _ _ _ _ (by (first | lia | omega)) zfx) zB zF zX zT rfl zN ⟨trivial⟩ (by decide) (by decide) ?_
         intro uu hh ttk zF2 zN2
         clear zF zN
         k_steps
         rename Fr _ _ _ _ => zF
         rename News _ _ _ _ => zN
         exact zQ _ _ _ zF zN
     intro uu hh ttk zF2 zN2
     clear zF zN
     k_steps
     refine ⟨?_⟩
     rename Fr _ _ _ _ => zF
     rename News _ _ _ _ => zN
     with_unfolding_all refine ConS.useS (c_kA zk nk _ _ _ _ _) zB zF zX zT zX zT rfl zN ⟨(zN (kl, listOf us.toArray nk) (by repeat (first | with_reducible exact List.mem_cons_self .. | with_reducible refine List.mem_cons_of_mem _ ?_))).1⟩ (by decide) (by decide) ?_
     intro uu hh ttk zF2 zN2
     clear zF zN
     k_steps
     refine ⟨?_⟩
     rename Fr _ _ _ _ => zF
     rename News _ _ _ _ => zN
     with_unfolding_all refine ConS.useS (zk.fA nk _ _ _ _ _) zB zF zX zT zX zT rfl zN ⟨(zN (kl, listOf us.toArray nk) (by repeat (first | with_reducible exact List.mem_cons_self .. | with_reducible refine List.mem_cons_of_mem _ ?_))).1⟩ (by decide) (by decide) ?_
     intro uu hh ttk zF2 zN2
     clear zF zN
     k_steps
     refine ⟨?_⟩
     rename Fr _ _ _ _ => zF
     rename News _ _ _ _ => zN
     with_unfolding_all refine cut_list (rowTail o (.str (Mine.T x) ua)) zF zN ?_ ?_
     · intro Q' E' zQ
       rename (True ∧ True) => zMk
       clear zMk
       k_steps
       refine ⟨?_⟩
       rename Fr _ _ _ _ => zF
       rename News _ _ _ _ => zN
       with_unfolding_all refine zk.isn ?_
       rcases zk.nn with ⟨rfl, -⟩ | rfl
       all_goals
         dsimp only [Option.isNone]
         k_steps
         rename Fr _ _ _ _ => zF
         rename News _ _ _ _ => zN
         exact zQ _ _ _ zF zN
     intro al hh ttk zF2 zN2
     clear zF zN
     k_steps
     refine ⟨?_⟩
     rename Fr _ _ _ _ => zF
     rename News _ _ _ _ => zN
     have zszc : us.length ≤ 66 := by have := zH.ss.length; rw [List.length_map] at this; have := zH.sum; (first | lia | omega)
     have zszt := rowTail_len o (.str (Mine.T x) ua)
     with_unfolding_all refine add_lists (vs := us) (ws := rowTail o (.str (Mine.T x) ua)) zF zN (PySem.IsL.isList ((zN (kl, listOf us.toArray nk) (by repeat (first | with_reducible exact List.mem_cons_self .. | with_reducible refine List.mem_cons_of_mem _ ?_))).1)) (PySem.IsL.isList (zN _ (.head _)).1) ?_ (by rw [sizeLine_eq]; (first | lia | omega))
     intro hcat zF2 zN2
     clear zF zN
     k_steps
     obtain ⟨R, C, hRow⟩ := zk.rowIs zH
     have hRl := hRow.len'
     refine ⟨?_⟩
     rename Fr _ _ _ _ => zF
     rename News _ _ _ _ => zN
     with_unfolding_all refine Con.useS (c_rowV hRow _ _ _ _ _ (us ++ rowTail o (.str (Mine.T x) ua)) (strs_row zk zH ua)) zB zF zX zT rfl zN ⟨⟨_, (zN _ (.head _)).1, rfl, _, rfl⟩⟩ (by decide) (by decide) ?_
     intro uu hh ttk zF2 zN2
     clear zF zN
     k_steps
     refine ⟨?_⟩
     rename Fr _ _ _ _ => zF
     rename News _ _ _ _ => zN
     with_unfolding_all refine Con1.useS (c_nestedV1 hRow _ _ _ _ kl us zH.ss _ zH.ne) zB zF zX zT rfl zN ⟨(PySem.IsL.isList ((zN (kl, listOf us.toArray nk) (by repeat (first | with_reducible exact List.mem_cons_self .. | with_reducible refine List.mem_cons_of_mem _ ?_))).1)), zk.val _ nk ((zN (kl, listOf us.toArray nk) (by repeat (first | with_reducible exact List.mem_cons_self .. | with_reducible refine List.mem_cons_of_mem _ ?_))).1)⟩ (by decide) (by decide) ?_
     intro uu hh ttk zF2 zN2
     clear zF zN
     k_steps
     refine ⟨?_⟩
     rename Fr _ _ _ _ => zF
     rename News _ _ _ _ => zN
     with_unfolding_all refine sub_first (PySem.IsL.isList ((zN (kl, listOf us.toArray nk) (by repeat (first | with_reducible exact List.mem_cons_self .. | with_reducible refine List.mem_cons_of_mem _ ?_))).1)) zH.ss (fun e => zH.ne (List.map_eq_nil_iff.mp e)) rfl ?_ (by with_unfolding_all rfl)
     intro tf
     obtain ⟨k0, kr, hks, x0, hx0, hx0l, hx0e⟩ := first_of zH
     rw [hx0e]
     k_steps
     refine ⟨?_⟩
     rename Fr _ _ _ _ => zF
     rename News _ _ _ _ => zN
     with_unfolding_all refine kmk_slice_lit (zs := us.drop 1) zF zN (PySem.IsL.isList ((zN (kl, listOf us.toArray nk) (by repeat (first | with_reducible exact List.mem_cons_self .. | with_reducible refine List.mem_cons_of_mem _ ?_))).1)) (.int _ _) .none pick_rest ?_ (by with_unfolding_all rfl) (by intro r; with_unfolding_all rfl) (rest_size zH)
     intro D3 h3s zF2 zN2 zl3
     clear zF zN
     k_steps
     refine ⟨?_⟩
     rename Fr _ _ _ _ => zF
     rename News _ _ _ _ => zN
     with_unfolding_all refine Con1.use (c_restV (hRow.as hks) _ _ _ _ _ (us.drop 1) (strs_rest (StrsAre_as zH.ss hks)) _) zB zF zX zT rfl zN ⟨PySem.IsL.isList (zN _ (.head _)).1, zk.val _ nk ((zN (kl, listOf us.toArray nk) (by repeat (first | with_reducible exact List.mem_cons_self .. | with_reducible refine List.mem_cons_of_mem _ ?_))).1)⟩ (by decide) (by decide) ?_
     intro vv hh ttk zVal zF2 zN2 zk2
     clear zF zN zk2
     k_steps
     refine ⟨?_⟩
     rename Fr _ _ _ _ => zF
     rename News _ _ _ _ => zN
     with_unfolding_all refine Con1.useS (c_finV (hRow.as hks) _ _ _ _ x0 hx0 _ _) zB zF zX zT rfl zN ⟨zVal⟩ (by decide) (by decide) ?_
     intro uu hh ttk zF2 zN2
     clear zF zN
     k_steps
     refine ⟨?_⟩
     rename Fr _ _ _ _ => zF
     rename News _ _ _ _ => zN
     with_unfolding_all refine cut_cap o zF zN ?_ ?_
     · intro Q' E' zQ
       rename (True ∧ True) => zMk
       clear zMk
       k_steps
       refine ⟨?_⟩
       rename Fr _ _ _ _ => zF
       rename News _ _ _ _ => zN
       with_unfolding_all refine zk.isn ?_
       rcases zk.nn with ⟨rfl, -⟩ | rfl
       · dsimp only [Option.isNone]
         k_steps
         rename Fr _ _ _ _ => zF
         rename News _ _ _ _ => zN
         exact zQ _ _ _ (.inl ⟨rfl, rfl⟩) zF zN
       · dsimp only [Option.isNone]
         k_steps
         refine ⟨?_⟩
         rename Fr _ _ _ _ => zF
         rename News _ _ _ _ => zN
         with_unfolding_all refine Con.useS (c_capwords2 _ _ _ _ x _ _ (by (first | lia | omega)) zfx) zB zF zX zT rfl zN ⟨trivial⟩ (by decide) (by decide) ?_
         intro uu hh ttk zF2 zN2
         clear zF zN
         k_steps
         rename Fr _ _ _ _ => zF
         rename News _ _ _ _ => zN
         exact zQ _ _ _ (.inr ⟨x, _, rfl, rfl, zxl⟩) zF zN
     intro vc hh ttk zCap zF2 zN2
     clear zF zN
     k_steps
     refine ⟨?_⟩
     rename Fr _ _ _ _ => zF
     rename News _ _ _ _ => zN
     with_unfolding_all refine Con.useS (c_capwordsV hRow _ _ _ _ _ _) zB zF zX zT rfl zN ⟨trivial⟩ (by decide) (by decide) ?_
     intro uu hh ttk zF2 zN2
     clear zF zN
     k_steps
     refine ⟨?_⟩
     rename Fr _ _ _ _ => zF
     rename News _ _ _ _ => zN
     with_unfolding_all refine Con.useS (c_cappedV hRow _ _ _ _ _) zB zF zX zT rfl zN ⟨trivial⟩ (by decide) (by decide) ?_
     intro uu hh ttk zF2 zN2
     clear zF zN
     have zLk := PySem.IsL.isList ((zN2 (kl, listOf us.toArray nk) (by repeat (first | with_reducible exact List.mem_cons_self .. | with_reducible refine List.mem_cons_of_mem _ ?_))).1)
     have zSS := zH.ss
     have hlx : (List.map Mine.T ks).length ≤ 66 := by rw [List.length_map]; have := zH.sum; (first | lia | omega)
     generalize hxs : List.map Mine.T ks = xs at zSS hlx
     k_steps
     · refine ⟨?_⟩
       rename (_ ∈ xs) => zm
       rename Fr _ _ _ _ => zF
       rename News _ _ _ _ => zN
       obtain ⟨hkx, hkf⟩ := elt_of zH (hxs.symm ▸ zm)
       with_unfolding_all refine Con.use (c_capwordsS _ _ _ _ _ _ _ hkx hkf) zB zF zX zT rfl zN ⟨trivial⟩ (by decide) (by decide) ?_
       rintro r h2 tk2 ⟨u2, rfl⟩ zF2 zN2 zk2
       with_unfolding_all exact ⟨.str _ _, _, _, rfl, zk2⟩
     · refine ⟨?_⟩
       rename (CarriedAll _ _) => zC
       rename Fr _ _ _ _ => zF
       rename News _ _ _ _ => zN
       rename Heap.IsList _ _ _ => zL
       have zS := ys_strs (g := capL) hxs zC (fun k => eCps k)
       with_unfolding_all refine Con1.useS (c_nestedV2 hRow _ _ _ _ _ _ zS _ zH.ne) zB zF zX zT rfl zN ⟨zL, zCap.val _⟩ (by decide) (by decide) ?_
       intro uu hh ttk zF2 zN2
       clear zF zN
       k_steps
       refine ⟨?_⟩
       rename Fr _ _ _ _ => zF
       rename News _ _ _ _ => zN
       with_unfolding_all refine Con.useS (c_cappedV hRow _ _ _ _ _) zB zF zX zT rfl zN ⟨trivial⟩ (by decide) (by decide) ?_
       intro uu2 hh2 ttk2 zF2 zN2
       clear zF zN
       k_steps
       rename Fr _ _ _ _ => zF
       rename News _ _ _ _ => zN
       refine zEnd _ _ _ zF (fun p hp => zN p ?_) (by rfl) (by rfl)
       repeat (first | with_reducible exact hp | with_reducible refine List.mem_cons_of_mem _ ?_)
   · intro m₁ h6 tk6 zF7
     clear zF5 zN6 zL
     k_steps)
end Mine
end
theorem PySem.Challenge.cw_ik0032_01_holds : PySem.Challenge.rw_ik0032_01.Holds :=
  Mine.law0
