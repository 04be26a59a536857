import PyProof.Rows.All
import Wide.All
import OpenK.AllK
import Wide.FinOn
import PySem.Challenge.RW_ti0061_01
open PySem PySem.W PySem.Calls PyProof.Rows
set_option Elab.async false
set_option maxRecDepth 100000
set_option maxHeartbeats 8000000
set_option linter.all false
set_option linter.unusedVariables false
set_option linter.unusedSimpArgs false
set_option linter.deprecated false
set_option compiler.extract_closed false
namespace Mine
theorem parts {T U V R : Prop} (hl : T) (hw : U) (hc : V) (rest : R) : R := (fun _ _ _ => rest) hl hw hc
theorem hd (F : False) : PySem.Challenge.rw_ti0061_01.Holds := by
  refine holds_law F.elim fun said => ?_
  apply parts
  case rest => k_head
  case hl => exact F.elim
  case hw => exact F.elim
  case hc => exact F.elim

theorem endAt0 {t : Thread} : through t = (endAt 0 t).isSome := by
  obtain ⟨c, d, q, s⟩ := t
  cases s with
  | cons _ _ => rfl
  | nil =>
    cases c <;> try rfl
    rename_i f
    cases f <;> rfl
theorem seg0 {p : Program} {w : World} {n₀ : Nat} {ann : Option Value} (n : Nat) : ∀ (s : Shared) (t : Thread), (segRun treeTable p w n₀ ann 0 n s t).map (·.2.1) = topRun treeTable p w n₀ ann n s t := by
  induction n with
  | zero => exact fun _ _ => rfl
  | succ n ih =>
    intro s t
    unfold segRun topRun
    rw [endAt0]
    cases endAt 0 t with
    | some x => rfl
    | none =>
      cases stepOk n₀ ann t with
      | false => rfl
      | true =>
        cases step (denote treeTable) p w s t with
        | halt _ _ => rfl
        | go s' t' => exact ih _ _
noncomputable def toT (l : List Obj) : BT → Nat → Option (BT × Nat) :=
  List.rec (fun t n => some (t, n)) (fun o _ ih t n => bif ((t.ins n o).get n).isSome then ih (t.ins n o) (n + 1) else none) l
theorem toT_of (l : List Obj) : ∀ (t : BT) (n : Nat) (r : BT × Nat), toT l t n = some r → r.1.list r.2 = t.list n ++ l := by
  induction l with
  | nil => intro t n r h; cases h; exact (List.append_nil _).symm
  | cons o l ih =>
    intro t n r h
    change (bif ((t.ins n o).get n).isSome then toT l (t.ins n o) (n + 1) else none) = some r at h
    cases e : ((t.ins n o).get n).isSome with
    | false => rw [e] at h; cases h
    | true =>
      rw [e] at h
      have x : (t.ins n o).list (n + 1) = t.list n ++ [o] := (congrArg (fun h : Heap => h.objs.toList) (absHeap_ins (life := {}) e)).trans Array.toList_push
      exact (ih _ _ _ h).trans (by rw [x, List.append_assoc]; rfl)
noncomputable def lst (t : BT) (n : Nat) : Nat → List Obj := Nat.rec (fun _ => []) (fun _ ih i => Option.rec [] (fun v => v :: ih (i + 1)) (t.get i)) n
theorem lst_of {t : BT} (n : Nat) : ∀ i, (lst t n i).length = n → (List.range' i n).map (fun j => (t.get j).getD default) = lst t n i := by
  induction n with
  | zero => exact fun _ _ => rfl
  | succ n ih =>
    intro i h
    change (Option.rec [] (fun v => v :: lst t n (i + 1)) (t.get i) : List Obj).length = n + 1 at h
    show (t.get i).getD default :: (List.range' (i + 1) n).map _ = (Option.rec [] (fun v => v :: lst t n (i + 1)) (t.get i) : List Obj)
    cases q : t.get i with
    | none => rw [q] at h; cases h
    | some v => rw [q] at h; exact congrArg (v :: ·) (ih _ (Nat.succ.inj h))
noncomputable def ob (s : Shared) (i : Nat) : Obj := (s.heap.objs[i]?).getD default
noncomputable def begT (s : Shared) (r : BT × Nat) : SharedT := ⟨r.1, r.2, s.heap.life, s.gens, s.drawn, s.toks, s.os⟩
theorem beg_abs {s : Shared} {n : Nat} {r : BT × Nat} (z : s.heap.objs.size = n) (h : toT ((List.range n).map (ob s)) .nil 0 = some r) : (begT s r).abs = s := by
  have a : r.1.list r.2 = s.heap.objs.toList := (toT_of _ _ _ _ h).trans (by
    subst z
    apply List.ext_getElem (by simp [BT.list])
    intro i _ hi
    simp only [BT.list, List.range_zero, List.map_nil, List.nil_append, List.getElem_map, List.getElem_range, ob]
    rw [Array.getElem?_eq_getElem hi]; rfl)
  show Shared.mk ⟨(r.1.list r.2).toArray, _⟩ _ _ _ _ = s
  rw [a]
  rfl
noncomputable def outT (r : Flow × SharedT × Code × Pos) : List Obj × SharedT := (lst r.2.1.tree r.2.1.n 0, ⟨.nil, r.2.1.n, r.2.1.life, r.2.1.gens, r.2.1.drawn, r.2.1.toks, r.2.1.os⟩)
noncomputable def runS (p : Program) (N n : Nat) (w : World) (s : Shared) : Option (List Obj × SharedT) :=
  (toT ((List.range n).map (ob s)) .nil 0).bind fun r => (segRunT treeTable p w n (s.heap.nsMap mainGlobals "__annotations__") 0 N (begT s r) (topStub p)).map outT
noncomputable def endT (L : List Obj) (m : Nat) (d : Drawn) (k : Nat) (s : Shared) : List Obj × SharedT := (L, ⟨.nil, m, s.heap.life, #[], d, k, s.os⟩)
noncomputable def outS (r : List Obj × SharedT) : Shared := ⟨⟨r.1.toArray, r.2.life⟩, r.2.gens, r.2.drawn, r.2.toks, r.2.os⟩
theorem out_abs {x : Flow × SharedT × Code × Pos} (h : (outT x).1.length = (outT x).2.n) : x.2.1.abs = outS (outT x) := by
  have a := lst_of x.2.1.n 0 h
  rw [← List.range_eq_range'] at a
  exact congrArg (fun l : List Obj => Shared.mk ⟨l.toArray, _⟩ _ _ _ _) a
theorem run_of {p : Program} {N n : Nat} {w : World} {s : Shared} {r : List Obj × SharedT} (z : s.heap.objs.size = n) (len : r.1.length = r.2.n) (h : runS p N n w s = some r) :
    topRun treeTable p w s.heap.objs.size (s.heap.nsMap mainGlobals "__annotations__") N s (topStub p) = some (outS r) := by
  obtain ⟨t, h1, h2⟩ := Option.bind_eq_some_iff.mp h
  obtain ⟨x, h3, rfl⟩ := Option.map_eq_some_iff.mp h2
  have b := segRun_of (h3.trans (show some x = some (x.1, x.2.1, x.2.2) from rfl))
  rw [beg_abs z h1, ← z] at b
  rw [← seg0, b, ← out_abs len]
  rfl
noncomputable def chk (p : Program) (s₀ s₁ : Shared) : Bool := staticsOk (importedModules p.main.body) s₀.heap s₁.heap && namesBound p s₁.heap && gensDone s₁ && laidKept s₀.heap s₁.heap
theorem top_of {p : Program} {N : Nat} {w : World} {s₀ s₁ : Shared} (b : (s₀.heap.isNs mainGlobals && s₀.gens.size == 0) = true)
    (t : topRun treeTable p w s₀.heap.objs.size (s₀.heap.nsMap mainGlobals "__annotations__") N s₀ (topStub p) = some s₁) (c : chk p s₀ s₁ = true) : topFrom treeTable p w N s₀ = some s₁ :=
  by
  unfold topFrom
  rw [b]
  refine (congrArg (Option.bind · _) t).trans ?_
  show (match chk p s₀ s₁ with | true => some s₁ | false => none) = _
  rw [c]
noncomputable def oS (p : Program) (N : Nat) (w : World) : Shared := (fencedOpening treeTable p w N).getD {}
theorem opn_of {p : Program} {N : Nat} {w : World} {s : Shared} (h : (fencedOpening treeTable p w N).isSome = true) (e : oS p N w = s) : fencedOpening treeTable p w N = some s := by
  subst e
  obtain ⟨s, h⟩ := Option.isSome_iff_exists.mp h
  unfold oS
  rw [h]
  rfl
theorem left_S {p q : Program} {loose : List Str} {Xt : Shared → Bool} {α : Type} {Yf : Shared → α} {Ya : World → α} {N n m k : Nat} {L : Shared → Params → List Obj} {d : Drawn}
    (len : ∀ s P, (L s P).length = m)
    (run : ∀ w, ((fencedOpening treeTable p w N).isSome && Nat.beq (oS p N w).heap.objs.size n && ((oS p N w).heap.isNs mainGlobals && (oS p N w).gens.size == 0), runS p N n w (oS p N w)) = (true, some (endT (L (oS p N w) w.params) m d k (oS p N w))))
    (looks : ∀ w, (chk p (oS p N w) (outS (endT (L (oS p N w) w.params) m d k (oS p N w))), openSeen q loose (importedModules p.main.body) Xt true (outS (endT (L (oS p N w) w.params) m d k (oS p N w))), Yf (outS (endT (L (oS p N w) w.params) m d k (oS p N w)))) = (true, openGood q loose, Ya w)) :
    LeftO p q loose Xt Yf Ya N := fun w => by
  have a := run w
  have l := looks w
  revert a l
  generalize e : oS p N w = s
  intro a l
  have o := Bool.and_eq_true_iff.mp (congrArg Prod.fst a)
  have o1 := Bool.and_eq_true_iff.mp o.1
  have z := top_of o.2 (run_of (Nat.eq_of_beq_eq_true o1.2) (len s _) (congrArg Prod.snd a)) (congrArg Prod.fst l)
  have y : (fencedOpening treeTable p w N).bind (topFrom treeTable p w N) = some _ := (congrArg (Option.bind · _) (opn_of o1.1 e)).trans z
  exact (congrArg (Option.map _) y).trans (congrArg some (congrArg Prod.snd l))

noncomputable def hdO (h : List (Nat × Obj)) : Obj := match h with | x :: _ => x.2 | [] => default
noncomputable def zO (c : Value) (v : List Value) : Obj := ⟨c, none, .fields ⟨v⟩, #[]⟩
noncomputable def sO (c : String) (v : List Value) : Obj := ⟨.type c, none, .seq ⟨v⟩ 0, #[]⟩
noncomputable def cO (o : Obj) : Obj := match o with
  | ⟨_, _, .func f, _⟩ => ⟨.none, none, .func ⟨f.name, f.qualname, f.params, f.body, f.scope, 0, [], .none, .none, .none, .none, none, .none, .none, 0⟩, #[]⟩
  | o => o
noncomputable def nsO (o : Obj) (q : DictEntry) : Obj := match o with
  | ⟨c, d, .dict ⟨e :: l⟩ _, s⟩ => ⟨c, d, .dict ⟨e :: q :: l.take 19⟩ 21, s⟩
  | o => o
noncomputable def iV (n : Nat) : Value := .int (.ofNat n) 0
noncomputable def lnO (c : Nat) (l : List (Nat × Nat)) : Obj := zO .none (l.flatMap fun p => [iV p.1, iV c, .ref p.2])
noncomputable def ntO (l : List Nat) (k : Nat) : Obj := sO "list" (List.rec (fun _ => []) (fun n _ ih k => .int (.ofNat n) k :: ih (k + 1)) l k)
noncomputable def cdO (s : String) (k l e t : Nat) : Obj := zO (.type "code") [.str (Str.ofString s) k, .str (Str.ofString s) (k + 1), .str (Str.ofString "/claim/cut.py") (k + 2), iV l, iV 0, iV 0, iV 0, iV 0, .ref e, .bool false, iV 276, .ref (e + 1), .none, .none, .none, .none, iV t, iV l, .str (Str.ofString "/claim/cut.py") (t + 1)]
noncomputable def frO (a d : Nat) (s : String) (k : Nat) : Obj := ⟨.type "frame", none, .plain, #[some (.ref a), some (.ref 3), some (.ref d), none, some (.str (Str.ofString s) k), none, some (.ref 0)]⟩
noncomputable def dO : Obj := ⟨.type "dict", none, .dict #[] 0, #[]⟩
noncomputable def bld (n : Nat) : Nat → List (Nat × Obj) → List Obj → List Obj :=
  Nat.rec (fun _ _ _ => []) (fun _ ih k h l =>
    bif Nat.beq (k % 4) 0 then hdO h :: ih (k / 4) h.tail l else
    bif Nat.beq (k % 4) 1 then zO .none [] :: ih (k / 4) h l else
    bif Nat.beq (k % 4) 2 then cO (hdO h.tail) :: ih (k / 4) h l else
    l.headD default :: ih (k / 4) h l.tail) n
noncomputable def litL (P : Params) : List Obj := [sO "tuple" [],
  lnO 0 [(2, 37), (6, 44), (8, 51), (10, 58), (12, 65), (18, 72), (20, 79), (22, 86), (24, 94), (53, 101), (59, 108), (100, 125), (171, 252), (175, 257), (185, 264), (193, 271), (206, 276), (216, 283), (229, 288), (231, 295), (242, 300), (251, 305), (259, 310)],
  cdO "<module>" 277 1 28 280,
  frO 30 3 "__main__" 164,
  ntO [14, 10, 4, 1, 1, 22, 0, 31, 16, 127, 0, 13, 7, 22, 0, 31, 16, 127, 0, 1] 402, dO, sO "tuple" [.none],
  ntO [14, 14, 4, 1, 1, 9, 4294966783, 0, 0, 2147483648, 0, 0, 0, 0, 0, 13, 11, 9, 4294966783, 0, 0, 2147483648, 0, 0, 0, 0, 0, 1] 428, dO, sO "tuple" [.none],
  sO "tuple" [], zO (.type "builtin_function_or_method") [.builtin "type.__prepare__", .type "type"],
  nsO (((hd.heap_1 P).lookup 241).getD default) ⟨PyData.keyHash P (Str.ofString "__qualname__"), .str (Str.ofString "__qualname__") 468, .str (Str.ofString "Headers") 467⟩,
  sO "tuple" [],
  lnO 4 [(102, 133), (112, 140), (120, 147), (123, 154), (127, 159), (131, 166), (134, 173), (137, 180), (140, 188), (147, 193), (150, 198), (153, 205), (156, 212), (159, 217), (162, 224), (165, 231), (168, 238)],
  cdO "Headers" 461 100 123 464,
  frO 125 122 "cpy313.wsgiref.headers" 397,
  zO (.type "super") [.ref 242, .ref 242, .ref 242],
  zO (.type "builtin_function_or_method") [.builtin "object.__init_subclass__", .ref 242]]
noncomputable def endL (s : Shared) (P : Params) : List Obj :=
  ob s 0 :: ob s 1 :: hdO (hd.heap_1 P) :: hdO (hd.heap_1 P).tail :: ((List.range' 4 24).map (ob s) ++
    bld 284 33998863835537418114024936136012787343752050506382673070946352004084195066551443270254931424200619216882590341538248930510953705368925403121163330022699072381219005138175 (hd.heap_1 P).tail.tail (litL P))

theorem lenO (s : Shared) (P : Params) : (endL s P).length = 312 := by kernel_rfl
theorem runO (w : World) : ((fencedOpening treeTable PySem.Challenge.rw_ti0061_01.row.prog w 3354).isSome && Nat.beq (oS PySem.Challenge.rw_ti0061_01.row.prog 3354 w).heap.objs.size 28 && ((oS PySem.Challenge.rw_ti0061_01.row.prog 3354 w).heap.isNs mainGlobals && (oS PySem.Challenge.rw_ti0061_01.row.prog 3354 w).gens.size == 0), runS PySem.Challenge.rw_ti0061_01.row.prog 3354 28 w (oS PySem.Challenge.rw_ti0061_01.row.prog 3354 w)) = (true, some (endT (endL (oS PySem.Challenge.rw_ti0061_01.row.prog 3354 w) w.params) 312 {} 717 (oS PySem.Challenge.rw_ti0061_01.row.prog 3354 w))) := by kernel_rfl

theorem objs_are (P : Params) : [2, 3, 32, 34, 35, 37, 38, 39, 41, 42, 44, 45, 46, 48, 49, 51, 52, 53, 55, 56, 58, 59, 60, 62, 63, 65, 66, 67, 69, 70, 72, 73, 74, 76, 77, 79, 80, 81, 83, 84, 86, 87, 88, 89, 91, 92, 94, 95, 96, 98, 99, 101, 102, 103, 105, 106, 108, 109, 113, 114, 118, 119, 127, 128, 130, 131, 133, 134, 135, 137, 138, 140, 141, 142, 144, 145, 147, 148, 149, 151, 152, 154, 155, 156, 159, 160, 161, 163, 164, 166, 167, 168, 170, 171, 173, 174, 175, 177, 178, 180, 181, 182, 183, 185, 186, 188, 189, 190, 193, 194, 195, 198, 199, 200, 202, 203, 205, 206, 207, 209, 210, 212, 213, 214, 217, 218, 219, 221, 222, 224, 225, 226, 228, 229, 231, 232, 233, 235, 236, 238, 239, 240, 241, 242, 243, 244, 247, 249, 250, 252, 253, 254, 257, 258, 259, 261, 262, 264, 265, 266, 268, 269, 271, 272, 273, 276, 277, 278, 280, 281, 283, 284, 285, 288, 289, 290, 292, 293, 295, 296, 297, 300, 301, 302, 305, 306, 307, 310, 311] = (hd.heap_1 P).map (·.1) := by kernel_rfl
theorem lookO (w : World) : (chk PySem.Challenge.rw_ti0061_01.row.prog (oS PySem.Challenge.rw_ti0061_01.row.prog 3354 w) (outS (endT (endL (oS PySem.Challenge.rw_ti0061_01.row.prog 3354 w) w.params) 312 {} 717 (oS PySem.Challenge.rw_ti0061_01.row.prog 3354 w))), openSeen hd.view_1 [Str.ofString "length_hint", Str.ofString "_name_disallowed_re", Str.ofString "_value_disallowed_re"] (importedModules PySem.Challenge.rw_ti0061_01.row.prog.main.body) (fun s => xlAt hd.view_1 [] s && recOk PySem.Challenge.rw_ti0061_01.row.records s) true (outS (endT (endL (oS PySem.Challenge.rw_ti0061_01.row.prog 3354 w) w.params) 312 {} 717 (oS PySem.Challenge.rw_ti0061_01.row.prog 3354 w))),
    (kHook hd.heap_1 _ objs_are).obs (outS (endT (endL (oS PySem.Challenge.rw_ti0061_01.row.prog 3354 w) w.params) 312 {} 717 (oS PySem.Challenge.rw_ti0061_01.row.prog 3354 w)))) = (true, openGood hd.view_1 [Str.ofString "length_hint", Str.ofString "_name_disallowed_re", Str.ofString "_value_disallowed_re"], (kHook hd.heap_1 _ objs_are).val w) := by kernel_rfl

theorem hdL : LeftO PySem.Challenge.rw_ti0061_01.row.prog hd.view_1 [Str.ofString "length_hint", Str.ofString "_name_disallowed_re", Str.ofString "_value_disallowed_re"] (fun s => xlAt hd.view_1 [] s && recOk PySem.Challenge.rw_ti0061_01.row.records s)
    (kHook hd.heap_1 _ objs_are).obs (kHook hd.heap_1 _ objs_are).val 3354 := left_S lenO runO lookO

-- the looks at the law's text, each a check of its own (in one check: 36 s, 3.2 GB)
theorem law_said : OpenLaw.wellSaid PySem.Challenge.rw_ti0061_01 = true := by
  unfold OpenLaw.wellSaid OpenRow.wellSaid OpenRow.partSaid looksOpen
  repeat' (with_reducible refine look_both ?_ ?_)
  all_goals decide +kernel

def decStep : List (Lean.Name × Array Lean.Syntax) → String → List (Lean.Name × Array Lean.Syntax)
  | (k, as) :: rest, t =>
    let u := (t.drop 1).toString
    match t.front with
    | '(' => ((match u.front with | '.' => "Lean.Parser.Tactic" ++ u | ',' => "Lean.Parser.Term." ++ (u.drop 1).toString | _ => u).toName, #[]) :: (k, as) :: rest
    | ')' => match rest with
      | (k2, bs) :: r2 => (k2, bs.push (.node .none k as)) :: r2
      | [] => []
    | '$' => (k, as.push (Lean.mkIdent u.toName)) :: rest
    | _ => (k, as.push (Lean.mkAtom u)) :: rest
  | [], _ => []
def dec (s : String) : Lean.Syntax := match (s.splitOn "¦").foldl decStep [(`null, #[])] with
  | [(_, as)] => as.getD 0 .missing
  | _ => .missing
inductive Ex2 {A0 A1 : Type} (P : A0 → A1 → Prop) : Prop | mk (x0 : A0) (x1 : A1) (h : P x0 x1) : Ex2 P
inductive Ex3 {A0 A1 A2 : Type} (P : A0 → A1 → A2 → Prop) : Prop | mk (x0 : A0) (x1 : A1) (x2 : A2) (h : P x0 x1 x2) : Ex3 P
inductive Ex4 {A0 A1 A2 A3 : Type} (P : A0 → A1 → A2 → A3 → Prop) : Prop | mk (x0 : A0) (x1 : A1) (x2 : A2) (x3 : A3) (h : P x0 x1 x2 x3) : Ex4 P
inductive Ex5 {A0 A1 A2 A3 A4 : Type} (P : A0 → A1 → A2 → A3 → A4 → Prop) : Prop | mk (x0 : A0) (x1 : A1) (x2 : A2) (x3 : A3) (x4 : A4) (h : P x0 x1 x2 x3 x4) : Ex5 P
inductive Ex6 {A0 A1 A2 A3 A4 A5 : Type} (P : A0 → A1 → A2 → A3 → A4 → A5 → Prop) : Prop | mk (x0 : A0) (x1 : A1) (x2 : A2) (x3 : A3) (x4 : A4) (x5 : A5) (h : P x0 x1 x2 x3 x4 x5) : Ex6 P
inductive Ex7 {A0 A1 A2 A3 A4 A5 A6 : Type} (P : A0 → A1 → A2 → A3 → A4 → A5 → A6 → Prop) : Prop | mk (x0 : A0) (x1 : A1) (x2 : A2) (x3 : A3) (x4 : A4) (x5 : A5) (x6 : A6) (h : P x0 x1 x2 x3 x4 x5 x6) : Ex7 P
inductive Ex9 {A0 A1 A2 A3 A4 A5 A6 A7 A8 : Type} (P : A0 → A1 → A2 → A3 → A4 → A5 → A6 → A7 → A8 → Prop) : Prop | mk (x0 : A0) (x1 : A1) (x2 : A2) (x3 : A3) (x4 : A4) (x5 : A5) (x6 : A6) (x7 : A7) (x8 : A8) (h : P x0 x1 x2 x3 x4 x5 x6 x7 x8) : Ex9 P
inductive Ex10 {A0 A1 A2 A3 A4 A5 A6 A7 A8 A9 : Type} (P : A0 → A1 → A2 → A3 → A4 → A5 → A6 → A7 → A8 → A9 → Prop) : Prop | mk (x0 : A0) (x1 : A1) (x2 : A2) (x3 : A3) (x4 : A4) (x5 : A5) (x6 : A6) (x7 : A7) (x8 : A8) (x9 : A9) (h : P x0 x1 x2 x3 x4 x5 x6 x7 x8 x9) : Ex10 P
inductive Cj2 (A0 A1 : Prop) : Prop | mk (x0 : A0) (x1 : A1) : Cj2 A0 A1
inductive Cj3 (A0 A1 A2 : Prop) : Prop | mk (x0 : A0) (x1 : A1) (x2 : A2) : Cj3 A0 A1 A2
inductive Cj4 (A0 A1 A2 A3 : Prop) : Prop | mk (x0 : A0) (x1 : A1) (x2 : A2) (x3 : A3) : Cj4 A0 A1 A2 A3
inductive Cj5 (A0 A1 A2 A3 A4 : Prop) : Prop | mk (x0 : A0) (x1 : A1) (x2 : A2) (x3 : A3) (x4 : A4) : Cj5 A0 A1 A2 A3 A4
inductive Cj6 (A0 A1 A2 A3 A4 A5 : Prop) : Prop | mk (x0 : A0) (x1 : A1) (x2 : A2) (x3 : A3) (x4 : A4) (x5 : A5) : Cj6 A0 A1 A2 A3 A4 A5
inductive Cj7 (A0 A1 A2 A3 A4 A5 A6 : Prop) : Prop | mk (x0 : A0) (x1 : A1) (x2 : A2) (x3 : A3) (x4 : A4) (x5 : A5) (x6 : A6) : Cj7 A0 A1 A2 A3 A4 A5 A6
inductive Cj8 (A0 A1 A2 A3 A4 A5 A6 A7 : Prop) : Prop | mk (x0 : A0) (x1 : A1) (x2 : A2) (x3 : A3) (x4 : A4) (x5 : A5) (x6 : A6) (x7 : A7) : Cj8 A0 A1 A2 A3 A4 A5 A6 A7
inductive Cj10 (A0 A1 A2 A3 A4 A5 A6 A7 A8 A9 : Prop) : Prop | mk (x0 : A0) (x1 : A1) (x2 : A2) (x3 : A3) (x4 : A4) (x5 : A5) (x6 : A6) (x7 : A7) (x8 : A8) (x9 : A9) : Cj10 A0 A1 A2 A3 A4 A5 A6 A7 A8 A9
inductive Cj12 (A0 A1 A2 A3 A4 A5 A6 A7 A8 A9 A10 A11 : Prop) : Prop | mk (x0 : A0) (x1 : A1) (x2 : A2) (x3 : A3) (x4 : A4) (x5 : A5) (x6 : A6) (x7 : A7) (x8 : A8) (x9 : A9) (x10 : A10) (x11 : A11) : Cj12 A0 A1 A2 A3 A4 A5 A6 A7 A8 A9 A10 A11
theorem mem_at {α : Type} {l : List α} (i : Nat) {a : α} (h : l[i]? = some a) : a ∈ l := List.mem_of_getElem? h
theorem mem_drop {α : Type} {l : List α} (n : Nat) {a : α} (h : a ∈ l.drop n) : a ∈ l := List.mem_of_mem_drop h
theorem mem_eq {α : Type} {P : α → Prop} {l r : List α} (e : l = r) (h : ∀ p, p ∈ l → P p) : ∀ p, p ∈ r → P p := e ▸ h
theorem fa_cons {α : Type} {P : α → Prop} {a : α} {l : List α} (h : P a) (k : ∀ p, p ∈ l → P p) : ∀ p, p ∈ a :: l → P p := fun p hp => (List.mem_cons.mp hp).elim (fun e => e ▸ h) (k p)
theorem fa_one {α : Type} {P : α → Prop} {a : α} (h : P a) : ∀ p, p ∈ [a] → P p := fun p hp => List.mem_singleton.mp hp ▸ h
theorem absG {P : Prop} (h : ∀ G : Prop, (P → G) → G) : P := h P id
theorem gen {α : Type} (x : α) {R : Prop} (k : ∀ y, y = x → R) : R := k x rfl


def Ext (ms : List Addr) (h h' : Heap) : Prop := ∀ b o, h.get? b = some o → b ∉ ms → h'.get? b = some o

theorem Ext.refl (ms : List Addr) (h : Heap) : Ext ms h h := fun _ _ e _ => e
theorem Ext.trans {ms : List Addr} {h h' h'' : Heap} (a : Ext ms h h') (b : Ext ms h' h'') : Ext ms h h'' := fun x o e n => b x o (a x o e n) n
theorem Ext.sub {ms ms' : List Addr} {h h' : Heap} (a : Ext ms h h') (hs : ∀ x ∈ ms, x ∈ ms') : Ext ms' h h' := fun x o e n => a x o e fun q => n (hs x q)

theorem ext_of {g s₁ h' : Heap} {L : Addr} {m : Str → Option Value} {ms : List (Addr × Obj)} (G : GSub s₁ g (ms.map (·.1))) (F : Fr g L h' m) : Ext (ms.map (·.1)) s₁ h' :=
  fun b o e n => F.keep b o (G b o e n)

section
variable {prog : Program} {w : World} {A : Around} {s : Shared} {K : Frag} {p : Program} {loose : List Str} {mean : ExcName → Option Value} {mg mb : Str → Option Value} {ht : Heap}
  {name qual : Str} {params : Arguments} {body : List Stmt} {scope : Scope} {dV kV doc pm cdv ct oc : Value} {an od : Option Addr} {osl : Array (Option Value)} {f : Addr} {pos : List Value} {kw : List (Str × Value)} {binds : List (Str × Value)}
  {Q E : Value → Shared → Prop}

theorem ground {ms : List (Addr × Obj)} (ek : ht.StaysIn s.heap) (hms : ∀ q ∈ ms, s.heap.get? q.1 = some q.2 ∧ ht.get? q.1 = none) : ht.StaysIn (hideAll s.heap (ms.map (·.1))) :=
  fun b o e => hideAll_get _ (ek b o e) fun q => by
    obtain ⟨x, hx, rfl⟩ := List.mem_map.mp q
    rw [(hms x hx).2] at e; cases e

theorem callM (ms : List (Addr × Obj)) (X : K.In ht) (T : Top p loose mean mg mb ht) (ek : ht.StaysIn s.heap) (hms : ∀ q ∈ ms, s.heap.get? q.1 = some q.2 ∧ ht.get? q.1 = none)
    (ho : K.lookup f = some ⟨oc, od, .func (fnOf name qual params body scope dV kV doc pm an cdv ct), osl⟩) (hcd : codeIn K cdv qual = true) (hroom : A.depth < recursionLimit)
    (hbind : BindsTo s (fnOf name qual params body scope dV kV doc pm an cdv ct) ⟨pos, kw⟩ binds) (hloc : ∀ y ∈ binds, scope.names.lookup y.1 = some .local)
    (h : ∀ g L' h₁, Fr g L' h₁ (fun y => binds.reverse.lookup y) → News g L' h₁ ms → K.In g → Top p loose mean mg mb g → GSub s.heap g (ms.map (·.1)) → ht.StaysIn g → s.heap.objs.size = L' →
      wpAny (model prog w) (A.deeper (envOf qual scope L' f cdv)) (execs body (envOf qual scope L' f cdv))
        (fun fl s' => Q (match fl with | .ret v => v | _ => .none) s') (fun _ _ => False) { s with heap := h₁, toks := s.toks + binds.length })
    (hcell : ∀ x ∈ scope.names, x.2 ≠ .cell) (hco : scope.isCoroutine = false := by rfl) (hgen : scope.isGenerator = false := by rfl) (hk : scope.kind = .function := by rfl) :
    wpAny (model prog w) A (call (.ref f) pos kw) Q E s := by
  refine wpAny_call (codeAny_call_def (fd := fnOf name qual params body scope dV kV doc pm an cdv ct) (body := body) (binds := binds) hroom (ek _ _ (X _ _ ho)) rfl (T.nolimit.keeps ek) (codeRec_of (X.keeps ek) hcd) rfl hbind hcell hloc (fun h₁ hns hk₁ => ?_) hco hgen hk)
  have st := ground ek hms
  have Xg := Frag.In.keeps X st
  have Tg := Top.keeps T st
  refine wpAny_mono (h (hideAll s.heap (ms.map (·.1))) s.heap.objs.size h₁ ⟨hns, fun b o e => hk₁ b o (of_hideAll _ e), Nat.le_of_eq (hideAll_size _ _)⟩
    (fun q hq => ⟨hk₁ _ _ (hms q hq).1, Nat.ne_of_lt (Heap.lt_size (hms q hq).1), hideAll_none _ (List.mem_map_of_mem hq)⟩) Xg Tg (fun b o e n => hideAll_get _ e n) st rfl) (fun fl s' hl => hl) fun _ _ x => x.elim

theorem callMC (ms : List (Addr × Obj)) (X : K.In ht) (T : Top p loose mean mg mb ht) (ek : ht.StaysIn s.heap) (hms : ∀ q ∈ ms, s.heap.get? q.1 = some q.2 ∧ ht.get? q.1 = none)
    (ho : K.lookup f = some ⟨oc, od, .func (fnOf name qual params body scope dV kV doc pm an cdv ct), osl⟩) (hcd : codeIn K cdv qual = true) (hroom : A.depth < recursionLimit)
    (hbind : BindsTo s (fnOf name qual params body scope dV kV doc pm an cdv ct) ⟨pos, kw⟩ binds)
    (hkind : (binds.all fun y => scope.names.lookup y.1 == some .local || scope.names.lookup y.1 == some .cell) = true)
    (hnd : ((cellsFrom 0 scope.names []).map (·.1)).Nodup)
    (h : ∀ g L' h₁ tk cells, Fr g L' h₁ (bindL (envOfC qual scope L' f cdv).kindOf binds fun _ => none) → News g L' h₁ (cells ++ ms) →
      CellsAre (bindC (envOfC qual scope L' f cdv).kindOf binds fun _ => none) (cellsFrom (L' + 1) scope.names []) cells → K.In g → Top p loose mean mg mb g → GSub s.heap g (ms.map (·.1)) → ht.StaysIn g → s.heap.objs.size = L' → (∀ q ∈ ms, q.1 < L') →
      wpAny (model prog w) (A.deeper (envOfC qual scope L' f cdv)) (execs body (envOfC qual scope L' f cdv))
        (fun fl s' => Q (match fl with | .ret v => v | _ => .none) s') (fun _ _ => False) { s with heap := h₁, toks := tk })
    (hco : scope.isCoroutine = false := by rfl) (hgen : scope.isGenerator = false := by rfl) (hk : scope.kind = .function := by rfl) :
    wpAny (model prog w) A (call (.ref f) pos kw) Q E s := by
  refine wpAny_call (codeAny_call_function hroom (ek _ _ (X _ _ ho)) rfl hco hgen rfl (codeRec_of (X.keeps ek) hcd) (hbind _ _ _ _ ?_))
  refine wpAny_newFunctionEnv_cells hk (kindsX hkind _) fun env' he s' x => ?_
  subst he
  refine ⟨((T.nolimit.keeps ek)).keeps x.toInCall.keep, codeAny_func ?_⟩
  obtain ⟨h₁, tk, rfl, _⟩ := x.done
  have hk₁ := x.toInCall.keep
  have st := ground ek hms
  have Xg := Frag.In.keeps X st
  have Tg := Top.keeps T st
  obtain ⟨cells, NC, Y⟩ := Cl.news (h₀ := s.heap) (Nat.le_refl _) fun n c hm => ⟨x.cell n c (lookup_of_mem_nodup (cellsFrom_names scope.names 0 (s.heap.objs.size + 1) [] [] rfl ▸ hnd) hm), x.above n c hm⟩
  refine wpAny_mono (h (hideAll s.heap (ms.map (·.1))) s.heap.objs.size h₁ tk cells ⟨x.toInCall.ns, fun b o e => hk₁ b o (of_hideAll _ e), Nat.le_of_eq (hideAll_size _ _)⟩ (fun q hq => ?_) Y Xg Tg (fun b o e n => hideAll_get _ e n) st rfl
    (fun q hq => Heap.lt_size (hms q hq).1)) (fun fl s' hl => hl) fun _ _ x => x.elim
  rcases List.mem_append.mp hq with hq | hq
  · refine ⟨(NC q hq).1, (NC q hq).2.1, ?_⟩
    cases e : (hideAll s.heap (ms.map (·.1))).get? q.1 with
    | none => rfl
    | some o => have := of_hideAll _ e; rw [(NC q hq).2.2] at this; cases this
  · exact ⟨hk₁ _ _ (hms q hq).1, Nat.ne_of_lt (Heap.lt_size (hms q hq).1), hideAll_none _ (List.mem_map_of_mem hq)⟩
end

noncomputable abbrev PR := PySem.Challenge.rw_ti0061_01.prog
theorem om1 {n k m : Nat} (h : n + k < m) : n < m := Nat.lt_of_le_of_lt (Nat.le_add_right _ _) h
theorem om2 {n k m : Nat} (h : n < k) (e : Nat.ble k m = true) : n < m := Nat.lt_of_lt_of_le h (Nat.le_of_ble_eq_true e)
theorem om3 {n k m : Nat} (h : n < k) (e : Nat.ble k m = true) : n ≤ m := Nat.le_of_lt (om2 h e)
theorem om4 {a b m : Nat} (h : 0 < a ∧ a < 20 ∧ 0 < b ∧ b < 20 ∧ a ≤ b) (e : Nat.ble 20 m = true) : a < m := om2 h.2.1 e
theorem om5 {a b m : Nat} (h : 0 < a ∧ a < 20 ∧ 0 < b ∧ b < 20 ∧ a ≤ b) (e : Nat.ble 20 m = true) : b < m := om2 h.2.2.2.1 e
theorem om6 {n k m p : Nat} (h : n < k) (e : Nat.ble k m = true) : n - p < m := Nat.lt_of_le_of_lt (Nat.sub_le _ _) (om2 h e)
theorem om7 {i n m : Nat} (h : i < n) (e : m = n) : i < m := e ▸ h
theorem om8 {n k m : Nat} (h : n = k) (e : Nat.ble (k + 1) m = true) : n < m := h ▸ Nat.le_of_ble_eq_true e
theorem om9 {n k m : Nat} (h : n ≤ k) (e : Nat.ble (k + 1) m = true) : n < m := Nat.lt_of_le_of_lt h (Nat.le_of_ble_eq_true e)
theorem om10 {n k m x : Nat} (h : n < k) (e : Nat.ble k m = true) : min x n < m := Nat.lt_of_le_of_lt (Nat.min_le_right _ _) (om2 h e)
theorem pjr {A B C : Prop} (f : B → C) (h : A ∧ B) : C := f h.2
theorem ne_gt {a b x : Nat} {P : Prop} (h : x < a ∧ P) (f : x < a ∧ P → b < a) : a ≠ b := Nat.ne_of_gt (f h)
theorem ne_lt {a b x : Nat} {P : Prop} (h : x < b ∧ P) (f : x < b ∧ P → a < b) : a ≠ b := Nat.ne_of_lt (f h)
set_option hygiene false
theorem wMD2 : True := by (k_with "pj" => with_reducible first | exact And.left | exact id | (refine pjr ?_; k_extra "pj")); exact True.intro
theorem wMD1 : True := by (k_with "own omega" => first | (with_reducible assumption) | exact Nat.zero_le _ | decide | ((with_reducible refine' ne_gt ?oa9 ?ob9); (case oa9 => with_reducible assumption); (case ob9 => k_extra "pj")) | ((with_reducible refine' ne_lt ?oa9 ?ob9); (case oa9 => with_reducible assumption); (case ob9 => k_extra "pj")) | ((with_reducible refine' om1 ?oa9); (case oa9 => with_reducible assumption)) | ((with_reducible refine' om2 ?oa9 ?ob9); (case oa9 => with_reducible assumption); (case ob9 => exact rfl)) | ((with_reducible refine' om3 ?oa9 ?ob9); (case oa9 => with_reducible assumption); (case ob9 => exact rfl)) | ((with_reducible refine' om4 ?oa9 ?ob9); (case oa9 => with_reducible assumption); (case ob9 => exact rfl)) | ((with_reducible refine' om5 ?oa9 ?ob9); (case oa9 => with_reducible assumption); (case ob9 => exact rfl)) | ((with_reducible refine' om6 ?oa9 ?ob9); (case oa9 => with_reducible assumption); (case ob9 => exact rfl)) | ((with_reducible refine' om7 ?oa9 ?ob9); (case oa9 => with_reducible assumption); (case ob9 => with_reducible assumption)) | ((with_reducible refine' om8 ?oa9 ?ob9); (case oa9 => with_reducible assumption); (case ob9 => exact rfl)) | ((with_reducible refine' om9 ?oa9 ?ob9); (case oa9 => with_reducible assumption); (case ob9 => exact rfl)) | ((with_reducible refine' om10 ?oa9 ?ob9); (case oa9 => with_reducible assumption); (case ob9 => exact rfl)) | fail); exact True.intro
local macro_rules
  | `(tactic| omega) => return dec "(PySem.W.tacticK_extra_¦'k_extra¦(str¦'\"own omega\"¦)¦)"


-- the pattern's method search
theorem slot_search : Slot "re.Pattern" "search" "re.Pattern.search" :=
  .of (owner := "re.Pattern") (n := "search") (by rw [typeLookup_type, builtinLookup_eq_fast]; kernel_rfl) (by decide +kernel) (by decide +kernel) (by decide +kernel)
    (by first | exact .inl (by decide +kernel) | exact .inr (by decide +kernel)) (by rw [isSubtype_type]; kernel_rfl)
theorem type_search : typeOf (.builtin "re.Pattern.search") = pure (.type "method_descriptor") := by show builtinType _ = _; rw [builtinType_eq_fast]; kernel_rfl
theorem entry_search : entryFor table "re.Pattern.search" = some Builtin.«re.Pattern.search» := entryFor_of_tree (by kernel_rfl)
theorem plainAttrs_pattern : PlainAttrs "re.Pattern" :=
  ⟨⟨"object.__getattribute__", by rw [typeLookup_type, builtinLookup_eq_fast]; kernel_rfl, by decide +kernel⟩, by rw [typeLookup_type, builtinLookup_eq_fast]; kernel_rfl⟩
theorem owner_pattern : Manifest.owners.lookup (String.ofList ['n', 'r', 'e', 't', 't', 'a', 'P', '.', 'e', 'r'].reverse) = some Manifest.sig_re_Pattern := by kernel_rfl
theorem args_search (a b : Value) : argsOk "re.Pattern.search" ⟨[a, b], []⟩ := by
  unfold argsOk; rw [signature?_of (id := "re.Pattern.search") (n := ['h', 'c', 'r', 'a', 'e', 's']) (o := ['n', 'r', 'e', 't', 't', 'a', 'P', '.', 'e', 'r']) (by kernel_rfl) owner_pattern]; kernel_rfl

noncomputable def Misses (a : Addr) (x : Str) : Prop := ∀ (w : World) (t : Tok), peek (Mine.hd.heap_1 w.params) ⟨PySem.Challenge.rw_ti0061_01.prog, w.params⟩ (Builtin.«re.Pattern.search» ⟨[.ref a, .str x t], []⟩) = some (.done (.ret .none))

theorem pat_type {P : Params} {h : Heap} (X : (Mine.hd.heap_1 P).In h) {a : Addr} {o : Obj} (e : (Mine.hd.heap_1 P).lookup a = some o) (hc : o.cls = .type "re.Pattern") (s : Shared) (hs : s.heap = h) : s.TypeIs (.ref a) "re.Pattern" := by
  subst hs
  exact ⟨o, X _ _ e, hc⟩

theorem c_search {w : World} {A : Around} {s : Shared} {Q E : Value → Shared → Prop} {a : Addr} {x : Str} {t : Tok} (X : (Mine.hd.heap_1 w.params).In s.heap) {o : Obj} (e : (Mine.hd.heap_1 w.params).lookup a = some o) (hc : o.cls = .type "re.Pattern") (hm : Misses a x) (h : Q .none s) :
    wpAny (model PySem.Challenge.rw_ti0061_01.prog w) A (call (.builtin "re.Pattern.search") [.ref a, .str x t]) Q E s :=
  wpAny_call (codeAny_call_builtin slot_search.plain entry_search (slot_search.check _ _ _ _ _ _ _ _ (pat_type X e hc s rfl) (args_search _ _)
    ((Looks.of_peek (M := model PySem.Challenge.rw_ti0061_01.prog w) X (hm w t)).here (by exact h))))
theorem gm_search {w : World} {A : Around} {s : Shared} {Q : Value × List Value → Shared → Prop} {E : Value → Shared → Prop} {a : Addr} {pl : Sem Bool} (X : (Mine.hd.heap_1 w.params).In s.heap) {o : Obj} (e : (Mine.hd.heap_1 w.params).lookup a = some o) (hc : o.cls = .type "re.Pattern") (hd : o.dict = none) (h : Q (.builtin "re.Pattern.search", [.ref a]) s) :
    wpAny (model PySem.Challenge.rw_ti0061_01.prog w) A (getMethod (.ref a) "search" pl) Q E s :=
  getMethod_builtin (pat_type X e hc s rfl) plainAttrs_pattern slot_search type_search (fun b hb => by cases hb; exact ⟨o, X _ _ e, hd⟩) h

noncomputable def low (r : Nat) : Str := ⟨[#[97, 98], #[98, 97], #[97], #[98, 98]].getD r #[]⟩
noncomputable def upp (r : Nat) : Str := ⟨[#[65, 66], #[66, 65], #[65], #[66, 66]].getD r #[]⟩
noncomputable def fig (g : Nat) : Str := ⟨#[48 + g]⟩
theorem miss_low : ∀ r, r < 4 → Misses 114 (low r)
  | 0, _ => fun _ _ => by kernel_rfl
  | 1, _ => fun _ _ => by kernel_rfl
  | 2, _ => fun _ _ => by kernel_rfl
  | 3, _ => fun _ _ => by kernel_rfl
  | n + 4, h => absurd h (by omega)
theorem miss_upp : ∀ r, r < 4 → Misses 114 (upp r)
  | 0, _ => fun _ _ => by kernel_rfl
  | 1, _ => fun _ _ => by kernel_rfl
  | 2, _ => fun _ _ => by kernel_rfl
  | 3, _ => fun _ _ => by kernel_rfl
  | n + 4, h => absurd h (by omega)
theorem miss_fig : ∀ r, r < 4 → Misses 119 (fig r)
  | 0, _ => fun _ _ => by kernel_rfl
  | 1, _ => fun _ _ => by kernel_rfl
  | 2, _ => fun _ _ => by kernel_rfl
  | 3, _ => fun _ _ => by kernel_rfl
  | n + 4, h => absurd h (by omega)

section
variable {prog : Program} {w : World} {A : Around} {s : Shared} {env : Env} {g : Heap} {body : List Stmt} {target : Expr} {Q : Flow → Shared → Prop}

inductive TurnN (g : Heap) (L : Addr) (J : (Str → Option Value) → List (Addr × Obj) → Prop) (I : Addr) (oI : Obj) (s s₂ : Shared) : Prop
  | in1 (h' : Heap) (tk : Nat) (m' : Str → Option Value) (news' : List (Addr × Obj)) (e : s₂ = { s with heap := h', toks := tk }) (F : Fr g L h' m') (N : News g L h' ((I, oI) :: news')) (o : ∀ p ∈ news', p.1 ≠ I) (j : J m' news') : TurnN g L J I oI s s₂
noncomputable def TurnEndM (g : Heap) (L : Addr) (J : (Str → Option Value) → List (Addr × Obj) → Prop) (I : Addr) (oI : Obj) (s : Shared) (Q : Flow → Shared → Prop) (f : Flow) (s₂ : Shared) : Prop :=
  match f with
  | .ret v => Q (.ret v) s₂
  | .brk => Q .next s₂
  | _ => TurnN g L J I oI s s₂

theorem TurnEndM.swap {g : Heap} {L : Addr} {J : (Str → Option Value) → List (Addr × Obj) → Prop} {I : Addr} {oI : Obj} {s : Shared} {Q : Flow → Shared → Prop} (hp : Heap) {f : Flow} {s₂ : Shared} (h : TurnEndM g L J I oI s Q f s₂) : TurnEndM g L J I oI { s with heap := hp } Q f s₂ := by
  cases f with
  | ret v => exact h
  | brk => exact h
  | next => obtain ⟨h', tk, m', news', e, F, N, o, j⟩ := h; exact ⟨h', tk, m', news', e, F, N, o, j⟩
  | cont => obtain ⟨h', tk, m', news', e, F, N, o, j⟩ := h; exact ⟨h', tk, m', news', e, F, N, o, j⟩

theorem goOwned {M : Model} {E : Value → Shared → Prop} {tg : Expr} {v : Value} {I : Addr} {oI : Obj} {cn : String} {R : Unit → Shared → Prop} (he : s.heap.get? I = some oI) (hc : oI.cls = .type cn)
    (hcn : ["enumerate", "zip", "dict_itemiterator", "dict_reverseitemiterator", "odict_iterator", "itertools.zip_longest", "itertools.pairwise"].contains cn = false) (h : R () s) :
    wpAny M A (letOwnedTupleGo tg (.ref I) v) R E s := by
  have key : ∀ a : Addr, wpAny M A (do
      let o ← load I
      match o.cls, o.data with
      | .type n, .fields vs =>
        if ["enumerate", "zip", "dict_itemiterator", "dict_reverseitemiterator", "odict_iterator", "itertools.zip_longest", "itertools.pairwise"].contains n && vs[0]? == some (rawInt a) then
          rule "for.unpacks-the-owned-tuple"
          updateField I 0 .none
      | _, _ => pure ()) R E s := fun a => by
    refine wpAny_bind (wpAny_load he ?_)
    rw [hc]
    cases oI.data with
    | fields vs => simp only [hcn, Bool.false_and, Bool.false_eq_true, if_false]; exact wpAny_pure h
    | _ => exact wpAny_pure h
  cases tg <;> first | exact wpAny_pure h | (cases v <;> first | exact wpAny_pure h | exact key _)

theorem forW {X : Value → Shared → Prop} {I : Addr} {fp : List Addr} {n : Nat} {P : Nat → Value → Prop} {St : Nat → Heap → Prop} {cn : String} (W : Walks prog w A I fp [I] n P St)
    (hcls : ∀ i h, St i h → ∃ o, h.get? I = some o ∧ o.cls = .type cn)
    (hcn : ["enumerate", "zip", "dict_itemiterator", "dict_reverseitemiterator", "odict_iterator", "itertools.zip_longest", "itertools.pairwise"].contains cn = false)
    {m₀ : Str → Option Value} {news₀ : List (Addr × Obj)} (hI : g.get? I = none) (hIL : I ≠ env.locals) (F : Fr g env.locals s.heap m₀) (N : News g env.locals s.heap news₀) (hn : ∀ p ∈ news₀, p.1 ≠ I) (hst : St 0 s.heap)
    (J : Nat → (Str → Option Value) → List (Addr × Obj) → Prop) (hj : J 0 m₀ news₀)
    (hfp : ∀ b ∈ fp, b ≠ I → (∃ o, g.get? b = some o) ∨ ∃ o, ∀ i m news, J i m news → (b, o) ∈ news)
    (turn : ∀ i v m₁ news₁ h tk oI, i < n → P i v → J i m₁ news₁ → oI.cls = .type cn → Fr g env.locals h m₁ → News g env.locals h ((I, oI) :: news₁) → (∀ p ∈ news₁, p.1 ≠ I) →
      wpAny (model prog w) A (assign target env v) (fun _ s₂ => wpAny (model prog w) A (execs body env) (TurnEndM g env.locals (J (i + 1)) I oI s Q) (fun _ _ => False) s₂) (fun _ _ => False) { s with heap := h, toks := tk })
    (done : ∀ m₁ news₁ h tk, J n m₁ news₁ → Fr g env.locals h m₁ → News g env.locals h news₁ → Q .next { s with heap := h, toks := tk }) :
    codeAny (model prog w) A (.forLoop target (.ref I) body [] env) (fun r s' => match r with | .ok f => Q f s' | .error e => X e s') s := by
  refine codeAny_forLoop_any
    (fun k s' => Ex5 fun h' tk m' news' i => Cj8 (s' = { s with heap := h', toks := tk }) (St i h') (Fr g env.locals h' m') (News g env.locals h' news') ((∀ p ∈ news', p.1 ≠ I)) (J i m' news') (i ≤ n) (k = n + 1 - i)) ?_ (n + 1)
    ⟨s.heap, s.toks, m₀, news₀, 0, rfl, hst, F, N, hn, hj, Nat.zero_le _, rfl⟩
  rintro k s' ⟨h', tk, m', news', i, rfl, hst', F', N', off, hJ, hi, rfl⟩
  by_cases hlt : i < n
  · refine W.item i _ _ _ hlt hst' fun v h₁ tk₁ hP hst₁ hk₁ => ?_
    have F₁ : Fr g env.locals h₁ m' := LCg.fr_but F' hk₁ (Ne.symm hIL) hI
    have N₁ : News g env.locals h₁ news' := LCg.news_but N' hk₁ off
    obtain ⟨oI, heI, hcI⟩ := hcls _ _ hst₁
    refine goOwned heI hcI hcn ?_
    have N₂ : News g env.locals h₁ ((I, oI) :: news') := (fa_cons (⟨heI, hIL, hI⟩) (fun p hp => N₁ p hp))
    refine wpAny_mono (turn i v m' news' h₁ tk₁ oI hlt hP hJ hcI F₁ N₂ off) (fun _ s₂ h₂ => wpAny_mono h₂ (fun f s₃ h₃ => ?_) fun _ _ x => x.elim) fun _ _ x => x.elim
    have fin : TurnN g env.locals (J (i + 1)) I oI s s₃ →
        ∃ m, m < n + 1 - i ∧ Ex5 fun h' tk m' news' i => Cj8 (s₃ = { s with heap := h', toks := tk }) (St i h') (Fr g env.locals h' m') (News g env.locals h' news') ((∀ p ∈ news', p.1 ≠ I)) (J i m' news') (i ≤ n) (m = n + 1 - i) := by
      rintro ⟨h₃', tk₃, m₃, news₃, rfl, F₃, N₃, off₃, hJ₃⟩
      refine ⟨n + 1 - (i + 1), by omega, h₃', tk₃, m₃, news₃, i + 1, rfl, ?_, F₃, fun p hp => N₃ p (List.mem_cons_of_mem _ hp), off₃, hJ₃, hlt, rfl⟩
      refine W.frame _ _ _ hst₁ fun b hb o e => ?_
      by_cases hbI : b = I
      · subst hbI
        rw [heI] at e; cases e
        exact (N₃ _ List.mem_cons_self).1
      · rcases hfp b hb hbI with ⟨o₀, h0⟩ | ⟨o₀, h0⟩
        · have := F₁.keep b o₀ h0; rw [e] at this; cases this
          exact F₃.keep b _ h0
        · have := (N₁ _ (h0 _ _ _ hJ)).1; rw [e] at this; cases this
          exact (N₃ _ (List.mem_cons_of_mem _ (h0 _ _ _ hJ₃))).1
    cases f with
    | ret v => exact h₃
    | brk => exact h₃
    | next => exact fin h₃
    | cont => exact fin h₃
  · have hin : i = n := by omega
    subst hin
    refine W.done _ _ _ hst' fun h₁ tk₁ hk₁ => wpAny_execs_nil ?_
    exact done m' news' h₁ tk₁ hJ (LCg.fr_but F' hk₁ (Ne.symm hIL) hI) (LCg.news_but N' hk₁ off)

inductive LoopL (prog : Program) (w : World) (A : Around) (env : Env) (target : Expr) (body : List Stmt) (Q : Flow → Shared → Prop) (xv : Value) (s : Shared) : Prop
  | in1 (g : Heap)
    (l : Addr)
    (vs : List Value)
    (J : Nat → (Str → Option Value) → List (Addr × Obj) → Prop)
    (m₀ : Str → Option Value)
    (news₀ : List (Addr × Obj))
    (ol : Obj)
    (nl : Nat)
    (h0 : xv = .ref l) (h1 : A.handled = none) (h2 : Fr g env.locals s.heap m₀) (h3 : News g env.locals s.heap news₀) (h4 : ol.cls = .type "list") (h5 : ol.data = .seq vs.toArray nl) (h6 : (g.get? l = some ol ∨ ((l, ol) ∈ news₀ ∧ ∀ i m news, J i m news → (l, ol) ∈ news))) (h7 : J 0 m₀ news₀) (h8 : (∀ i v m₁ news₁ h tk I oI, vs[i]? = some v → J i m₁ news₁ → oI.cls = .type "list_iterator" → Fr g env.locals h m₁ → News g env.locals h ((I, oI) :: news₁) → (∀ p ∈ news₁, p.1 ≠ I) → wpAny (model prog w) A (assign target env v) (fun _ s₂ => wpAny (model prog w) A (execs body env) (TurnEndM g env.locals (J (i + 1)) I oI s Q) (fun _ _ => False) s₂) (fun _ _ => False) { s with heap := h, toks := tk })) (h9 : (∀ m₁ news₁ h tk, J vs.length m₁ news₁ → Fr g env.locals h m₁ → News g env.locals h news₁ → Q .next { s with heap := h, toks := tk })) : LoopL prog w A env target body Q xv s

theorem forL {E : Value → Shared → Prop} {iter : Expr} {pos : Pos} (h : wpAny (model prog w) A (eval iter env) (fun xv s₁ => LoopL prog w A env target body Q xv s₁) (fun _ _ => False) s)
    (hs : ∀ x, foldedSetIterable iter env x = pure x := by intro _; rfl) : wpAny (model prog w) A (exec (.For target iter body [] pos) env) Q E s := by
  refine wpAny_For (wpAny_mono h (fun xv s₁ h₁ => ?_) fun _ _ x => x.elim) hs
  obtain ⟨g, l, vs, J, m₀, news₀, ol, nl, rfl, hh, F, N, hc, hd, hsrc, hj, turn, done⟩ := h₁
  have hol : s₁.heap.get? l = some ol := hsrc.elim (fun e => F.keep _ _ e) fun e => (N _ e.1).1
  have hl : s₁.heap.IsList l vs.toArray := ⟨ol, hol, hc, nl, hd⟩
  refine wpAny_pyIter_list hl ?_
  have hlt : l < s₁.heap.objs.size := Heap.lt_size hol
  have hne : l ≠ s₁.heap.objs.size := Nat.ne_of_lt hlt
  have hgI := next_is_new F
  have up : ∀ b o, s₁.heap.get? b = some o → (s₁.heap.push { cls := .type "list_iterator", data := .fields #[.ref l, .int 0 0] }).get? b = some o := fun b o e => Heap.get?_push_of_some _ e
  have W := Walks.list (prog := prog) (w := w) hh s₁.heap.objs.size l hne vs.toArray
  have hlen : vs.toArray.size = vs.length := by simp
  rw [hlen] at W
  refine forW (cn := "list_iterator") (s := { s₁ with heap := s₁.heap.push { cls := .type "list_iterator", data := .fields #[.ref l, .int 0 0] } }) (Q := Q) W (fun i h st => ?_) (by decide) hgI (fun e => ?_) (F.push _) (fun p hp => ⟨up _ _ (N p hp).1, (N p hp).2⟩) (fun p hp => Nat.ne_of_lt (Heap.lt_size (N p hp).1))
    ⟨⟨_, Heap.get?_push_size _ rfl, rfl, rfl⟩, hl.at fun o e => up _ _ e⟩ J hj (fun b hb hbI => ?_) (fun i v m₁ news₁ h tk oI hi hP hJ hcI F₁ N₁ off => ?_) (fun m₁ news₁ h tk hJ F₁ N₁ => done m₁ news₁ h tk hJ F₁ N₁)
  · obtain ⟨o, ho, hc, _⟩ := st.1
    exact ⟨o, ho, hc⟩
  · exact absurd F.ns.lt (e ▸ Nat.lt_irrefl _)
  · rcases List.mem_cons.mp hb with e | hb
    · exact absurd e hbI
    · rw [List.mem_singleton.mp hb]
      exact hsrc.imp (fun e => ⟨ol, e⟩) fun e => ⟨ol, e.2⟩
  · exact wpAny_mono (turn i v m₁ news₁ h tk _ oI (by simpa using hP) hJ hcI F₁ N₁ off) (fun _ s₂ h₂ => wpAny_mono h₂ (fun f s₃ h₃ => h₃.swap _) fun _ _ x => x) fun _ _ x => x

inductive LoopR (prog : Program) (w : World) (A : Around) (env : Env) (target : Expr) (body : List Stmt) (Q : Flow → Shared → Prop) (xv : Value) (s : Shared) : Prop
  | in1 (g : Heap)
    (r : Addr)
    (a b : Int)
    (t u v : Tok)
    (n : Nat)
    (J : Nat → (Str → Option Value) → List (Addr × Obj) → Prop)
    (m₀ : Str → Option Value)
    (news₀ : List (Addr × Obj))
    (h0 : xv = .ref r) (h1 : A.handled = none) (h2 : Fr g env.locals s.heap m₀) (h3 : News g env.locals s.heap news₀) (h4 : IsRange s.heap r a b 1 t u v) (h5 : Builtin.Range.small a b 1 = true) (h6 : Builtin.Range.rangeSize a b 1 = (n : Int)) (h7 : J 0 m₀ news₀) (h8 : (∀ i tv m₁ news₁ h tk I oI, i < n → J i m₁ news₁ → oI.cls = .type "range_iterator" → Fr g env.locals h m₁ → News g env.locals h ((I, oI) :: news₁) → (∀ p ∈ news₁, p.1 ≠ I) → wpAny (model prog w) A (assign target env (.int (a + (i : Int)) tv)) (fun _ s₂ => wpAny (model prog w) A (execs body env) (TurnEndM g env.locals (J (i + 1)) I oI s Q) (fun _ _ => False) s₂) (fun _ _ => False) { s with heap := h, toks := tk })) (h9 : (∀ m₁ news₁ h tk, J n m₁ news₁ → Fr g env.locals h m₁ → News g env.locals h news₁ → Q .next { s with heap := h, toks := tk })) : LoopR prog w A env target body Q xv s

theorem forR {E : Value → Shared → Prop} {iter : Expr} {pos : Pos} (h : wpAny (model prog w) A (eval iter env) (fun xv s₁ => LoopR prog w A env target body Q xv s₁) (fun _ _ => False) s)
    (hs : ∀ x, foldedSetIterable iter env x = pure x := by intro _; rfl) : wpAny (model prog w) A (exec (.For target iter body [] pos) env) Q E s := by
  refine wpAny_For (wpAny_mono h (fun xv s₁ h₁ => ?_) fun _ _ x => x.elim) hs
  obtain ⟨g, r, a, b, t, u, v, n, J, m₀, news₀, rfl, hh, F, N, hr, hsm, hn, hj, turn, done⟩ := h₁
  refine wpAny_pyIter_range hr hsm ?_
  have hgI := next_is_new F
  have up : ∀ c o, s₁.heap.get? c = some o → (s₁.heap.push { cls := .type "range_iterator", data := .fields #[rawInt a, rawInt (Builtin.Range.rangeSize a b 1), rawInt 1] }).get? c = some o := fun c o e => Heap.get?_push_of_some _ e
  have W : Walks prog w A s₁.heap.objs.size [s₁.heap.objs.size] [s₁.heap.objs.size] n (fun i v => ∃ t, v = .int (a + i * 1) t)
      (fun i h => IsRangeIter h s₁.heap.objs.size (a + (i : Nat) * 1) ((n : Int) - (i : Nat)) 1) := Walks.range hh _ a 1 n
  refine forW (cn := "range_iterator") (s := { s₁ with heap := s₁.heap.push { cls := .type "range_iterator", data := .fields #[rawInt a, rawInt (Builtin.Range.rangeSize a b 1), rawInt 1] } }) (Q := Q) W (fun i h st => ⟨_, st, rfl⟩) (by decide) hgI (fun e => ?_) (F.push _) (fun p hp => ⟨up _ _ (N p hp).1, (N p hp).2⟩) (fun p hp => Nat.ne_of_lt (Heap.lt_size (N p hp).1))
    (by show IsRangeIter _ _ _ _ _; rw [hn]; simpa using Heap.get?_push_size _ rfl) J hj (fun b hb hbI => absurd (List.mem_singleton.mp hb) hbI) (fun i v m₁ news₁ h tk oI hi hP hJ hcI F₁ N₁ off => ?_) (fun m₁ news₁ h tk hJ F₁ N₁ => done m₁ news₁ h tk hJ F₁ N₁)
  · exact absurd F.ns.lt (e ▸ Nat.lt_irrefl _)
  · obtain ⟨t', rfl⟩ := hP
    rw [Int.mul_one]
    exact wpAny_mono (turn i t' m₁ news₁ h tk _ oI hi hJ hcI F₁ N₁ off) (fun _ s₂ h₂ => wpAny_mono h₂ (fun f s₃ h₃ => h₃.swap _) fun _ _ x => x) fun _ _ x => x
end
theorem room0 {d a b l : Nat} (h : d + a < l) (hb : b ≤ a) : d + b < l := Nat.lt_of_le_of_lt (Nat.add_le_add_left hb d) h
theorem room1 {d a b l : Nat} (h : d + a < l) (hb : 1 + b ≤ a) : d + 1 + b < l := Nat.add_assoc d 1 b ▸ room0 h hb
theorem room2 {d a b l : Nat} (h : d + a < l) (hb : 2 + b ≤ a) : d + 1 + 1 + b < l := Nat.add_assoc d 2 b ▸ room0 h hb
theorem room3 {d a b l : Nat} (h : d + a < l) (hb : 3 + b ≤ a) : d + 3 + b < l := Nat.add_assoc d 3 b ▸ room0 h hb
theorem nes1 (x : Nat) : x ≠ x + 1 := Nat.ne_of_lt (Nat.lt_add_of_pos_right (by decide))
theorem nes2 (x : Nat) : x ≠ x + 1 + 1 := Nat.ne_of_lt (Nat.lt_add_of_pos_right (k := 2) (by decide))
theorem nes3 (x : Nat) : x ≠ x + 1 + 1 + 1 := Nat.ne_of_lt (Nat.lt_add_of_pos_right (k := 3) (by decide))
theorem nes4 (x : Nat) : x ≠ x + 1 + 1 + 1 + 1 := Nat.ne_of_lt (Nat.lt_add_of_pos_right (k := 4) (by decide))
theorem nes5 (x : Nat) : x ≠ x + 1 + 1 + 1 + 1 + 1 := Nat.ne_of_lt (Nat.lt_add_of_pos_right (k := 5) (by decide))
theorem nes6 (x : Nat) : x ≠ x + 1 + 1 + 1 + 1 + 1 + 1 := Nat.ne_of_lt (Nat.lt_add_of_pos_right (k := 6) (by decide))
theorem wMF1 : True := by (k_with "own k_ne" => with_reducible first | assumption | (refine Ne.symm ?_; assumption) | exact nes1 _ | exact nes2 _ | exact nes3 _ | exact nes4 _ | exact nes5 _ | exact nes6 _ | exact (nes1 _).symm | exact (nes2 _).symm | exact (nes3 _).symm | exact (nes4 _).symm | exact (nes5 _).symm | exact (nes6 _).symm | fail); exact True.intro
local macro_rules
  | `(tactic| k_ne) => return dec "(PySem.W.tacticK_extra_¦'k_extra¦(str¦'\"own k_ne\"¦)¦)"

theorem Fr.ext {g h h' : Heap} {L : Addr} {m : Str → Option Value} (F : Fr g L h m) (e : Ext [] h h') : Fr g L h' m := Fr.keeps F fun b o q => e b o q (by simp)
theorem News.ext {g h h' : Heap} {L : Addr} {news : List (Addr × Obj)} (N : News g L h news) (e : Ext [] h h') : News g L h' news := News.grown N fun b o q => e b o q (by simp)
theorem ext_ms {g s₁ h' : Heap} {L : Addr} {m : Str → Option Value} {ms news' : List (Addr × Obj)} {xs : List Addr} (hms : ∀ q ∈ ms, s₁.get? q.1 = some q.2) (G : GSub s₁ g (ms.map (·.1))) (F : Fr g L h' m) (N : News g L h' news')
    (hsub : ∀ q ∈ ms, q ∈ news' ∨ q.1 ∈ xs) : Ext xs s₁ h' := fun b o e n => by
  by_cases hb : b ∈ ms.map (·.1)
  · obtain ⟨q, hq, rfl⟩ := List.mem_map.mp hb
    have := hms q hq; rw [e] at this; cases this
    rcases hsub q hq with h | h
    · exact (N q h).1
    · exact absurd h n
  · exact F.keep b o (G b o e hb)

structure TabI (ht h : Heap) (tb d hl : Addr) : Prop where
  inst : h.get? tb = some (instObj 242 d)
  dic : ∃ hk kt dn, h.get? d = some (dictOf [⟨hk, .str (Str.ofString "_headers") kt, .ref hl⟩] dn)
  new1 : ht.get? tb = none
  new2 : ht.get? d = none
noncomputable def Ents (P : Tok → Prop) (h : Heap) (ts : List Addr) (es : List (Str × Str)) : Prop := ts.length = es.length ∧ ∀ (i : Nat) (t : Addr) (e : Str × Str), ts[i]? = some t → es[i]? = some e → ∃ k1 k2, P k2 ∧ h.IsTuple t #[.str e.1 k1, .str e.2 k2]
theorem Ents.keeps {P : Tok → Prop} {h h' : Heap} {ts : List Addr} {es : List (Str × Str)} (E : Ents P h ts es) (k : ∀ t ∈ ts, ∀ o, h.get? t = some o → h'.get? t = some o) : Ents P h' ts es :=
  ⟨E.1, fun i t e h1 h2 => by
    obtain ⟨k1, k2, hP, o, ho, r⟩ := E.2 i t e h1 h2
    exact ⟨k1, k2, hP, o, k t (List.mem_of_getElem? h1) o ho, r⟩⟩
theorem ne_cls {h : Heap} {a b : Addr} {o o' : Obj} (x : h.get? a = some o) (y : h.get? b = some o') (n : o.cls ≠ o'.cls) : a ≠ b := fun e => by
  subst e; rw [x] at y; cases y; exact n rfl
theorem type_ne {a b : String} (h : a ≠ b) : Value.type a ≠ Value.type b := fun e => h (Value.type.inj e)
theorem type_ref {a : String} {b : Addr} : Value.type a ≠ Value.ref b := fun e => nomatch e
theorem Ents.tup {P : Tok → Prop} {h : Heap} {ts : List Addr} {es : List (Str × Str)} (E : Ents P h ts es) {t : Addr} (ht : t ∈ ts) : ∃ o, h.get? t = some o ∧ o.cls = .type "tuple" := by
  obtain ⟨i, hi⟩ := List.getElem?_of_mem ht
  have hlt : i < ts.length := (List.getElem?_eq_some_iff.mp hi).1
  obtain ⟨k1, k2, _, o, ho, hc, _⟩ := E.2 i t (es[i]'(E.1 ▸ hlt)) hi (List.getElem?_eq_getElem _)
  exact ⟨o, ho, hc⟩
theorem not_mem2 {a x y : Addr} (h1 : a ≠ x) (h2 : a ≠ y) : a ∉ [x, y] := by simp [h1, h2]
theorem Ents.keeps2 {P : Tok → Prop} {h h' : Heap} {ts : List Addr} {es : List (Str × Str)} (E : Ents P h ts es) (k : ∀ t o, h.get? t = some o → o.cls = .type "tuple" → h'.get? t = some o) : Ents P h' ts es :=
  E.keeps fun t hm o ho => by
    obtain ⟨o', ho', hc⟩ := E.tup hm
    rw [ho] at ho'; cases ho'; exact k t o ho hc
section
variable {M : Model} {A : Around} {s : Shared} {E : Value → Shared → Prop} {env : Env}
theorem isCall {Q : Value → Shared → Prop} {a : Addr} {x y} (h : wpAny M A (call (Value.ref a) x y) Q E s) : wpAny M A (call (Value.ref a) x y) Q E s := h
theorem isFor {Q : Flow → Shared → Prop} {a b c d e} (h : wpAny M A (exec (.For a b c d e) env) Q E s) : wpAny M A (exec (.For a b c d e) env) Q E s := h
theorem isWhile {Q : Flow → Shared → Prop} {a b c d} (h : wpAny M A (exec (.While a b c d) env) Q E s) : wpAny M A (exec (.While a b c d) env) Q E s := h
theorem isComp {Q : Value → Shared → Prop} {a b c d} (h : wpAny M A (eval (.ListComp a b c d) env) Q E s) : wpAny M A (eval (.ListComp a b c d) env) Q E s := h
theorem isCompA {Q : Flow → Shared → Prop} {n p a b c d e} (h : wpAny M A (exec (.Assign [.Name n p] (.ListComp a b c d) e) env) Q E s) : wpAny M A (exec (.Assign [.Name n p] (.ListComp a b c d) e) env) Q E s := h
end
noncomputable def refs (ts : List Addr) : List Value := ts.map Value.ref

set_option hygiene false
-- out of the way of omega: which addresses lie under which
theorem wMG1 : True := by (k_with "clr" => repeat (with_reducible rename _ < _ ∧ _ => lz9; clear lz9)); exact True.intro
theorem wMG2 : True := by (k_with "room" => ((try simp only [depth_under_make, depth_under_kw, depth_in1, depth_deeper]); (try dsimp only); first | (refine room2 (by with_reducible assumption) ?_; decide) | (refine room1 (by with_reducible assumption) ?_; decide) | (refine room0 (by with_reducible assumption) ?_; decide) | omega)); exact True.intro
-- behind a contract that changes nothing
theorem wMG3 : True := by (k_with "grown" => (intro h' tk' e'; (have F' := Mine.Fr.ext (by k_asm) e'); (have N' := Mine.News.ext (by k_asm) e'); clear e'; k_sweep)); exact True.intro
theorem wMG4 : True := by (k_with "own getMethod ref" => (k_here; (with_reducible show wpAny _ _ (getMethod (Value.ref 114) _ _) _ _ _); k_dflt (refine' gm_search ?k1z9 ?k2z9 ?k3z9 ?k4z9 ?_; (case k1z9 => k_in); (case k2z9 => rfl); (case k3z9 => rfl); (case k4z9 => rfl)))); exact True.intro
local macro_rules
  | `(tactic| walk_at "getMethod ref") => return dec "(PySem.W.tacticK_extra_¦'k_extra¦(str¦'\"own getMethod ref\"¦)¦)"
theorem wMG5 : True := by (k_with "own getMethod ref" => (k_here; (with_reducible show wpAny _ _ (getMethod (Value.ref 119) _ _) _ _ _); k_dflt (refine' gm_search ?k1z9 ?k2z9 ?k3z9 ?k4z9 ?_; (case k1z9 => k_in); (case k2z9 => rfl); (case k3z9 => rfl); (case k4z9 => rfl)))); exact True.intro
theorem wMG6 : True := by (k_with "own call builtin:re.Pattern.search" => (k_here; k_dflt (refine' c_search ?k1z9 ?k2z9 ?k3z9 ?k4z9 ?_; (case k1z9 => k_in); (case k2z9 => rfl); (case k3z9 => rfl); (case k4z9 => assumption)))); exact True.intro
local macro_rules
  | `(tactic| walk_at "call builtin:re.Pattern.search") => return dec "(PySem.W.tacticK_extra_¦'k_extra¦(str¦'\"own call builtin:re.Pattern.search\"¦)¦)"




theorem wMG7 : True := by (k_with "own eval Name" => (k_here; k_dflt (refine' nameX_L ?Fz9 ?vz9 ?_ ?az9 ?bz9; (case Fz9 => k_asm); (case az9 => rfl); (case bz9 => rfl); (case vz9 => first | exact Eq.refl (some _) | rfl | assumption); k_whole))); exact True.intro
local macro_rules
  | `(tactic| walk_at "eval Name") => return dec "(PySem.W.tacticK_extra_¦'k_extra¦(str¦'\"own eval Name\"¦)¦)"
theorem wMG8 : True := by (k_with "own loadName" => (k_here; k_dflt (refine' wpAny_loadName_local ?az9 ?bz9 (Fr.ns ?Fz9) ?vz9 ?_; (case Fz9 => k_asm); (case az9 => rfl); (case bz9 => rfl); (case vz9 => first | exact Eq.refl (some _) | rfl | assumption); k_whole))); exact True.intro
local macro_rules
  | `(tactic| walk_at "loadName") => return dec "(PySem.W.tacticK_extra_¦'k_extra¦(str¦'\"own loadName\"¦)¦)"

-- the walk, up to a loop
theorem wMG9 : True := by (k_with "no for" => fail_if_success (with_reducible first | refine isCall ?_ | refine isFor ?_ | refine isWhile ?_ | refine isComp ?_ | refine isCompA ?_)); exact True.intro

theorem wMG10 : True := by (k_with "hd" => first | (with_reducible show wpAny _ _ _ _ _ _) | (with_reducible show (ite _ _ _ : Prop)) | (with_reducible show _ ∧ _)); exact True.intro
theorem wMG11 : True := by (k_with "head" => first | (k_extra "hd"; walk1) | (dsimp only; k_extra "hd"; walk1)); exact True.intro
theorem wMG12 : True := by (k_with "mystep" => ((with_reducible show wpAny _ _ (callWith _ (Value.ref 141) _ _ _) _ _ _); k_dflt (refine' callWith_KW ?k1z9 ?k2z9 ?k3z9 ?_; (case k1z9 => k_asm); (case k2z9 => k_is); (case k3z9 => exact rfl); k_whole))); exact True.intro
theorem wMG13 : True := by (k_with "mycall" => fail); exact True.intro
theorem wMG14 : True := by (k_with "miss" => assumption); exact True.intro
theorem c_convT {w : World} {loose : List Str} {mean : ExcName → Option Value} {mg mb : Str → Option Value} {ht : Heap} (X : (Mine.hd.heap_1 w.params).In ht) (T : Top Mine.hd.view_1 loose mean mg mb ht) {A : Around} (hA : A.handled = none) {s : Shared} (ek : ht.StaysIn s.heap) {Q E : Value → Shared → Prop} (hroom : A.depth + 1 < recursionLimit) (self : Value) (x : Str) (t : Tok) (hm : Misses 114 x)
    (ret : ∀ h' tk', Ext [] s.heap h' → Q (.str x t) { s with heap := h', toks := tk' }) :
    wpAny (model PySem.Challenge.rw_ti0061_01.prog w) A (call (.ref 141) [self, .str x t] [(Str.ofString "name", .bool true)]) Q E s := by
  ((revert X; k_fill; intro X; obtain ⟨hh, dp, fr, gd, un⟩ := A; cases hA; (dsimp only at hroom)))
  refine' callM [] ?k1 ?k2 ?k3 ?k4 ?k6 ?k7 ?k8 ?k9 ?kB ?_ ?c5 ?c2 ?c3 ?c4
  (case k4 => ((intro q h9; exact nomatch h9)))
  ((case k1 => assumption); (case k2 => assumption); (case k3 => assumption); (case k6 => k_is); (case k7 => k_is); (case k8 => ((try simp only [depth_under_make, depth_under_kw, depth_in1, depth_deeper]); (try dsimp only); omega)); (case k9 => first | exact BindsTo.of_eq rfl | exact binds_K (Frag.In.keeps (by assumption) (by assumption)) rfl (by k_is) rfl rfl rfl); (case kB => exact locs rfl); (case c5 => decide); (case c2 => exact rfl); (case c3 => exact rfl); (case c4 => exact rfl))
  intro g' L' h' F' N' X' T' G' st' l'
  (try dsimp only); (try k_fold)
  (repeat' (first | (k_unfold; (try dsimp only)) | (k_extra "mycall") | (k_extra "mystep") | (k_extra "no for"; k_extra "head")))
  all_goals (((repeat' (first | k_unfold | dsimp only))); exact ret _ _ (ext_of G' (by assumption)))
theorem c_convF {w : World} {loose : List Str} {mean : ExcName → Option Value} {mg mb : Str → Option Value} {ht : Heap} (X : (Mine.hd.heap_1 w.params).In ht) (T : Top Mine.hd.view_1 loose mean mg mb ht) {A : Around} (hA : A.handled = none) {s : Shared} (ek : ht.StaysIn s.heap) {Q E : Value → Shared → Prop} (hroom : A.depth + 1 < recursionLimit) (self : Value) (x : Str) (t : Tok) (hm : Misses 119 x)
    (ret : ∀ h' tk', Ext [] s.heap h' → Q (.str x t) { s with heap := h', toks := tk' }) :
    wpAny (model PySem.Challenge.rw_ti0061_01.prog w) A (call (.ref 141) [self, .str x t] [(Str.ofString "name", .bool false)]) Q E s := by
  ((revert X; k_fill; intro X; obtain ⟨hh, dp, fr, gd, un⟩ := A; cases hA; (dsimp only at hroom)))
  refine' callM [] ?k1 ?k2 ?k3 ?k4 ?k6 ?k7 ?k8 ?k9 ?kB ?_ ?c5 ?c2 ?c3 ?c4
  (case k4 => ((intro q h9; exact nomatch h9)))
  ((case k1 => assumption); (case k2 => assumption); (case k3 => assumption); (case k6 => k_is); (case k7 => k_is); (case k8 => ((try simp only [depth_under_make, depth_under_kw, depth_in1, depth_deeper]); (try dsimp only); omega)); (case k9 => first | exact BindsTo.of_eq rfl | exact binds_K (Frag.In.keeps (by assumption) (by assumption)) rfl (by k_is) rfl rfl rfl); (case kB => exact locs rfl); (case c5 => decide); (case c2 => exact rfl); (case c3 => exact rfl); (case c4 => exact rfl))
  intro g' L' h' F' N' X' T' G' st' l'
  (try dsimp only); (try k_fold)
  (repeat' (first | (k_unfold; (try dsimp only)) | (k_extra "mycall") | (k_extra "mystep") | (k_extra "no for"; k_extra "head")))
  all_goals (((repeat' (first | k_unfold | dsimp only))); exact ret _ _ (ext_of G' (by assumption)))
theorem wMG15 : True := by (k_with "mycall" => ((with_reducible show wpAny _ _ (call (Value.ref 141) [_, Value.str _ _] _) _ _ _); k_dflt (first | (refine' c_convT ?xz9 ?tz9 rfl ?ez9 ?rz9 _ _ _ ?mz9 ?_; (case xz9 => k_asm); (case tz9 => k_asm); (case ez9 => exact Fr.keep (by k_asm)); (case rz9 => k_extra "room"); (case mz9 => k_extra "miss"); k_extra "grown") | (refine' c_convF ?xz9 ?tz9 rfl ?ez9 ?rz9 _ _ _ ?mz9 ?_; (case xz9 => k_asm); (case tz9 => k_asm); (case ez9 => exact Fr.keep (by k_asm)); (case rz9 => k_extra "room"); (case mz9 => k_extra "miss"); k_extra "grown")))); exact True.intro

noncomputable def LookV (es : List (Str × Str)) (nm : Str) (v : Value) : Prop := match es.find? (fun e => Txt.lower e.1 == Txt.lower nm) with
  | none => v = .none
  | some e => ∃ t, v = .str e.2 t
theorem find_first {α : Type} {p : α → Bool} : ∀ {l : List α} {i : Nat} {e : α}, l[i]? = some e → p e = true → (∀ j e', j < i → l[j]? = some e' → p e' = false) → l.find? p = some e
  | [], _, _, h, _, _ => by simp at h
  | a :: l, 0, e, h, he, _ => by simp at h; subst h; simp [he]
  | a :: l, i + 1, e, h, he, hn => by
    have h0 := hn 0 a (Nat.succ_pos _) (by simp)
    rw [List.find?_cons, h0]
    exact find_first (l := l) (i := i) (by simpa using h) he fun j e' hj hj' => hn (j + 1) e' (Nat.succ_lt_succ hj) (by simpa using hj')
theorem find_none {α : Type} {p : α → Bool} {l : List α} (h : ∀ (j : Nat) e, l[j]? = some e → p e = false) : l.find? p = none := by
  rw [List.find?_eq_none]
  intro x hx
  obtain ⟨j, hj⟩ := List.getElem?_of_mem hx
  simp [h j x hj]
theorem c_get {w : World} {loose : List Str} {mean : ExcName → Option Value} {mg mb : Str → Option Value} {ht : Heap} (X : (Mine.hd.heap_1 w.params).In ht) (T : Top Mine.hd.view_1 loose mean mg mb ht) {A : Around} (hA : A.handled = none) {s : Shared} (ek : ht.StaysIn s.heap) {Q E : Value → Shared → Prop} {P : Tok → Prop} (hroom : A.depth + 2 < recursionLimit) {tb d hl : Addr} (TI : TabI ht s.heap tb d hl) {ol : Obj} {nl : Nat} {ts : List Addr} {es : List (Str × Str)}
    (hol : s.heap.get? hl = some ol) (hoc : ol.cls = .type "list") (hod : ol.data = .seq (refs ts).toArray nl) (en : Ents P s.heap ts es) (nm : Str) (tn : Tok) (hm : Misses 114 (Txt.lower nm)) (hlen : nm.length < 100) (hel : ∀ e ∈ es, e.1.length < 100)
    (ret : ∀ v h' tk', Ext [] s.heap h' → LookV es nm v → Q v { s with heap := h', toks := tk' }) :
    wpAny (model PySem.Challenge.rw_ti0061_01.prog w) A (call (.ref 189) [.ref tb, .str nm tn] []) Q E s := by
  ((revert X; k_fill; intro X; obtain ⟨hh, dp, fr, gd, un⟩ := A; cases hA; (dsimp only at hroom)))
  refine absG fun G9 hG9 => ?_
  obtain ⟨i1, ⟨hk, kt, dn, i2⟩, n1, n2⟩ := TI
  have hms : ∀ q ∈ [(tb, instObj 242 d), (d, dictOf [⟨hk, .str (Str.ofString "_headers") kt, .ref hl⟩] dn)], s.heap.get? q.1 = some q.2 ∧ ht.get? q.1 = none := by
    intro q hq
    rcases List.mem_cons.mp hq with rfl | hq
    · exact ⟨i1, n1⟩
    · rw [List.mem_singleton.mp hq]; exact ⟨i2, n2⟩
  refine hG9 ?_; clear hG9
  refine' callM [(tb, instObj 242 d), (d, dictOf [⟨hk, .str (Str.ofString "_headers") kt, .ref hl⟩] dn)] ?k1 ?k2 ?k3 ?k4 ?k6 ?k7 ?k8 ?k9 ?kB ?_ ?c5 ?c2 ?c3 ?c4
  (case k4 => exact hms)
  ((case k1 => assumption); (case k2 => assumption); (case k3 => assumption); (case k6 => k_is); (case k7 => k_is); (case k8 => ((try simp only [depth_under_make, depth_under_kw, depth_in1, depth_deeper]); (try dsimp only); omega)); (case k9 => first | exact BindsTo.of_eq rfl | exact binds_K (Frag.In.keeps (by assumption) (by assumption)) rfl (by k_is) rfl rfl rfl); (case kB => exact locs rfl); (case c5 => decide); (case c2 => exact rfl); (case c3 => exact rfl); (case c4 => exact rfl))
  intro g' L' h' F' N' X' T' G' st' l'
  (try dsimp only); (try k_fold)
  (repeat' (first | (k_unfold; (try dsimp only)) | (k_extra "mycall") | (k_extra "mystep") | (k_extra "no for"; k_extra "head")))
  have ghl : g'.get? hl = some ol := G' _ _ hol (not_mem2 (ne_cls hol i1 (hoc ▸ type_ref)) (ne_cls hol i2 (hoc ▸ type_ne (by decide))))
  have gts : Ents P g' ts es := en.keeps2 fun t o ho hc => G' _ _ ho (not_mem2 (ne_cls ho i1 (hc ▸ type_ref)) (ne_cls ho i2 (hc ▸ type_ne (by decide))))
  refine forL ?_
  (repeat' (first | (k_unfold; (try dsimp only)) | (k_extra "mycall") | (k_extra "mystep") | (k_extra "no for"; k_extra "head")))
  refine ⟨g', hl, refs ts, fun i m news => news = [(tb, instObj 242 d), (d, dictOf [⟨hk, .str (Str.ofString "_headers") kt, .ref hl⟩] dn)] ∧ (∃ t, m (Str.ofString "name") = some (.str (Txt.lower nm) t)) ∧ m (Str.ofString "default") = some .none ∧ (∀ j e, j < i → es[j]? = some e → (Txt.lower e.1 == Txt.lower nm) = false), _, _, ol, nl, rfl, rfl, by assumption, by assumption, hoc, hod, .inl ghl, ⟨rfl, ⟨_, rfl⟩, rfl, fun _ _ h => absurd h (Nat.not_lt_zero _)⟩, ?_, ?_⟩
  · intro i v m₁ news₁ h tk I oI hv hJ hc F₁ N₁ off
    refine absG fun G9 hG9 => ?_
    obtain ⟨rfl, ⟨t9, hn⟩, hd9, hno⟩ := hJ
    obtain ⟨t, hti, rfl⟩ : ∃ t, Cj2 (ts[i]? = some t) (v = .ref t):= by
      simp only [refs, List.getElem?_map, Option.map_eq_some_iff] at hv
      obtain ⟨t, h1, h2⟩ := hv; exact ⟨t, h1, h2.symm⟩
    have hlt : i < es.length := gts.1 ▸ (List.getElem?_eq_some_iff.mp hti).1
    obtain ⟨e, he⟩ : ∃ e, es[i]? = some e:= ⟨_, List.getElem?_eq_getElem hlt⟩
    obtain ⟨k1, k2, hPt, htup⟩ := gts.2 i t e hti he
    have hel9 := hel e (List.mem_of_getElem? he)
    refine hG9 ?_; clear hG9
    refine wpAny_assign_Tuple rfl (htup.at fun o e => F₁.keep _ _ e) rfl rfl fun h₂ hx => ?_
    have up : ∀ b o, h.get? b = some o → h₂.get? b = some o := fun b o x => hx b o (Nat.ne_of_lt (Heap.lt_size x)) x
    have F₂ := Fr.keeps F₁ up
    have N₂ := News.grown N₁ up
    clear F₁ N₁
    (repeat' (first | (k_unfold; (try dsimp only)) | (k_extra "mycall") | (k_extra "mystep") | (k_extra "no for"; k_extra "head")))
    · ((with_reducible rename Fr _ _ _ _ => F9); (with_reducible rename News _ _ _ _ => N9))
      ((repeat' (first | k_unfold | dsimp only)))
      rename _ = true => heq
      refine ret _ _ _ (ext_ms (fun q hq => (hms q hq).1) G' F9 N9 (fun q hq => .inl (List.mem_cons_of_mem _ hq))) ?_
      unfold LookV
      rw [find_first he heq hno]
      exact ⟨_, rfl⟩
    · ((with_reducible rename Fr _ _ _ _ => F9); (with_reducible rename News _ _ _ _ => N9))
      rename _ = false => heq
      refine ⟨_, _, _, _, rfl, F9, N9, off, rfl, ⟨t9, hn⟩, hd9, ?_⟩
      intro j e' hj he'
      rcases Nat.lt_succ_iff_lt_or_eq.mp hj with hj | rfl
      · exact hno j e' hj he'
      · rw [he] at he'; cases he'; exact heq
  · intro m₁ news₁ h tk hJ F₁ N₁
    refine absG fun G9 hG9 => ?_
    obtain ⟨rfl, ⟨t9, hn⟩, hd9, hno⟩ := hJ
    refine hG9 ?_; clear hG9
    (repeat' (first | (k_unfold; (try dsimp only)) | (k_extra "mycall") | (k_extra "mystep") | (k_extra "no for"; k_extra "head")))
    ((with_reducible rename Fr _ _ _ _ => F9); (with_reducible rename News _ _ _ _ => N9))
    ((repeat' (first | k_unfold | dsimp only)))
    refine ret _ _ _ (ext_ms (fun q hq => (hms q hq).1) G' F9 N9 (fun q hq => .inl hq)) ?_
    unfold LookV
    rw [find_none fun j e' he' => hno j e' (by simp only [refs, List.length_map, en.1]; exact (List.getElem?_eq_some_iff.mp he').1) he']

theorem TabI.of_news {g h : Heap} {L : Addr} {news : List (Addr × Obj)} {tb d hl : Addr} {hk : Int} {kt : Tok} {dn : Nat} (N : News g L h news) (m1 : (tb, instObj 242 d) ∈ news) (m2 : (d, dictOf [⟨hk, .str (Str.ofString "_headers") kt, .ref hl⟩] dn) ∈ news) : TabI g h tb d hl :=
  ⟨(N _ m1).1, ⟨hk, kt, dn, (N _ m2).1⟩, (N _ m1).2.2, (N _ m2).2.2⟩
structure Tab (P : Tok → Prop) (ht h : Heap) (tb d hl : Addr) (ol : Obj) (nl : Nat) (ts : List Addr) (es : List (Str × Str)) : Prop extends TabI ht h tb d hl where
  hol : h.get? hl = some ol
  hoc : ol = listOf (refs ts).toArray nl
  en : Ents P h ts es
  hel : ∀ e ∈ es, e.1.length < 100
theorem Tab.cls {P : Tok → Prop} {ht h : Heap} {tb d hl : Addr} {ol : Obj} {nl : Nat} {ts : List Addr} {es : List (Str × Str)} (t : Tab P ht h tb d hl ol nl ts es) : ol.cls = .type "list" := by rw [t.hoc]
theorem Tab.data {P : Tok → Prop} {ht h : Heap} {tb d hl : Addr} {ol : Obj} {nl : Nat} {ts : List Addr} {es : List (Str × Str)} (t : Tab P ht h tb d hl ol nl ts es) : ol.data = .seq (refs ts).toArray nl := by rw [t.hoc]
theorem Tab.ground {P : Tok → Prop} {ht h g : Heap} {tb d hl : Addr} {ol : Obj} {nl : Nat} {ts : List Addr} {es : List (Str × Str)} (t : Tab P ht h tb d hl ol nl ts es) (G : GSub h g [tb, d]) : g.get? hl = some ol ∧ Ents P g ts es := by
  obtain ⟨hk, kt, dn, i2⟩ := t.dic
  exact ⟨G _ _ t.hol (not_mem2 (ne_cls t.hol t.inst (t.cls ▸ type_ref)) (ne_cls t.hol i2 (t.cls ▸ type_ne (by decide)))),
    t.en.keeps2 fun a o ho hc => G _ _ ho (not_mem2 (ne_cls ho t.inst (hc ▸ type_ref)) (ne_cls ho i2 (hc ▸ type_ne (by decide))))⟩
theorem Tab.again {P : Tok → Prop} {ht h g h' : Heap} {L : Addr} {m : Str → Option Value} {news : List (Addr × Obj)} {tb d hl : Addr} {ol : Obj} {nl : Nat} {ts : List Addr} {es : List (Str × Str)} (t : Tab P ht h tb d hl ol nl ts es) (G : GSub h g [tb, d]) (F : Fr g L h' m) (N : News g L h' news)
    {hk : Int} {kt : Tok} {dn : Nat} (m1 : (tb, instObj 242 d) ∈ news) (m2 : (d, dictOf [⟨hk, .str (Str.ofString "_headers") kt, .ref hl⟩] dn) ∈ news) : Tab P g h' tb d hl ol nl ts es :=
  { TabI.of_news N m1 m2 with
    hol := F.keep _ _ (t.ground G).1
    hoc := t.hoc
    en := (t.ground G).2.keeps fun a _ o e => F.keep a o e
    hel := t.hel }
theorem Tab.ms {ht h : Heap} {tb d hl : Addr} (t : TabI ht h tb d hl) : ∃ hk kt dn, ∀ q ∈ [(tb, instObj 242 d), (d, dictOf [⟨hk, .str (Str.ofString "_headers") kt, .ref hl⟩] dn)], h.get? q.1 = some q.2 ∧ ht.get? q.1 = none := by
  obtain ⟨i1, ⟨hk, kt, dn, i2⟩, n1, n2⟩ := t
  refine ⟨hk, kt, dn, fun q hq => ?_⟩
  rcases List.mem_cons.mp hq with rfl | hq
  · exact ⟨i1, n1⟩
  · rw [List.mem_singleton.mp hq]; exact ⟨i2, n2⟩
set_option hygiene false
theorem wC51 : True := by (k_with "mycall" => ((with_reducible show wpAny _ _ (call (Value.ref 189) [_, Value.str _ _] _) _ _ _); k_dflt ( (refine' c_get ?xz9 ?tz9 rfl ?ez9 ?rz9 (Tab.toTabI (Tab.again TB G' ?Fz9 ?Nz9 ?m1z9 ?m2z9)) (Tab.hol (Tab.again TB G' ?Fz9 ?Nz9 ?m1z9 ?m2z9)) (Tab.cls TB) (Tab.data TB) (Tab.en (Tab.again TB G' ?Fz9 ?Nz9 ?m1z9 ?m2z9)) _ _ hm hlen TB.hel ?_; (case xz9 => k_asm); (case tz9 => k_asm); (case Fz9 => k_asm); (case Nz9 => k_asm); (case m1z9 => k_mem); (case m2z9 => k_mem); (case ez9 => exact Fr.keep (by k_asm)); (case rz9 => k_extra "room"); intro v9 h' tk' e' hv9; (have F' := Mine.Fr.ext (by k_asm) e'); (have N' := Mine.News.ext (by k_asm) e'); clear e'; k_sweep)))); exact True.intro
theorem c_getitemM {w : World} {loose : List Str} {mean : ExcName → Option Value} {mg mb : Str → Option Value} {ht : Heap} (X : (Mine.hd.heap_1 w.params).In ht) (T : Top Mine.hd.view_1 loose mean mg mb ht) {A : Around} (hA : A.handled = none) {s : Shared} (ek : ht.StaysIn s.heap) {Q E : Value → Shared → Prop} {P : Tok → Prop} (hroom : A.depth + 3 < recursionLimit) {tb d hl : Addr} {ol : Obj} {nl : Nat} {ts : List Addr} {es : List (Str × Str)} (TB : Tab P ht s.heap tb d hl ol nl ts es)
    (nm : Str) (tn : Tok) (hm : Misses 114 (Txt.lower nm)) (hlen : nm.length < 100)
    (ret : ∀ v h' tk', Ext [] s.heap h' → LookV es nm v → Q v { s with heap := h', toks := tk' }) :
    wpAny (model PySem.Challenge.rw_ti0061_01.prog w) A (call (.ref 167) [.ref tb, .str nm tn] []) Q E s := by
  ((revert X; k_fill; intro X; obtain ⟨hh, dp, fr, gd, un⟩ := A; cases hA; (dsimp only at hroom)))
  obtain ⟨hk, kt, dn, hms⟩ := Tab.ms TB.toTabI
  refine' callM [(tb, instObj 242 d), (d, dictOf [⟨hk, .str (Str.ofString "_headers") kt, .ref hl⟩] dn)] ?k1 ?k2 ?k3 ?k4 ?k6 ?k7 ?k8 ?k9 ?kB ?_ ?c5 ?c2 ?c3 ?c4
  (case k4 => exact hms)
  ((case k1 => assumption); (case k2 => assumption); (case k3 => assumption); (case k6 => k_is); (case k7 => k_is); (case k8 => ((try simp only [depth_under_make, depth_under_kw, depth_in1, depth_deeper]); (try dsimp only); omega)); (case k9 => first | exact BindsTo.of_eq rfl | exact binds_K (Frag.In.keeps (by assumption) (by assumption)) rfl (by k_is) rfl rfl rfl); (case kB => exact locs rfl); (case c5 => decide); (case c2 => exact rfl); (case c3 => exact rfl); (case c4 => exact rfl))
  intro g' L' h' F' N' X' T' G' st' l'
  (try dsimp only); (try k_fold)
  (repeat' (first | (k_unfold; (try dsimp only)) | (k_extra "mycall") | (k_extra "mystep") | (k_extra "no for"; k_extra "head")))
  ((with_reducible rename Fr _ _ _ _ => F9); (with_reducible rename News _ _ _ _ => N9))
  ((repeat' (first | k_unfold | dsimp only)))
  exact ret _ _ _ (ext_ms (fun q hq => (hms q hq).1) G' F9 N9 (fun q hq => .inl hq)) (by assumption)

set_option hygiene false

theorem wC61 : True := by (k_with "mycall" => ((with_reducible show wpAny _ _ (call (Value.ref 167) [_, Value.str _ _] _) _ _ _); k_dflt ( (refine' c_getitemM ?xz9 ?tz9 rfl ?ez9 ?rz9 (Tab.again TB G' ?Fz9 ?Nz9 ?m1z9 ?m2z9) _ _ hm hlen ?_; (case xz9 => k_asm); (case tz9 => k_asm); (case Fz9 => k_asm); (case Nz9 => k_asm); (case m1z9 => k_mem); (case m2z9 => k_mem); (case ez9 => exact Fr.keep (by k_asm)); (case rz9 => k_extra "room"); intro v9 h' tk' e' hv9; (have F' := Mine.Fr.ext (by k_asm) e'); (have N' := Mine.News.ext (by k_asm) e'); clear e'; k_sweep)))); exact True.intro
theorem c_getitemF {w : World} {loose : List Str} {mean : ExcName → Option Value} {mg mb : Str → Option Value} {ht : Heap} (X : (Mine.hd.heap_1 w.params).In ht) (T : Top Mine.hd.view_1 loose mean mg mb ht) {A : Around} (hA : A.handled = none) {s : Shared} (ek : ht.StaysIn s.heap) {Q E : Value → Shared → Prop} {P : Tok → Prop} (hroom : A.depth + 4 < recursionLimit) {tb d hl : Addr} {ol : Obj} {nl : Nat} {ts : List Addr} {es : List (Str × Str)} (TB : Tab P ht s.heap tb d hl ol nl ts es)
    (nm : Str) (tn : Tok) (hm : Misses 114 (Txt.lower nm)) (hlen : nm.length < 100)
    (ret : ∀ v h' tk', Ext [] s.heap h' → LookV es nm v → Q v { s with heap := h', toks := tk' }) :
    wpAny (model PySem.Challenge.rw_ti0061_01.prog w) A (call (.ref 80) [.ref tb, .str nm tn] []) Q E s := by
  ((revert X; k_fill; intro X; obtain ⟨hh, dp, fr, gd, un⟩ := A; cases hA; (dsimp only at hroom)))
  obtain ⟨hk, kt, dn, hms⟩ := Tab.ms TB.toTabI
  (( refine' callM [(tb, instObj 242 d), (d, dictOf [⟨hk, .str (Str.ofString "_headers") kt, .ref hl⟩] dn)] ?k1 ?k2 ?k3 ?k4 ?k6 ?k7 ?k8 ?k9 ?kB ?_ ?c5 ?c2 ?c3 ?c4; (case k4 => exact hms); ((case k1 => assumption); (case k2 => assumption); (case k3 => assumption); (case k6 => k_is); (case k7 => k_is); (case k8 => ((try simp only [depth_under_make, depth_under_kw, depth_in1, depth_deeper]); (try dsimp only); omega)); (case k9 => first | exact BindsTo.of_eq rfl | exact binds_K (Frag.In.keeps (by assumption) (by assumption)) rfl (by k_is) rfl rfl rfl); (case kB => exact locs rfl); (case c5 => decide); (case c2 => exact rfl); (case c3 => exact rfl); (case c4 => exact rfl)); intro g' L' h' F' N' X' T' G' st' l'; (try dsimp only); (try k_fold)))
  (repeat' (first | (k_unfold; (try dsimp only)) | (k_extra "mycall") | (k_extra "mystep") | (k_extra "no for"; k_extra "head")))
  ((with_reducible rename Fr _ _ _ _ => F9); (with_reducible rename News _ _ _ _ => N9))
  ((repeat' (first | k_unfold | dsimp only)))
  exact ret _ _ _ (ext_ms (fun q hq => (hms q hq).1) G' F9 N9 (fun q hq => .inl hq)) (by assumption)
theorem c_containsM {w : World} {loose : List Str} {mean : ExcName → Option Value} {mg mb : Str → Option Value} {ht : Heap} (X : (Mine.hd.heap_1 w.params).In ht) (T : Top Mine.hd.view_1 loose mean mg mb ht) {A : Around} (hA : A.handled = none) {s : Shared} (ek : ht.StaysIn s.heap) {Q E : Value → Shared → Prop} {P : Tok → Prop} (hroom : A.depth + 3 < recursionLimit) {tb d hl : Addr} {ol : Obj} {nl : Nat} {ts : List Addr} {es : List (Str × Str)} (TB : Tab P ht s.heap tb d hl ol nl ts es)
    (nm : Str) (tn : Tok) (hm : Misses 114 (Txt.lower nm)) (hlen : nm.length < 100)
    (ret : ∀ h' tk', Ext [] s.heap h' → Q (.bool (es.find? (fun e => Txt.lower e.1 == Txt.lower nm)).isSome) { s with heap := h', toks := tk' }) :
    wpAny (model PySem.Challenge.rw_ti0061_01.prog w) A (call (.ref 174) [.ref tb, .str nm tn] []) Q E s := by
  ((revert X; k_fill; intro X; obtain ⟨hh, dp, fr, gd, un⟩ := A; cases hA; (dsimp only at hroom)))
  obtain ⟨hk, kt, dn, hms⟩ := Tab.ms TB.toTabI
  (( refine' callM [(tb, instObj 242 d), (d, dictOf [⟨hk, .str (Str.ofString "_headers") kt, .ref hl⟩] dn)] ?k1 ?k2 ?k3 ?k4 ?k6 ?k7 ?k8 ?k9 ?kB ?_ ?c5 ?c2 ?c3 ?c4; (case k4 => exact hms); ((case k1 => assumption); (case k2 => assumption); (case k3 => assumption); (case k6 => k_is); (case k7 => k_is); (case k8 => ((try simp only [depth_under_make, depth_under_kw, depth_in1, depth_deeper]); (try dsimp only); omega)); (case k9 => first | exact BindsTo.of_eq rfl | exact binds_K (Frag.In.keeps (by assumption) (by assumption)) rfl (by k_is) rfl rfl rfl); (case kB => exact locs rfl); (case c5 => decide); (case c2 => exact rfl); (case c3 => exact rfl); (case c4 => exact rfl)); intro g' L' h' F' N' X' T' G' st' l'; (try dsimp only); (try k_fold)))
  (repeat' (first | (k_unfold; (try dsimp only)) | (k_extra "mycall") | (k_extra "mystep") | (k_extra "no for"; k_extra "head")))
  unfold LookV at hv9
  cases hf : es.find? (fun e => Txt.lower e.1 == Txt.lower nm) with
  | none =>
    rw [hf] at hv9 ret; subst hv9
    (repeat' (first | (k_unfold; (try dsimp only)) | (k_extra "mycall") | (k_extra "mystep") | (k_extra "no for"; k_extra "head")))
    ((with_reducible rename Fr _ _ _ _ => F9); (with_reducible rename News _ _ _ _ => N9))
    ((repeat' (first | k_unfold | dsimp only)))
    exact ret _ _ (ext_ms (fun q hq => (hms q hq).1) G' F9 N9 (fun q hq => .inl hq))
  | some e =>
    rw [hf] at hv9 ret; obtain ⟨t9, rfl⟩ := hv9
    (repeat' (first | (k_unfold; (try dsimp only)) | (k_extra "mycall") | (k_extra "mystep") | (k_extra "no for"; k_extra "head")))
    ((with_reducible rename Fr _ _ _ _ => F9); (with_reducible rename News _ _ _ _ => N9))
    ((repeat' (first | k_unfold | dsimp only)))
    exact ret _ _ (ext_ms (fun q hq => (hms q hq).1) G' F9 N9 (fun q hq => .inl hq))
theorem wC62 : True := by (k_with "mycall" => ((with_reducible show wpAny _ _ (call (Value.ref 174) [_, Value.str _ _] _) _ _ _); k_dflt ( (refine' c_containsM ?xz9 ?tz9 rfl ?ez9 ?rz9 (Tab.again TB G' ?Fz9 ?Nz9 ?m1z9 ?m2z9) _ _ hm hlen ?_; (case xz9 => k_asm); (case tz9 => k_asm); (case Fz9 => k_asm); (case Nz9 => k_asm); (case m1z9 => k_mem); (case m2z9 => k_mem); (case ez9 => exact Fr.keep (by k_asm)); (case rz9 => k_extra "room"); intro h' tk' e'; (have F' := Mine.Fr.ext (by k_asm) e'); (have N' := Mine.News.ext (by k_asm) e'); clear e'; k_sweep)))); exact True.intro
theorem c_containsF {w : World} {loose : List Str} {mean : ExcName → Option Value} {mg mb : Str → Option Value} {ht : Heap} (X : (Mine.hd.heap_1 w.params).In ht) (T : Top Mine.hd.view_1 loose mean mg mb ht) {A : Around} (hA : A.handled = none) {s : Shared} (ek : ht.StaysIn s.heap) {Q E : Value → Shared → Prop} {P : Tok → Prop} (hroom : A.depth + 4 < recursionLimit) {tb d hl : Addr} {ol : Obj} {nl : Nat} {ts : List Addr} {es : List (Str × Str)} (TB : Tab P ht s.heap tb d hl ol nl ts es)
    (nm : Str) (tn : Tok) (hm : Misses 114 (Txt.lower nm)) (hlen : nm.length < 100)
    (ret : ∀ h' tk', Ext [] s.heap h' → Q (.bool (es.find? (fun e => Txt.lower e.1 == Txt.lower nm)).isSome) { s with heap := h', toks := tk' }) :
    wpAny (model PySem.Challenge.rw_ti0061_01.prog w) A (call (.ref 59) [.ref tb, .str nm tn] []) Q E s := by
  ((revert X; k_fill; intro X; obtain ⟨hh, dp, fr, gd, un⟩ := A; cases hA; (dsimp only at hroom)))
  obtain ⟨hk, kt, dn, hms⟩ := Tab.ms TB.toTabI
  (( refine' callM [(tb, instObj 242 d), (d, dictOf [⟨hk, .str (Str.ofString "_headers") kt, .ref hl⟩] dn)] ?k1 ?k2 ?k3 ?k4 ?k6 ?k7 ?k8 ?k9 ?kB ?_ ?c5 ?c2 ?c3 ?c4; (case k4 => exact hms); ((case k1 => assumption); (case k2 => assumption); (case k3 => assumption); (case k6 => k_is); (case k7 => k_is); (case k8 => ((try simp only [depth_under_make, depth_under_kw, depth_in1, depth_deeper]); (try dsimp only); omega)); (case k9 => first | exact BindsTo.of_eq rfl | exact binds_K (Frag.In.keeps (by assumption) (by assumption)) rfl (by k_is) rfl rfl rfl); (case kB => exact locs rfl); (case c5 => decide); (case c2 => exact rfl); (case c3 => exact rfl); (case c4 => exact rfl)); intro g' L' h' F' N' X' T' G' st' l'; (try dsimp only); (try k_fold)))
  (repeat' (first | (k_unfold; (try dsimp only)) | (k_extra "mycall") | (k_extra "mystep") | (k_extra "no for"; k_extra "head")))
  ((with_reducible rename Fr _ _ _ _ => F9); (with_reducible rename News _ _ _ _ => N9))
  ((repeat' (first | k_unfold | dsimp only)))
  exact ret _ _ (ext_ms (fun q hq => (hms q hq).1) G' F9 N9 (fun q hq => .inl hq))
theorem c_not {w : World} {loose : List Str} {mean : ExcName → Option Value} {mg mb : Str → Option Value} {ht : Heap} (X : (Mine.hd.heap_1 w.params).In ht) (T : Top Mine.hd.view_1 loose mean mg mb ht) {A : Around} (hA : A.handled = none) {s : Shared} (ek : ht.StaysIn s.heap) {Q E : Value → Shared → Prop} (hroom : A.depth + 1 < recursionLimit) (b : Bool)
    (ret : ∀ h' tk', Ext [] s.heap h' → Q (.bool (!b)) { s with heap := h', toks := tk' }) :
    wpAny (model PySem.Challenge.rw_ti0061_01.prog w) A (call (.ref 52) [.bool b] []) Q E s := by
  ((revert X; k_fill; intro X; obtain ⟨hh, dp, fr, gd, un⟩ := A; cases hA; (dsimp only at hroom)))
  refine' callM [] ?k1 ?k2 ?k3 ?k4 ?k6 ?k7 ?k8 ?k9 ?kB ?_ ?c5 ?c2 ?c3 ?c4
  (case k4 => ((intro q h9; exact nomatch h9)))
  ((case k1 => assumption); (case k2 => assumption); (case k3 => assumption); (case k6 => k_is); (case k7 => k_is); (case k8 => ((try simp only [depth_under_make, depth_under_kw, depth_in1, depth_deeper]); (try dsimp only); omega)); (case k9 => first | exact BindsTo.of_eq rfl | exact binds_K (Frag.In.keeps (by assumption) (by assumption)) rfl (by k_is) rfl rfl rfl); (case kB => exact locs rfl); (case c5 => decide); (case c2 => exact rfl); (case c3 => exact rfl); (case c4 => exact rfl))
  intro g' L' h' F' N' X' T' G' st' l'
  (try dsimp only); (try k_fold)
  (repeat' (first | (k_unfold; (try dsimp only)) | (k_extra "mycall") | (k_extra "mystep") | (k_extra "no for"; k_extra "head")))
  all_goals (((repeat' (first | k_unfold | dsimp only))); exact ret _ _ (ext_of G' (by assumption)))
theorem c_le {w : World} {loose : List Str} {mean : ExcName → Option Value} {mg mb : Str → Option Value} {ht : Heap} (X : (Mine.hd.heap_1 w.params).In ht) (T : Top Mine.hd.view_1 loose mean mg mb ht) {A : Around} (hA : A.handled = none) {s : Shared} (ek : ht.StaysIn s.heap) {Q E : Value → Shared → Prop} (hroom : A.depth + 1 < recursionLimit) (x y : Int) (tx ty : Tok)
    (ret : ∀ h' tk', Ext [] s.heap h' → Q (.bool (decide (x ≤ y))) { s with heap := h', toks := tk' }) :
    wpAny (model PySem.Challenge.rw_ti0061_01.prog w) A (call (.ref 45) [.int x tx, .int y ty] []) Q E s := by
  ((revert X; k_fill; intro X; obtain ⟨hh, dp, fr, gd, un⟩ := A; cases hA; (dsimp only at hroom)))
  refine' callM [] ?k1 ?k2 ?k3 ?k4 ?k6 ?k7 ?k8 ?k9 ?kB ?_ ?c5 ?c2 ?c3 ?c4
  (case k4 => ((intro q h9; exact nomatch h9)))
  ((case k1 => assumption); (case k2 => assumption); (case k3 => assumption); (case k6 => k_is); (case k7 => k_is); (case k8 => ((try simp only [depth_under_make, depth_under_kw, depth_in1, depth_deeper]); (try dsimp only); omega)); (case k9 => first | exact BindsTo.of_eq rfl | exact binds_K (Frag.In.keeps (by assumption) (by assumption)) rfl (by k_is) rfl rfl rfl); (case kB => exact locs rfl); (case c5 => decide); (case c2 => exact rfl); (case c3 => exact rfl); (case c4 => exact rfl))
  intro g' L' h' F' N' X' T' G' st' l'
  (try dsimp only); (try k_fold)
  (repeat' (first | (k_unfold; (try dsimp only)) | (k_extra "mycall") | (k_extra "mystep") | (k_extra "no for"; k_extra "head")))
  all_goals (((repeat' (first | k_unfold | dsimp only))); exact ret _ _ (ext_of G' (by assumption)))
theorem wC63 : True := by (k_with "own call builtin:len" => (k_here; (with_reducible show wpAny _ _ (call (Value.builtin "len") [Value.ref _]) _ _ _); k_dflt (refine' call_len_list ?lz9 ?fz9 ?_; (case lz9 => is_list); (case fz9 => k_extra "size63"); k_whole))); exact True.intro
local macro_rules
  | `(tactic| walk_at "call builtin:len") => return dec "(PySem.W.tacticK_extra_¦'k_extra¦(str¦'\"own call builtin:len\"¦)¦)"
theorem wC64 : True := by (k_with "size63" => ((try simp only [List.size_toArray, Mine.refs, List.length_map, List.length_append, List.length_cons, List.length_nil]); first | decide | omega)); exact True.intro
theorem c_lenM {w : World} {loose : List Str} {mean : ExcName → Option Value} {mg mb : Str → Option Value} {ht : Heap} (X : (Mine.hd.heap_1 w.params).In ht) (T : Top Mine.hd.view_1 loose mean mg mb ht) {A : Around} (hA : A.handled = none) {s : Shared} (ek : ht.StaysIn s.heap) {Q E : Value → Shared → Prop} {P : Tok → Prop} (hroom : A.depth + 1 < recursionLimit) {tb d hl : Addr} {ol : Obj} {nl : Nat} {ts : List Addr} {es : List (Str × Str)} (TB : Tab P ht s.heap tb d hl ol nl ts es) (hsz : es.length < 100)
    (ret : ∀ t h' tk', Ext [] s.heap h' → Q (.int (es.length : Int) t) { s with heap := h', toks := tk' }) :
    wpAny (model PySem.Challenge.rw_ti0061_01.prog w) A (call (.ref 148) [.ref tb] []) Q E s := by
  ((revert X; k_fill; intro X; obtain ⟨hh, dp, fr, gd, un⟩ := A; cases hA; (dsimp only at hroom)))
  obtain ⟨hk, kt, dn, hms⟩ := Tab.ms TB.toTabI
  (( refine' callM [(tb, instObj 242 d), (d, dictOf [⟨hk, .str (Str.ofString "_headers") kt, .ref hl⟩] dn)] ?k1 ?k2 ?k3 ?k4 ?k6 ?k7 ?k8 ?k9 ?kB ?_ ?c5 ?c2 ?c3 ?c4; (case k4 => exact hms); ((case k1 => assumption); (case k2 => assumption); (case k3 => assumption); (case k6 => k_is); (case k7 => k_is); (case k8 => ((try simp only [depth_under_make, depth_under_kw, depth_in1, depth_deeper]); (try dsimp only); omega)); (case k9 => first | exact BindsTo.of_eq rfl | exact binds_K (Frag.In.keeps (by assumption) (by assumption)) rfl (by k_is) rfl rfl rfl); (case kB => exact locs rfl); (case c5 => decide); (case c2 => exact rfl); (case c3 => exact rfl); (case c4 => exact rfl)); intro g' L' h' F' N' X' T' G' st' l'; (try dsimp only); (try k_fold)))
  have hl9 : g'.IsList hl (refs ts).toArray := ⟨ol, (TB.ground G').1, TB.cls, _, TB.data⟩
  have hlen9 := TB.en.1
  (repeat' (first | (k_unfold; (try dsimp only)) | (k_extra "mycall") | (k_extra "mystep") | (k_extra "no for"; k_extra "head")))
  ((with_reducible rename Fr _ _ _ _ => F9); (with_reducible rename News _ _ _ _ => N9))
  ((repeat' (first | k_unfold | dsimp only)))
  rw [show ((refs ts).toArray.size : Int) = es.length by simp [refs, hlen9]]
  exact ret _ _ _ (ext_ms (fun q hq => (hms q hq).1) G' F9 N9 (fun q hq => .inl hq))
theorem wC65 : True := by (k_with "mycall" => ((with_reducible show wpAny _ _ (call (Value.ref 148) [_] _) _ _ _); k_dflt ( (refine' c_lenM ?xz9 ?tz9 rfl ?ez9 ?rz9 (Tab.again TB G' ?Fz9 ?Nz9 ?m1z9 ?m2z9) (by omega) ?_; (case xz9 => k_asm); (case tz9 => k_asm); (case Fz9 => k_asm); (case Nz9 => k_asm); (case m1z9 => k_mem); (case m2z9 => k_mem); (case ez9 => exact Fr.keep (by k_asm)); (case rz9 => k_extra "room"); intro t9 h' tk' e'; (have F' := Mine.Fr.ext (by k_asm) e'); (have N' := Mine.News.ext (by k_asm) e'); clear e'; k_sweep)))); exact True.intro
theorem c_hintT {w : World} {loose : List Str} {mean : ExcName → Option Value} {mg mb : Str → Option Value} {ht : Heap} (X : (Mine.hd.heap_1 w.params).In ht) (T : Top Mine.hd.view_1 loose mean mg mb ht) {A : Around} (hA : A.handled = none) {s : Shared} (ek : ht.StaysIn s.heap) {Q E : Value → Shared → Prop} {P : Tok → Prop} (hroom : A.depth + 2 < recursionLimit) {tb d hl : Addr} {ol : Obj} {nl : Nat} {ts : List Addr} {es : List (Str × Str)} (TB : Tab P ht s.heap tb d hl ol nl ts es) (hsz : es.length < 100)
    (ret : ∀ t h' tk', Ext [] s.heap h' → Q (.int (es.length : Int) t) { s with heap := h', toks := tk' }) :
    wpAny (model PySem.Challenge.rw_ti0061_01.prog w) A (call (.ref 95) [.ref tb] []) Q E s := by
  ((revert X; k_fill; intro X; obtain ⟨hh, dp, fr, gd, un⟩ := A; cases hA; (dsimp only at hroom)))
  obtain ⟨hk, kt, dn, hms⟩ := Tab.ms TB.toTabI
  (( refine' callM [(tb, instObj 242 d), (d, dictOf [⟨hk, .str (Str.ofString "_headers") kt, .ref hl⟩] dn)] ?k1 ?k2 ?k3 ?k4 ?k6 ?k7 ?k8 ?k9 ?kB ?_ ?c5 ?c2 ?c3 ?c4; (case k4 => exact hms); ((case k1 => assumption); (case k2 => assumption); (case k3 => assumption); (case k6 => k_is); (case k7 => k_is); (case k8 => ((try simp only [depth_under_make, depth_under_kw, depth_in1, depth_deeper]); (try dsimp only); omega)); (case k9 => first | exact BindsTo.of_eq rfl | exact binds_K (Frag.In.keeps (by assumption) (by assumption)) rfl (by k_is) rfl rfl rfl); (case kB => exact locs rfl); (case c5 => decide); (case c2 => exact rfl); (case c3 => exact rfl); (case c4 => exact rfl)); intro g' L' h' F' N' X' T' G' st' l'; (try dsimp only); (try k_fold)))
  (repeat' (first | (k_unfold; (try dsimp only)) | (k_extra "mycall") | (k_extra "mystep") | (k_extra "no for"; k_extra "head")))
  dsimp only [W.LenBack]
  refine ⟨⟨by omega, by omega⟩, ?_⟩
  (repeat' (first | (k_unfold; (try dsimp only)) | (k_extra "mycall") | (k_extra "mystep") | (k_extra "no for"; k_extra "head")))
  ((with_reducible rename Fr _ _ _ _ => F9); (with_reducible rename News _ _ _ _ => N9))
  ((repeat' (first | k_unfold | dsimp only)))
  exact ret _ _ _ (ext_ms (fun q hq => (hms q hq).1) G' F9 N9 (fun q hq => .inl hq))
theorem c_hintL {w : World} {loose : List Str} {mean : ExcName → Option Value} {mg mb : Str → Option Value} {ht : Heap} (X : (Mine.hd.heap_1 w.params).In ht) (T : Top Mine.hd.view_1 loose mean mg mb ht) {A : Around} (hA : A.handled = none) {s : Shared} (ek : ht.StaysIn s.heap) {Q E : Value → Shared → Prop} (hroom : A.depth + 2 < recursionLimit) {l : Addr} {vs : List Value} (hl9 : s.heap.IsList l vs.toArray) (hsz : vs.length < 100)
    (ret : ∀ t h' tk', Ext [] s.heap h' → Q (.int (vs.length : Int) t) { s with heap := h', toks := tk' }) :
    wpAny (model PySem.Challenge.rw_ti0061_01.prog w) A (call (.ref 95) [.ref l] []) Q E s := by
  ((revert X; k_fill; intro X; obtain ⟨hh, dp, fr, gd, un⟩ := A; cases hA; (dsimp only at hroom)))
  refine' callM [] ?k1 ?k2 ?k3 ?k4 ?k6 ?k7 ?k8 ?k9 ?kB ?_ ?c5 ?c2 ?c3 ?c4
  (case k4 => ((intro q h9; exact nomatch h9)))
  ((case k1 => assumption); (case k2 => assumption); (case k3 => assumption); (case k6 => k_is); (case k7 => k_is); (case k8 => ((try simp only [depth_under_make, depth_under_kw, depth_in1, depth_deeper]); (try dsimp only); omega)); (case k9 => first | exact BindsTo.of_eq rfl | exact binds_K (Frag.In.keeps (by assumption) (by assumption)) rfl (by k_is) rfl rfl rfl); (case kB => exact locs rfl); (case c5 => decide); (case c2 => exact rfl); (case c3 => exact rfl); (case c4 => exact rfl))
  intro g' L' h' F' N' X' T' G' st' l'
  (try dsimp only); (try k_fold)
  have hl8 : g'.IsList l vs.toArray := hl9.at fun o e => G' _ _ e (by simp)
  (repeat' (first | (k_unfold; (try dsimp only)) | (k_extra "mycall") | (k_extra "mystep") | (k_extra "no for"; k_extra "head")))
  ((with_reducible rename Fr _ _ _ _ => F9); (with_reducible rename News _ _ _ _ => N9))
  ((repeat' (first | k_unfold | dsimp only)))
  rw [List.size_toArray]
  exact ret _ _ _ (ext_of G' F9)

section
variable {prog : Program} {w : World} {A : Around} {h₀ : Heap} {L : Addr} {m : Str → Option Value} {env : Env} {ct elt : Expr} {x x₂ : Str} {scope : Scope} {cl : List (Str × Addr)} {s : Shared} {S : List (Addr × Obj) → Prop} {P : Nat → Value → Prop} {Fin : List Value → List (Addr × Obj) → Prop}
theorem compT {n : Nat} (V : Nat → List Value → List (Addr × Obj) → Prop) {news : List (Addr × Obj)} (start : V 0 [] news)
    (turn : ∀ i v ys nw I oI C oC D m₂ h tk (E' : Value → Shared → Prop), i < n → P i v → V i ys nw → LCg.NsObj oC m₂ → m₂ x = some v → Fr h₀ L h m → News h₀ L h ((I, oI) :: (C, oC) :: (D, LCg.lst ys) :: nw) → LCg.Off3 I C D nw → ((@Ne Nat I C) ∧ (@Ne Nat I D) ∧ (@Ne Nat C D)) →
      wpAny (model prog w) A (isTrue ct (compEnvC scope cl C env) (eval ct (compEnvC scope cl C env))) (fun ok s' => if ok = true then
        wpAny (model prog w) A (eval elt (compEnvC scope cl C env)) (LCg.CompEnd h₀ L m { s with heap := h, toks := tk } I oI C oC D (LCg.lst ys) S (fun y nw' => V (i + 1) (ys ++ [y]) nw')) E' s'
        else LCg.CompEnd h₀ L m { s with heap := h, toks := tk } I oI C oC D (LCg.lst ys) S (fun _ nw' => V (i + 1) ys nw') Value.none s') E' { s with heap := h, toks := tk })
    (done : ∀ ys nw, V n ys nw → Fin ys nw) : LCt.CompRestT prog w A h₀ L m env ct elt x scope cl s S P Fin n 0 [] news := by
  have key : ∀ (j i : Nat) (ys : List Value) (nw : List (Addr × Obj)), i + j = n → V i ys nw → LCt.CompRestT prog w A h₀ L m env ct elt x scope cl s S P Fin j i ys nw := by
    intro j
    induction j with
    | zero => intro i ys nw hi hV; obtain rfl : i = n := by omega
              exact LCt.CompRestT.zero (done _ _ hV)
    | succ j ih =>
      intro i ys nw hi hV
      refine LCt.CompRestT.succ fun v I oI C oC D m₂ h tk E' hv hC hx F N off ne => ?_
      refine wpAny_mono (turn i v ys nw I oI C oC D m₂ h tk E' (by omega) hv hV hC hx F N off ne) (fun ok s₂ hq => ?_) fun _ _ e => e
      cases ok with
      | true =>
        simp only [if_true] at hq ⊢
        refine wpAny_mono hq (fun y s₃ hr => ?_) fun _ _ e => e
        refine absG fun G9 hG9 => ?_
        obtain ⟨h', tk', nw', e, F', N', off', hS, hV'⟩ := hr
        refine hG9 ?_; clear hG9
        exact ⟨h', tk', nw', e, F', N', off', hS, ih (i + 1) _ _ (by omega) hV'⟩
      | false =>
        simp only [Bool.false_eq_true, if_false] at hq ⊢
        refine absG fun G9 hG9 => ?_
        obtain ⟨h', tk', nw', e, F', N', off', hS, hV'⟩ := hq
        refine hG9 ?_; clear hG9
        exact ⟨h', tk', nw', e, F', N', off', hS, ih (i + 1) _ _ (by omega) hV'⟩
  exact key n 0 [] news (by omega) start

end

section
variable {prog : Program} {w : World} {A : Around} {E : Value → Shared → Prop} {s : Shared}
theorem sliceBounds_all (n : Nat) : sliceBounds none none none n = (0, (n : Int), 1) := by simp [sliceBounds]
theorem setItem_all {l sl v : Addr} {its new : Array Value} {n : Nat} {ov : Obj} {Q : Unit → Shared → Prop} (ho : s.heap.get? l = some (listOf its n))
    (hs : s.heap.IsSliceOf sl .none .none .none) (hov : s.heap.get? v = some ov) (hvc : ov.cls = .type "list") {nv : Nat} (hvd : ov.data = .seq new nv) (hne : l ≠ v) (hsz : its.size + new.size ≤ sizeLine)
    (h : ∀ h' n', h'.get? l = some (listOf new n') → Heap.SameBut l s.heap h' → Q () { s with heap := h' }) :
    wpAny (model prog w) A (setItem (.ref l) (.ref sl) (.ref v)) Q E s := by
  have hl : s.heap.IsList l its := ⟨_, ho, rfl, _, rfl⟩
  obtain ⟨os, hos, hcs, hds⟩ := id hs
  have hTs : s.TypeIs (.ref sl) "slice" := ⟨os, hos, hcs⟩
  have hTv : s.TypeIs (.ref v) "list" := ⟨ov, hov, hvc⟩
  unfold setItem
  try with_reducible refine wpAny_holding ?_
  first | refine wpAny_bind (wpAny_pure ?_) | skip
  refine wpAny_bind (wpAny_sequenceKey hl.typeIs (by decide) ?_)
  refine wpAny_bind (wpAny_callSpecial?_slot (name := Str.ofString "__setitem__") hl.typeIs slot_list_setitem
    (wpAny_call_entry slot_list_setitem hl.typeIs entry_list_setitem ?_ (args_list_setitem _ _ _)))
  show wpAny _ _ (Builtin.List.listSubscript? (.ref sl) >>= _) _ _ s
  refine wpAny_bind ?_
  unfold Builtin.List.listSubscript?
  refine wpAny_bind (wpAny_specialOf hTs slice_no_index ?_)
  simp only [Option.isNone_none, if_true]
  refine wpAny_pure ?_
  show wpAny _ _ (typeOf (.ref sl) >>= _) _ _ s
  refine wpAny_bind (wpAny_typeOf hTs ?_)
  rw [if_neg (by decide)]
  rw [listSliceParts_eq]
  refine wpAny_bind (wpAny_bind (wpAny_field hos hds (x := .none) rfl (wpAny_bind (wpAny_listPart .none ?_))))
  rw [if_neg (show ¬ ((rawPart none == rawInt 0) = true) from Bool.false_ne_true)]
  refine wpAny_bind (wpAny_field hos hds (x := .none) rfl (wpAny_bind (wpAny_listPart .none ?_)))
  refine wpAny_bind (wpAny_field hos hds (x := .none) rfl (wpAny_bind (wpAny_listPart .none (wpAny_pure ?_))))
  rw [if_neg (show ¬ (Builtin.List.listSameRef (.ref l) (.ref v) = true) by simpa [Builtin.List.listSameRef] using hne)]
  refine wpAny_bind (m := Builtin.List.listAllItems (.ref v) _) ?_
  unfold Builtin.List.listAllItems
  refine wpAny_bind (wpAny_typeOf hTv ?_)
  rw [if_pos (by rfl)]
  unfold Builtin.List.listItems
  refine wpAny_bind (wpAny_seqItems hov hvd (wpAny_pure ?_))
  refine wpAny_bind ?_
  refine wpAny_bind (wpAny_seqItems ho rfl (wpAny_pure ?_))
  refine wpAny_bind (wpAny_of_eq (sliceIndices_raw none none none its.size (by simp)) ?_)
  rw [sliceBounds_all]
  dsimp only
  rw [if_pos (by rfl)]
  refine wpAny_bind (wpAny_rule ?_)
  rw [if_neg (by simp only [Builtin.List.listTooLong]; simpa using hsz)]
  have hf : (its.extract 0 (0 : Int).toNat ++ new ++ its.extract (max (0 : Int) (its.size : Int)).toNat its.size) = new := by
    have : (max (0 : Int) (its.size : Int)).toNat = its.size := by omega
    rw [this]; simp
  refine wpAny_bind ?_
  show wpAny _ _ (updateSeq l (fun xs => xs.extract 0 (0 : Int).toNat ++ new ++ xs.extract (max (0 : Int) (its.size : Int)).toNat xs.size)) _ _ s
  refine wpAny_updateSeq ho rfl ?_ (by omega) (by show (its.extract 0 (0 : Int).toNat ++ new ++ its.extract (max (0 : Int) (its.size : Int)).toNat its.size).size ≤ _; rw [hf]; omega)
  have g1 : ∀ (Y : Array Value) (m : Nat), Y = new → ({ cls := .type "list", data := .seq Y m } : Obj) = listOf new m := by rintro Y m rfl; rfl
  have he : ∃ m, Obj.mapSeq (fun xs => xs.extract 0 (0 : Int).toNat ++ new ++ xs.extract (max (0 : Int) (its.size : Int)).toNat xs.size) (listOf its n) = listOf new m := ⟨_, g1 _ _ hf⟩
  obtain ⟨m, he⟩ := he
  refine wpAny_bind (wpAny_letGo ?_)
  refine wpAny_pure ⟨.none, rfl, wpAny_pure (h _ m ?_ (Heap.SameBut.update ..))⟩
  rw [Heap.get?_update_self _ ho (by rw [he]; rfl), he]
end

theorem runs_toks {M : Model} {Γ : Ctx} {p : Pos} {t : Sem Fin} {fs : List Frame} {s s' : Shared} {e : End} (h : Runs M Γ p t fs s e s') : s.toks ≤ s'.toks := by
  induction h with
  | done | raise | yield => exact Nat.le_refl _
  | call _ _ i j => exact Nat.le_trans i j
  | callSusp _ i => exact i
  | fresh _ i => exact Nat.le_trans (Nat.le_succ _) i
  | again _ _ i | rule _ i | «at» _ i | load _ _ i | update _ _ i | loadIfAlive _ i | point _ i | alloc _ i | ask _ i | choose _ _ i | os _ i | handled _ i | genState _ _ i | stack _ i | thread _ i | newGen _ i => exact i
  | resumeFresh _ _ _ _ i j => exact Nat.le_trans (show _ ≤ _ from i) j
  | resumeSuspended _ _ _ _ i j => exact Nat.le_trans (show _ ≤ _ from i) j
  | resumeJustStarted _ _ _ i => exact i
  | resumeThrowFresh _ _ i => exact i
  | resumeRunning _ _ i => exact i
  | resumeFinished _ _ i => exact i
  | segRet _ _ i j => exact Nat.le_trans i j
  | segGen _ _ i j => exact Nat.le_trans i (show _ ≤ _ from j)
  | segSuspOut _ _ i => exact i
  | segSuspGen _ _ _ _ i j => exact Nat.le_trans i (show _ ≤ _ from j)
theorem wakes_toks {M : Model} {Γ : Ctx} {p : Pos} {g : Nat} {r : Resume} {s s' : Shared} {res : GenResult} (h : Wakes M Γ p g r s res s') : s.toks ≤ s'.toks := by
  unfold Wakes at h
  split at h
  · exact h.elim
  · split at h
    · obtain ⟨e₁, s₁, hr, _, _, rfl⟩ := h; exact (runs_toks hr : _)
    · rw [h.2]; exact Nat.le_refl _
    · rw [h.2]; exact Nat.le_refl _
  · obtain ⟨e₁, s₁, hr, _, _, rfl⟩ := h; exact (runs_toks hr : _)
  all_goals (rw [h.2]; exact Nat.le_refl _)
theorem wp_toks {α : Type} {M : Model} {Γ : Ctx} {n : Nat} {Q : α → Pos → Shared → Prop} {E : Value → Pos → Shared → Prop} (m : Sem α) : ∀ (p : Pos) (s : Shared), n ≤ s.toks →
    Sem.wp M Γ m (fun a p' s' => n ≤ s'.toks → Q a p' s') E p s → Sem.wp M Γ m Q E p s := by
  induction m with
  | pure a => intro p s hn h; exact h hn
  | raise | unsupported | finish | register | yield | fork | await => intro p s _ h; exact h
  | rule _ k ih | «at» _ k ih | loadIfAlive _ k ih | point _ k ih | ask k ih | handled _ k ih | stack k ih | thread k ih | alloc _ k ih | os _ _ k ih | newGen _ k ih => intro p s hn h; exact ih _ _ _ hn h
  | fresh k ih => intro p s hn h; exact ih _ _ _ (Nat.le_succ_of_le hn) h
  | load _ _ k ih => intro p s hn ⟨o, e, h⟩; exact ⟨o, e, ih _ _ _ hn h⟩
  | update _ _ _ k ih => intro p s hn ⟨e, h⟩; exact ⟨e, ih _ _ _ hn h⟩
  | choose _ _ k ih => intro p s hn ⟨e, h⟩; exact ⟨e, ih _ _ _ hn h⟩
  | genState _ k ih => intro p s hn ⟨o, e, h⟩; exact ⟨o, e, ih _ _ _ hn h⟩
  | call _ _ _ _ k ih => intro p s hn ⟨r, s', hr, h⟩; exact ⟨r, s', hr, ih _ _ _ (Nat.le_trans hn (runs_toks hr)) h⟩
  | resume _ _ _ k ih => intro p s hn ⟨r, s', hr, h⟩; exact ⟨r, s', hr, ih _ _ _ (Nat.le_trans hn (wakes_toks hr)) h⟩
theorem wpAny_toks {α : Type} {M : Model} {A : Around} {m : Sem α} {Q : α → Shared → Prop} {E : Value → Shared → Prop} {s : Shared} (h : wpAny M A m (fun a s' => s.toks ≤ s'.toks → Q a s') E s) : wpAny M A m Q E s :=
  fun Γ p hΓ => wp_toks m p s (Nat.le_refl _) (h Γ p hΓ)

section
variable {prog : Program} {w : World} {A : Around} {s : Shared} {g : Heap} {L : Addr} {m : Str → Option Value} {R : Result → Shared → Prop}
noncomputable def OffC (ca : List Addr) (nw : List (Addr × Obj)) : Prop := ∀ p ∈ nw, p.1 ∉ ca
inductive EndM (g : Heap) (L : Addr) (m : Str → Option Value) (s : Shared) (own : List (Addr × Obj)) (ca : List Addr) (V : Nat → Value → List (Addr × Obj) → Prop) (y : Value) (s₂ : Shared) : Prop
  | in1 (h' : Heap)
    (tk' : Nat)
    (nw' : List (Addr × Obj))
    (h0 : s₂ = { s with heap := h', toks := tk' }) (h1 : Fr g L h' m) (h2 : News g L h' (own ++ nw')) (h3 : OffC ca nw') (h4 : V tk' y nw') : EndM g L m s own ca V y s₂
inductive EndX (g : Heap) (L : Addr) (m : Str → Option Value) (s : Shared) (CF : List (Addr × Obj) → Prop) (cf : List Addr) (own : List (Addr × Obj)) (ca : List Addr) (V : Nat → Value → List (Addr × Obj) → Prop) (y : Value) (s₂ : Shared) : Prop
  | in1 (fr : List (Addr × Obj))
    (h' : Heap)
    (tk' : Nat)
    (nw' : List (Addr × Obj))
    (h0 : CF fr) (h1 : fr.map (·.1) = cf) (h2 : s₂ = { s with heap := h', toks := tk' }) (h3 : Fr g L h' m) (h4 : News g L h' (own ++ (fr ++ nw'))) (h5 : OffC ca nw') (h6 : V tk' y nw') : EndX g L m s CF cf own ca V y s₂
theorem EndM.toX {s : Shared} {CF : List (Addr × Obj) → Prop} {cf : List Addr} {own fr : List (Addr × Obj)} {ca : List Addr} {V : Nat → Value → List (Addr × Obj) → Prop} {y : Value} {s₂ : Shared} (h : EndM g L m s (own ++ fr) ca V y s₂) (hf : CF fr) (hc : fr.map (·.1) = cf) : EndX g L m s CF cf own ca V y s₂ :=
  let ⟨h', tk', nw', e, F, N, o, v⟩ := h; ⟨fr, h', tk', nw', hf, hc, e, F, by rw [← List.append_assoc]; exact N, o, v⟩
noncomputable def AsgM (prog : Program) (w : World) (A : Around) (s : Shared) (g : Heap) (target : Expr) (cenv : Env) (ca : List Addr) (CF : List (Addr × Obj) → Prop) (CV : Value → List (Addr × Obj) → Prop) (v : Value) : Prop :=
  ∀ (h : Heap) (tk : Nat) (fr : List (Addr × Obj)) (Q : Unit → Shared → Prop) (E : Value → Shared → Prop), CF fr → fr.map (·.1) = ca → (∀ p ∈ fr, h.get? p.1 = some p.2) → (∀ b o, g.get? b = some o → h.get? b = some o) →
    (∀ h' tk' fr', CV v fr' → fr'.map (·.1) = ca → (∀ p ∈ fr', h'.get? p.1 = some p.2) → (∀ b o, b ∉ ca → h.get? b = some o → h'.get? b = some o) → Q () { s with heap := h', toks := tk' }) →
    wpAny (model prog w) A (assign target cenv v) Q E { s with heap := h, toks := tk }
noncomputable def TestM (prog : Program) (w : World) (A : Around) (cenv : Env) (ifs : List Expr) (Q : Bool → Shared → Prop) (E : Value → Shared → Prop) (s : Shared) : Prop :=
  match ifs with
  | [] => Q true s
  | [c] => wpAny (model prog w) A (isTrue c cenv (eval c cenv)) Q E s
  | _ => False
theorem TestM.mono {cenv : Env} {ifs : List Expr} {Q Q' : Bool → Shared → Prop} {E : Value → Shared → Prop} {s : Shared} (h : TestM prog w A cenv ifs Q E s) (k : ∀ b s', Q b s' → Q' b s') : TestM prog w A cenv ifs Q' E s := by
  match ifs, h with
  | [], h => exact k _ _ h
  | [c], h => exact wpAny_mono h k fun _ _ e => e
  | _ :: _ :: _, h => exact h.elim
theorem EndX.swap {s : Shared} {CF : List (Addr × Obj) → Prop} {cf : List Addr} {own : List (Addr × Obj)} {ca : List Addr} {V : Nat → Value → List (Addr × Obj) → Prop} {y : Value} {s₂ : Shared} (hp : Heap) (t : Nat) (h : EndX g L m s CF cf own ca V y s₂) : EndX g L m { s with heap := hp, toks := t } CF cf own ca V y s₂ :=
  let ⟨fr, h', tk', nw', a, b, e, F, N, o, v⟩ := h; ⟨fr, h', tk', nw', a, b, e, F, N, o, v⟩
theorem TestM.swap {cenv : Env} {elt : Expr} {ifs : List Expr} {s s₀ : Shared} {CF : List (Addr × Obj) → Prop} {cf : List Addr} {own : List (Addr × Obj)} {ca : List Addr} {V V' : Nat → Value → List (Addr × Obj) → Prop} {E' : Value → Shared → Prop} (hp : Heap) (t : Nat)
    (h : TestM prog w A cenv ifs (fun ok s' => if ok = true then wpAny (model prog w) A (eval elt cenv) (EndX g L m s CF cf own ca V) E' s' else EndX g L m s CF cf own ca V' Value.none s') E' s₀) :
    TestM prog w A cenv ifs (fun ok s' => if ok = true then wpAny (model prog w) A (eval elt cenv) (EndX g L m { s with heap := hp, toks := t } CF cf own ca V) E' s' else EndX g L m { s with heap := hp, toks := t } CF cf own ca V' Value.none s') E' s₀ :=
  h.mono fun b s' q => by
    cases b with
    | true => rw [if_pos rfl] at q ⊢; exact wpAny_mono q (fun y s₅ q => q.swap _ _) fun _ _ e => e
    | false => rw [if_neg (by decide)] at q ⊢; exact q.swap _ _
theorem TestM.wp {cenv : Env} {ifs : List Expr} {Q : Bool → Shared → Prop} {E : Value → Shared → Prop} {s : Shared} (h : TestM prog w A cenv ifs Q E s) :
    wpAny (model prog w) A (forIn ifs true fun c r => if r = true then do let ok ← isTrue c cenv (eval c cenv); pure (ForInStep.yield ok) else pure (ForInStep.yield r)) Q E s := by
  match ifs, h with
  | [], h => exact wpAny_tests_nil h
  | [c], h => exact wpAny_tests_one h
  | _ :: _ :: _, h => exact h.elim
theorem compTurns {elt target iter : Expr} {ifs : List Expr} {scope : Scope} {pos : Pos} {it acc : Value} {env : Env} (I : Nat → Shared → Prop)
    (turn : ∀ n s (E : Value → Shared → Prop), I n s → wpAny (model prog w) A (pyNext it) (fun r s₁ => match r with
      | none => R (.ok .next) s₁
      | some v => wpAny (model prog w) A (letOwnedTupleGo target it v) (fun _ s₁ => wpAny (model prog w) A (assign target env v) (fun _ s₂ =>
          TestM prog w A env ifs (fun ok s₃ =>
            if ok = true then wpAny (model prog w) A (eval elt env) (fun x s₄ =>
              wpAny (model prog w) A (call (.builtin "list.append") [acc, x]) (fun _ s₅ => ∃ m, m < n ∧ I m s₅) E s₄) E s₃
            else ∃ m, m < n ∧ I m s₃) E s₂) E s₁) E s₁) E s)
    (n : Nat) (h : I n s) :
    codeAny (model prog w) A (.compLoop (.ListComp elt [⟨target, iter, ifs, 0⟩] scope pos) 0 it acc env) R s := by
  refine codeAny_loop rfl I (fun n s hI => ?_) n h
  show wpAny _ A ((compTurn (.ListComp elt [⟨target, iter, ifs, 0⟩] scope pos) 0 it acc env).onRaise (fun x => do noteFrame x env; theTreesLotGoes x)) _ _ s
  refine wpAny_noted ?_
  rw [compTurn_list]
  refine wpAny_bind (wpAny_standAt (wpAny_bind (wpAny_mono (turn n s _ hI) (fun r s₁ h₁ => ?_) fun _ _ h' => h')))
  cases r with
  | none => exact wpAny_pure h₁
  | some v =>
    refine wpAny_bind (wpAny_mono h₁ (fun _ s₂ h₂ => ?_) fun _ _ h' => h')
    refine wpAny_bind (wpAny_mono h₂ (fun _ s₂ h₂ => wpAny_bind (wpAny_mono (TestM.wp h₂) (fun ok s₃ h₃ => ?_) fun _ _ h' => h')) fun _ _ h' => h')
    cases ok with
    | false => exact wpAny_pure ⟨rfl, by simpa using h₃⟩
    | true =>
      simp only [if_true] at h₃
      exact wpAny_bind (wpAny_bind (wpAny_mono h₃ (fun x s₄ h₄ => wpAny_bind (wpAny_mono h₄ (fun _ s₅ h₅ => wpAny_pure (wpAny_pure ⟨rfl, h₅⟩)) fun _ _ h' => h')) fun _ _ h' => h'))
theorem mem_map_fst {fr : List (Addr × Obj)} {p : Addr × Obj} (h : p ∈ fr) : p.1 ∈ fr.map (·.1) := List.mem_map.mpr ⟨p, h, rfl⟩
theorem compLoopM {elt target iter : Expr} {ifs : List Expr} {scope : Scope} {pos : Pos} {I D : Addr} {fp : List Addr} {n : Nat} {P : Nat → Value → Prop} {St : Nat → Heap → Prop} {cenv : Env} {ca : List Addr} {CF : List (Addr × Obj) → Prop} {CV : Value → List (Addr × Obj) → Prop}
    (W : Walks prog w A I fp [I] n P St) {cn : String} (hIo : ∀ i h, St i h → ∃ o, h.get? I = some o ∧ o.cls = .type cn)
    (hcn : ["enumerate", "zip", "dict_itemiterator", "dict_reverseitemiterator", "odict_iterator", "itertools.zip_longest", "itertools.pairwise"].contains cn = false) (hn : n ≤ sizeLine)
    (V : Nat → Nat → List Value → List (Addr × Obj) → Prop) {fr₀ nw₀ : List (Addr × Obj)} (hst : St 0 s.heap) (hV : V 0 s.toks [] nw₀) (hCF : CF fr₀) (hca : fr₀.map (·.1) = ca)
    (F : Fr g L s.heap m) (N : News g L s.heap ((D, LCg.lst []) :: (fr₀ ++ nw₀))) (off : OffC (I :: D :: ca) nw₀) (hI : g.get? I = none) (hIL : I ≠ L) (hID : I ≠ D) (hIca : I ∉ ca) (hDca : D ∉ ca)
    (hfp : ∀ b ∈ fp, b ≠ I → (∃ o, g.get? b = some o) ∨ ∃ o, ∀ i tk ys nw, V i tk ys nw → (b, o) ∈ nw) (hCV : ∀ v fr, CV v fr → CF fr)
    (asg : ∀ i v, i < n → P i v → AsgM prog w A s g target cenv ca CF CV v)
    (turn : ∀ i v tk₀ tk ys nw oI h fr (E' : Value → Shared → Prop), i < n → P i v → oI.cls = .type cn → V i tk₀ ys nw → tk₀ ≤ tk → CV v fr → fr.map (·.1) = ca → Fr g L h m → News g L h ((I, oI) :: (D, LCg.lst ys) :: (fr ++ nw)) → OffC (I :: D :: ca) nw →
      TestM prog w A cenv ifs (fun ok s' => if ok = true then wpAny (model prog w) A (eval elt cenv) (EndX g L m s CF ca [(I, oI), (D, LCg.lst ys)] (I :: D :: ca) (fun tk' y nw' => V (i + 1) tk' (ys ++ [y]) nw')) E' s'
        else EndX g L m s CF ca [(I, oI), (D, LCg.lst ys)] (I :: D :: ca) (fun tk' _ nw' => V (i + 1) tk' ys nw') Value.none s') E' { s with heap := h, toks := tk })
    (done : ∀ tk₀ tk ys nw h fr, V n tk₀ ys nw → tk₀ ≤ tk → CF fr → fr.map (·.1) = ca → Fr g L h m → News g L h ((D, LCg.lst ys) :: (fr ++ nw)) → OffC (I :: D :: ca) nw → R (.ok .next) { s with heap := h, toks := tk })
    (hlen : ∀ i tk ys nw, V i tk ys nw → ys.length ≤ i) :
    codeAny (model prog w) A (.compLoop (.ListComp elt [⟨target, iter, ifs, 0⟩] scope pos) 0 (.ref I) (.ref D) cenv) R s := by
  refine compTurns
    (fun k s' => Ex7 fun h' tk₀ tk i ys fr nw => Cj10 (s' = { s with heap := h', toks := tk }) (i ≤ n) (k = n + 1 - i) (St i h') (V i tk₀ ys nw) (tk₀ ≤ tk) (CF fr) (fr.map (·.1) = ca) (Fr g L h' m) (Cj2 (News g L h' ((D, LCg.lst ys) :: (fr ++ nw))) (OffC (I :: D :: ca) nw))) ?_ (n + 1)
    ⟨s.heap, _, _, 0, [], fr₀, nw₀, rfl, Nat.zero_le _, rfl, hst, hV, Nat.le_refl _, hCF, hca, F, N, off⟩
  rintro k s' E' ⟨h₀, tk₀, tk, i, ys, fr, nw, rfl, hi, rfl, hst', hV', htk, hCF', hca', F', N', off'⟩
  have caNe : ∀ p ∈ fr, p.1 ≠ I := fun p hp q => hIca (q ▸ hca' ▸ mem_map_fst hp)
  have offI : ∀ p ∈ (D, LCg.lst ys) :: (fr ++ nw), p.1 ≠ I := fun p hp => by
    rcases List.mem_cons.mp hp with rfl | hp
    · exact Ne.symm hID
    · rcases List.mem_append.mp hp with hp | hp
      · exact caNe p hp
      · exact fun q => off' p hp (q ▸ List.mem_cons_self)
  by_cases hlt : i < n
  · refine wpAny_toks (W.item i _ _ _ hlt hst' fun v h₁ tk₁ hP hst₁ hk₁ htk₁ => ?_)
    have htk₁' : tk ≤ tk₁ := htk₁
    have F₁ : Fr g L h₁ m := LCg.fr_but F' hk₁ (Ne.symm hIL) hI
    have N₁ := LCg.news_but N' hk₁ offI
    obtain ⟨oI, heI, hcI⟩ := hIo _ _ hst₁
    refine goOwned heI hcI hcn ?_
    refine wpAny_toks (asg i v hlt hP h₁ tk₁ fr _ _ hCF' hca' (fun p hp => (N₁ p (List.mem_cons_of_mem _ (List.mem_append_left _ hp))).1) F₁.keep fun h₂ tk₂ fr₂ hCV₂ hca₂ hfr₂ hk₂ htk₂ => ?_)
    have htk₂' : tk₁ ≤ tk₂ := htk₂
    have caL : L ∉ ca := fun q => by
      obtain ⟨p, hp, e⟩ := List.mem_map.mp (hca' ▸ q)
      exact (N₁ p (List.mem_cons_of_mem _ (List.mem_append_left _ hp))).2.1 e
    have ca0 : ∀ b ∈ ca, b ≠ L ∧ g.get? b = none := fun b hb => by
      obtain ⟨p, hp, rfl⟩ := List.mem_map.mp (hca' ▸ hb)
      exact (N₁ p (List.mem_cons_of_mem _ (List.mem_append_left _ hp))).2
    have F₂ : Fr g L h₂ m := ⟨F₁.ns.at' fun o e => hk₂ _ o caL e, fun b o e => hk₂ b o (fun q => by rw [(ca0 b q).2] at e; cases e) (F₁.keep b o e), F₁.above⟩
    have nwca : ∀ p ∈ nw, p.1 ∉ ca := fun p hp q => off' p hp (List.mem_cons_of_mem _ (List.mem_cons_of_mem _ q))
    have N₂ : News g L h₂ ((I, oI) :: (D, LCg.lst ys) :: (fr₂ ++ nw)) := fun p hp => by
      rcases List.mem_cons.mp hp with rfl | hp
      · exact ⟨hk₂ _ _ hIca heI, hIL, hI⟩
      rcases List.mem_cons.mp hp with rfl | hp
      · have z := N₁ _ List.mem_cons_self
        exact ⟨hk₂ _ _ hDca z.1, z.2⟩
      rcases List.mem_append.mp hp with hp | hp
      · exact ⟨hfr₂ p hp, ca0 _ (hca₂ ▸ mem_map_fst hp)⟩
      · have z := N₁ p (List.mem_cons_of_mem _ (List.mem_append_right _ hp))
        exact ⟨hk₂ _ _ (nwca p hp) z.1, z.2⟩
    have fpOk : ∀ b ∈ fp, b ≠ I → ∀ (i' : Nat) (tk' : Nat) (ys' : List Value) (nw' : List (Addr × Obj)), V i' tk' ys' nw' → ∀ h' o, Fr g L h' m → (∀ p ∈ nw', h'.get? p.1 = some p.2) → h₁.get? b = some o → h'.get? b = some o := fun b hb hbI i' tk' ys' nw' hv h' o F' hn' e => by
      rcases hfp b hb hbI with ⟨o₀, h0⟩ | ⟨o₀, h0⟩
      · have := F₁.keep b o₀ h0; rw [e] at this; cases this
        exact F'.keep b _ h0
      · have := (N₁ _ (List.mem_cons_of_mem _ (List.mem_append_right _ (h0 _ _ _ _ hV')))).1; rw [e] at this; cases this
        exact hn' _ (h0 _ _ _ _ hv)
    have ends : ∀ (ys' : List Value) (fr₃ : List (Addr × Obj)) (h₃ : Heap) (tk₃ : Nat) (nw₃ : List (Addr × Obj)), CF fr₃ → fr₃.map (·.1) = ca → ys'.length ≤ i + 1 → Fr g L h₃ m → News g L h₃ ((I, oI) :: (D, LCg.lst ys') :: (fr₃ ++ nw₃)) → OffC (I :: D :: ca) nw₃ → V (i + 1) tk₃ ys' nw₃ →
        ∃ k, k < n + 1 - i ∧ Ex7 fun h' tk₀ tk i ys fr nw => Cj10 (({ s with heap := h₃, toks := tk₃ } : Shared) = { s with heap := h', toks := tk }) (i ≤ n) (k = n + 1 - i) (St i h') (V i tk₀ ys nw) (tk₀ ≤ tk) (CF fr) (fr.map (·.1) = ca) (Fr g L h' m) (Cj2 (News g L h' ((D, LCg.lst ys) :: (fr ++ nw))) (OffC (I :: D :: ca) nw)) := fun ys' fr₃ h₃ tk₃ nw₃ hCF₃ hca₃ _ F₃ N₃ off₃ hV₃ => by
      refine ⟨n + 1 - (i + 1), by omega, h₃, tk₃, tk₃, i + 1, ys', fr₃, nw₃, rfl, hlt, rfl, ?_, hV₃, Nat.le_refl _, hCF₃, hca₃, F₃, fun p hp => N₃ p (List.mem_cons_of_mem _ hp), off₃⟩
      refine W.frame _ _ _ hst₁ fun b hb o e => ?_
      by_cases hbI : b = I
      · subst hbI; rw [heI] at e; cases e; exact (N₃ _ List.mem_cons_self).1
      · exact fpOk b hb hbI _ _ _ _ hV₃ h₃ o F₃ (fun p hp => (N₃ p (List.mem_cons_of_mem _ (List.mem_cons_of_mem _ (List.mem_append_right _ hp)))).1) e
    have go : ∀ E', TestM prog w A cenv ifs (fun ok s' => if ok = true then wpAny (model prog w) A (eval elt cenv) (fun x s₄ =>
              wpAny (model prog w) A (call (.builtin "list.append") [.ref D, x]) (fun _ s₅ => ∃ k, k < n + 1 - i ∧ Ex7 fun h' tk₀ tk i ys fr nw => Cj10 (s₅ = { s with heap := h', toks := tk }) (i ≤ n) (k = n + 1 - i) (St i h') (V i tk₀ ys nw) (tk₀ ≤ tk) (CF fr) (fr.map (·.1) = ca) (Fr g L h' m) (Cj2 (News g L h' ((D, LCg.lst ys) :: (fr ++ nw))) (OffC (I :: D :: ca) nw))) E' s₄) E' s'
            else ∃ k, k < n + 1 - i ∧ Ex7 fun h' tk₀ tk i ys fr nw => Cj10 (s' = { s with heap := h', toks := tk }) (i ≤ n) (k = n + 1 - i) (St i h') (V i tk₀ ys nw) (tk₀ ≤ tk) (CF fr) (fr.map (·.1) = ca) (Fr g L h' m) (Cj2 (News g L h' ((D, LCg.lst ys) :: (fr ++ nw))) (OffC (I :: D :: ca) nw))) E' { s with heap := h₂, toks := tk₂ } := fun E' => by
      have t := turn i v tk₀ tk₂ ys nw oI h₂ fr₂ E' hlt hP hcI hV' (Nat.le_trans htk (Nat.le_trans htk₁' htk₂')) hCV₂ hca₂ F₂ N₂ off'
      have yes : ∀ s', wpAny (model prog w) A (eval elt cenv) (EndX g L m s CF ca [(I, oI), (D, LCg.lst ys)] (I :: D :: ca) (fun tk' y nw' => V (i + 1) tk' (ys ++ [y]) nw')) E' s' → wpAny (model prog w) A (eval elt cenv) (fun x s₄ =>
              wpAny (model prog w) A (call (.builtin "list.append") [.ref D, x]) (fun _ s₅ => ∃ k, k < n + 1 - i ∧ Ex7 fun h' tk₀ tk i ys fr nw => Cj10 (s₅ = { s with heap := h', toks := tk }) (i ≤ n) (k = n + 1 - i) (St i h') (V i tk₀ ys nw) (tk₀ ≤ tk) (CF fr) (fr.map (·.1) = ca) (Fr g L h' m) (Cj2 (News g L h' ((D, LCg.lst ys) :: (fr ++ nw))) (OffC (I :: D :: ca) nw))) E' s₄) E' s' := fun s' hq => by
        refine wpAny_mono hq (fun y s₄ h₄ => ?_) fun _ _ e => e
        obtain ⟨fr₃, h₃, tk₃, nw₃, hCF₃, hca₃, rfl, F₃, N₃, off₃, hV₃⟩ := h₄
        have hl := hlen _ _ _ _ hV₃
        have zD := (N₃ (D, LCg.lst ys) (List.mem_cons_of_mem _ List.mem_cons_self))
        have hl' := hlen _ _ _ _ hV'
        refine append_at (hsz := by rw [List.size_toArray]; omega) zD.1 fun h₄ hs₄ hD₄ => ?_
        refine ends (ys ++ [y]) fr₃ h₄ tk₃ nw₃ hCF₃ hca₃ hl (F₃.change hs₄ zD.2.1 zD.2.2) (fun p hp => ?_) off₃ hV₃
        rcases List.mem_cons.mp hp with rfl | hp
        · have z := N₃ _ List.mem_cons_self
          exact ⟨hs₄.extBut _ _ hID z.1, z.2⟩
        rcases List.mem_cons.mp hp with rfl | hp
        · exact ⟨hD₄.trans (congrArg some (LCg.lst_snoc ys y)), zD.2⟩
        have z := N₃ p (List.mem_cons_of_mem _ (List.mem_cons_of_mem _ hp))
        refine ⟨hs₄.extBut _ _ (fun q => ?_) z.1, z.2⟩
        rcases List.mem_append.mp hp with hp | hp
        · exact hDca (q ▸ hca₃ ▸ mem_map_fst hp)
        · exact off₃ p hp (q ▸ List.mem_cons_of_mem _ List.mem_cons_self)
      have no : ∀ s', EndX g L m s CF ca [(I, oI), (D, LCg.lst ys)] (I :: D :: ca) (fun tk' _ nw' => V (i + 1) tk' ys nw') Value.none s' → ∃ k, k < n + 1 - i ∧ Ex7 fun h' tk₀ tk i ys fr nw => Cj10 (s' = { s with heap := h', toks := tk }) (i ≤ n) (k = n + 1 - i) (St i h') (V i tk₀ ys nw) (tk₀ ≤ tk) (CF fr) (fr.map (·.1) = ca) (Fr g L h' m) (Cj2 (News g L h' ((D, LCg.lst ys) :: (fr ++ nw))) (OffC (I :: D :: ca) nw)) := fun s' hq => by
        obtain ⟨fr₃, h₃, tk₃, nw₃, hCF₃, hca₃, rfl, F₃, N₃, off₃, hV₃⟩ := hq
        exact ends ys fr₃ h₃ tk₃ nw₃ hCF₃ hca₃ (Nat.le_succ_of_le (hlen _ _ _ _ hV')) F₃ N₃ off₃ hV₃
      match ifs, t with
      | [], t => exact yes _ (by simpa [TestM] using t)
      | [c], t =>
        refine wpAny_mono t (fun ok s' hq => ?_) fun _ _ e => e
        cases ok with
        | true => exact yes _ (by simpa using hq)
        | false => exact no _ (by simpa using hq)
      | _ :: _ :: _, t => exact t.elim
    exact go _
  · obtain rfl : i = n := Nat.le_antisymm hi (Nat.not_lt.mp hlt)
    refine wpAny_toks (W.done _ _ _ hst' fun h₁ tk₁ hk₁ htk₁ => ?_)
    exact done tk₀ tk₁ ys nw h₁ fr hV' (Nat.le_trans htk htk₁) hCF' hca' (LCg.fr_but F' hk₁ (Ne.symm hIL) hI) (LCg.news_but N' hk₁ offI) off'
end

section
variable {prog : Program} {w : World} {A : Around} {s : Shared} {env : Env} {elt target iter : Expr} {ifs : List Expr} {scope : Scope} {cl : List (Str × Addr)} {pos : Pos}
noncomputable def AsgN (prog : Program) (w : World) (A : Around) (s : Shared) (g : Heap) (target : Expr) (scope : Scope) (cl : List (Str × Addr)) (env : Env) (KV : Value → (Str → Option Value) → Prop) (v : Value) : Prop :=
  ∀ (C : Addr) (h : Heap) (tk : Nat) (m' : Str → Option Value) (Q : Unit → Shared → Prop) (E : Value → Shared → Prop), h.Ns C m' → (∀ b o, g.get? b = some o → h.get? b = some o) →
    (∀ h' tk' m'', h'.Ns C m'' → KV v m'' → (∀ b o, b ≠ C → h.get? b = some o → h'.get? b = some o) → Q () { s with heap := h', toks := tk' }) →
    wpAny (model prog w) A (assign target (compEnvC scope cl C env) v) Q E { s with heap := h, toks := tk }
theorem asgName {g : Heap} {x : Str} {px : Pos} (hkind : scope.kind = .function) (hx : scope.names.lookup x = some .local) (v : Value) : AsgN prog w A s g (.Name x px) scope cl env (fun v m => m x = some v) v := fun C h tk m' Q E hn _ hQ =>
  wpAny_assign_Name (wpAny_storeName_local (lookup_relabel_local hx) hn (fun h₃ hn₃ hs₃ => hQ h₃ _ _ hn₃ (by simp) fun b o hb e => hs₃.extBut b o hb e) (by simp [compEnvC, relabel, hkind]))
theorem asgPair {g : Heap} {x y : Str} {px py pt : Pos} {xx} (hh : A.handled = none) (hkind : scope.kind = .function) (hx : scope.names.lookup x = some .local) (hy : scope.names.lookup y = some .local) (hxy : x ≠ y) {t : Addr} {v₁ v₂ : Value} (ht : g.IsTuple t #[v₁, v₂]) :
    AsgN prog w A s g (.Tuple [.Name x px, .Name y py] xx pt) scope cl env (fun v m => v = .ref t → m x = some v₁ ∧ m y = some v₂) (.ref t) := fun C h tk m' Q E hn hk hQ => by
  have ht' : h.IsTuple t #[v₁, v₂] := let ⟨o, e, r⟩ := ht; ⟨o, hk _ _ e, r⟩
  refine assign_Tuple_tuple hh ht' rfl rfl fun h₅ he => ?_
  have he' : ∀ b o, h.get? b = some o → h₅.get? b = some o := fun b o e => he b o (Nat.ne_of_lt (Heap.lt_size e)) e
  refine assignInOrder_cons (wpAny_assign_Name (wpAny_storeName_local (lookup_relabel_local hx) (hn.at' fun o e => he' _ o e) (fun h₆ hn₆ hs₆ => ?_) (by simp [compEnvC, relabel, hkind])))
  refine assignInOrder_cons (wpAny_assign_Name (wpAny_storeName_local (lookup_relabel_local hy) hn₆ (fun h₃ hn₃ hs₃ => ?_) (by simp [compEnvC, relabel, hkind])))
  refine assignInOrder_nil ?_
  exact hQ h₃ _ _ hn₃ (fun _ => ⟨by simp [hxy], by simp⟩) fun b o hb e => hs₃.extBut b o hb (hs₆.extBut b o hb (he' b o e))
theorem TestM.nil {cenv : Env} {E : Value → Shared → Prop} {R q : Shared → Prop} (h : q s) : TestM prog w A cenv [] (fun ok s' => if ok = true then q s' else R s') E s := by show (if true = true then q s else R s); rw [if_pos rfl]; exact h
theorem TestM.one {cenv : Env} {c : Expr} {Q : Bool → Shared → Prop} {E : Value → Shared → Prop} (h : wpAny (model prog w) A (isTrue c cenv (eval c cenv)) Q E s) : TestM prog w A cenv [c] Q E s := h
noncomputable def TurnsM (prog : Program) (w : World) (A : Around) (g : Heap) (m : Str → Option Value) (env : Env) (elt : Expr) (ifs : List Expr) (scope : Scope) (cl : List (Str × Addr)) (KV : Value → (Str → Option Value) → Prop) (n : Nat) (P : Nat → Value → Prop) (V : Nat → Nat → List Value → List (Addr × Obj) → Prop) (s : Shared) : Prop :=
  ∀ i v tk₀ tk ys nw I oI D C oC m₂ h (E' : Value → Shared → Prop), i < n → P i v → V i tk₀ ys nw → tk₀ ≤ tk → LCg.NsObj oC m₂ → KV v m₂ → Fr g env.locals h m → News g env.locals h ((I, oI) :: (D, LCg.lst ys) :: (C, oC) :: nw) → OffC [I, D, C] nw → ((@Ne Nat I C) ∧ (@Ne Nat I D) ∧ (@Ne Nat C D)) →
    TestM prog w A (compEnvC scope cl C env) ifs (fun ok s' => if ok = true then wpAny (model prog w) A (eval elt (compEnvC scope cl C env)) (EndM g env.locals m s [(I, oI), (D, LCg.lst ys), (C, oC)] [I, D, C] (fun tk' y nw' => V (i + 1) tk' (ys ++ [y]) nw')) E' s'
      else EndM g env.locals m s [(I, oI), (D, LCg.lst ys), (C, oC)] [I, D, C] (fun tk' _ nw' => V (i + 1) tk' ys nw') Value.none s') E' { s with heap := h, toks := tk }
noncomputable def NF (C : Addr) (fr : List (Addr × Obj)) : Prop := ∃ oC m', fr = [(C, oC)] ∧ LCg.NsObj oC m'
noncomputable def TurnsE (prog : Program) (w : World) (A : Around) (g : Heap) (m : Str → Option Value) (env : Env) (elt : Expr) (ifs : List Expr) (scope : Scope) (cl : List (Str × Addr)) (KV : Value → (Str → Option Value) → Prop) (n : Nat) (P : Nat → Value → Prop) (V : Nat → Nat → List Value → List (Addr × Obj) → Prop) (s : Shared) : Prop :=
  ∀ i v tk₀ tk ys nw I oI D C oC m₂ h (E' : Value → Shared → Prop), i < n → P i v → V i tk₀ ys nw → tk₀ ≤ tk → LCg.NsObj oC m₂ → KV v m₂ → Fr g env.locals h m → News g env.locals h ((I, oI) :: (D, LCg.lst ys) :: (C, oC) :: nw) → OffC [I, D, C] nw → ((@Ne Nat I C) ∧ (@Ne Nat I D) ∧ (@Ne Nat C D) ∧ (@LT.lt Nat _ env.locals C) ∧ oI.cls ≠ .type "tuple") →
    TestM prog w A (compEnvC scope cl C env) ifs (fun ok s' => if ok = true then wpAny (model prog w) A (eval elt (compEnvC scope cl C env)) (EndX g env.locals m s (NF C) [C] [(I, oI), (D, LCg.lst ys)] [I, D, C] (fun tk' y nw' => V (i + 1) tk' (ys ++ [y]) nw')) E' s'
      else EndX g env.locals m s (NF C) [C] [(I, oI), (D, LCg.lst ys)] [I, D, C] (fun tk' _ nw' => V (i + 1) tk' ys nw') Value.none s') E' { s with heap := h, toks := tk }
theorem TurnsM.toE {g : Heap} {m : Str → Option Value} {KV : Value → (Str → Option Value) → Prop} {n : Nat} {P : Nat → Value → Prop} {V : Nat → Nat → List Value → List (Addr × Obj) → Prop} (t : TurnsM prog w A g m env elt ifs scope cl KV n P V s) : TurnsE prog w A g m env elt ifs scope cl KV n P V s := by
  intro i v tk₀ tk ys nw I oI D C oC m₂ h E' h1 h2 h3 h4 h5 h6 h7 h8 h9 h10
  refine (t i v tk₀ tk ys nw I oI D C oC m₂ h E' h1 h2 h3 h4 h5 h6 h7 h8 h9 ⟨h10.1, h10.2.1, h10.2.2.1⟩).mono fun b s' q => ?_
  have toX : ∀ (V' : Nat → Value → List (Addr × Obj) → Prop) y s₅, EndM g env.locals m s [(I, oI), (D, LCg.lst ys), (C, oC)] [I, D, C] V' y s₅ → EndX g env.locals m s (NF C) [C] [(I, oI), (D, LCg.lst ys)] [I, D, C] V' y s₅ := fun V' y s₅ q => EndM.toX (own := [(I, oI), (D, LCg.lst ys)]) (fr := [(C, oC)]) q ⟨_, _, rfl, h5⟩ rfl
  cases b with
  | true => rw [if_pos rfl] at q ⊢; exact wpAny_mono q (fun y s₅ q => toX _ y s₅ q) fun _ _ e => e
  | false => rw [if_neg (by decide)] at q ⊢; exact toX _ _ _ q
theorem blockM {g : Heap} {m : Str → Option Value} {s₂ : Shared} {I : Addr} {fp : List Addr} {n : Nat} {P : Nat → Value → Prop} {St : Nat → Heap → Prop} {KV : Value → (Str → Option Value) → Prop} {E : Value → Shared → Prop} {RR : Value → Addr → Result → Shared → Prop} {nw₀ : List (Addr × Obj)}
    (W : Walks prog w A I fp [I] n P St) {cn : String} (hIo : ∀ i h, St i h → ∃ o, h.get? I = some o ∧ o.cls = .type cn)
    (hcn : ["enumerate", "zip", "dict_itemiterator", "dict_reverseitemiterator", "odict_iterator", "itertools.zip_longest", "itertools.pairwise"].contains cn = false) (hct : cn ≠ "tuple") (hn : n ≤ sizeLine)
    (hcell : ∀ y ∈ scope.names, y.2 ≠ .cell) (hkind : scope.kind = .function) (V : Nat → Nat → List Value → List (Addr × Obj) → Prop) (hst : St 0 s₂.heap) (hV : ∀ tk, s₂.toks ≤ tk → V 0 tk [] nw₀)
    (F : Fr g env.locals s₂.heap m) (N : News g env.locals s₂.heap nw₀) (hI : g.get? I = none) (hIL : I ≠ env.locals) (off : ∀ p ∈ nw₀, p.1 ≠ I)
    (hfp : ∀ b ∈ fp, b ≠ I → (∃ o, g.get? b = some o) ∨ ∃ o, ∀ i tk ys nw, V i tk ys nw → (b, o) ∈ nw)
    (asg : ∀ i v, i < n → P i v → AsgN prog w A s₂ g target scope cl env KV v)
    (turn : TurnsE prog w A g m env elt ifs scope cl KV n P V s₂)
    (hRR : ∀ D C h tk₀ tk m' ys nw, V n tk₀ ys nw → tk₀ ≤ tk → Fr g env.locals h m → News g env.locals h ((D, LCg.lst ys) :: nw) → OffC [D] nw → h.Ns C m' → g.get? C = none → C ≠ env.locals → C ≠ D → (∀ p ∈ nw, p.1 ≠ C) → RR (.ref D) C (.ok .next) { s₂ with heap := h, toks := tk })
    (hlen : ∀ i tk ys nw, V i tk ys nw → ys.length ≤ i) :
    wpAny (model prog w) A (newList []) (fun acc s₃ => wpAny (model prog w) A (newFunctionEnv scope env.globals cl [] env.qual none .none (some env)) (fun cenv s₄ =>
      codeAny (model prog w) A (.compStart (.ListComp elt [⟨target, iter, ifs, 0⟩] scope pos) 0 (.ref I) acc { cenv with scope := relabel scope env }) (RR acc cenv.locals) s₄) E s₃) E s₂ := by
  refine wpAny_newObj_type (wpAny_newFunctionEnv hcell (by intro y hy; simp at hy) (fun h₁ hns₁ hsb₁ => ?_) hkind)
  dsimp only at hns₁ hsb₁ ⊢
  generalize hH2 : s₂.heap.push { cls := .type "list", dict := none, data := .seq ([] : List Value).toArray } = H2 at hns₁ hsb₁ ⊢
  have hC : H2.objs.size = s₂.heap.objs.size + 1 := by rw [← hH2, Heap.size_push]
  have below : ∀ b, b < s₂.heap.objs.size → b ≠ H2.objs.size ∧ b ≠ s₂.heap.objs.size := fun b hb => ⟨by rw [hC]; exact Nat.ne_of_lt (Nat.lt_succ_of_lt hb), Nat.ne_of_lt hb⟩
  have hDC : s₂.heap.objs.size ≠ H2.objs.size := by rw [hC]; exact Nat.ne_of_lt (Nat.lt_succ_self _)
  have old : ∀ b o, s₂.heap.get? b = some o → h₁.get? b = some o := fun b o e => hsb₁.extBut b o (below b (Heap.lt_size e)).1 (Heap.get?_push_of_some _ (hH2 ▸ Heap.get?_push_of_some _ e))
  have hacc : h₁.get? s₂.heap.objs.size = some (LCg.lst []) := hsb₁.extBut _ _ hDC (Heap.get?_push_of_some _ (hH2 ▸ Heap.get?_push_size _ rfl))
  have hst₁ : St 0 h₁ := W.frame _ _ _ hst fun b _ o e => old b o e
  have fresh₀ : ∀ a, s₂.heap.objs.size ≤ a → g.get? a = none := fun a ha => by
    cases e : g.get? a with
    | none => rfl
    | some o' => exact absurd (Heap.lt_size (F.keep a o' e)) (Nat.not_lt.mpr ha)
  have hD₀ : g.get? s₂.heap.objs.size = none := fresh₀ _ (Nat.le_refl _)
  have hC₀ : g.get? H2.objs.size = none := fresh₀ _ (by rw [hC]; exact Nat.le_succ _)
  have hLlt : env.locals < s₂.heap.objs.size := F.ns.lt
  have hDL : s₂.heap.objs.size ≠ env.locals := Ne.symm (below _ hLlt).2
  have hCL : H2.objs.size ≠ env.locals := Ne.symm (below _ hLlt).1
  obtain ⟨oI₀, heI₀, _⟩ := hIo _ _ hst
  have hIlt : I < s₂.heap.objs.size := Heap.lt_size heI₀
  have offCa : OffC [I, s₂.heap.objs.size, H2.objs.size] nw₀ := fun p hp q => by
    have z := below _ (Heap.lt_size (N p hp).1)
    rcases List.mem_cons.mp q with q | q
    · exact off p hp q
    rcases List.mem_cons.mp q with q | q
    · exact z.2 q
    · exact z.1 (List.mem_singleton.mp q)
  obtain ⟨oC₀, heC₀, hoC₀⟩ := LCg.ns_obj hns₁
  have F₁ := F.keeps old
  have N₁ : News g env.locals h₁ ((s₂.heap.objs.size, LCg.lst []) :: ([(H2.objs.size, oC₀)] ++ nw₀)) := (fa_cons (⟨hacc, hDL, hD₀⟩) (fa_cons (⟨heC₀, hCL, hC₀⟩) (fun p hp => ⟨old _ _ (N p hp).1, (N p hp).2⟩)))
  have loop : ∀ s₃ : Shared, s₃ = { s₂ with heap := h₁, toks := s₂.toks + ([] : List (Str × Value)).length } →
      codeAny (model prog w) A (.compLoop (.ListComp elt [⟨target, iter, ifs, 0⟩] scope pos) 0 (.ref I) (.ref s₂.heap.objs.size) (compEnvC scope cl H2.objs.size env))
        (RR (.ref s₂.heap.objs.size) H2.objs.size) s₃ := by
    rintro s₃ rfl
    refine compLoopM (ca := [H2.objs.size]) (CF := NF H2.objs.size) (CV := fun v fr => ∃ oC m', fr = [(H2.objs.size, oC)] ∧ LCg.NsObj oC m' ∧ KV v m')
      W hIo hcn hn V hst₁ (hV _ (Nat.le_refl _)) ⟨oC₀, _, rfl, hoC₀⟩ rfl F₁ N₁ offCa hI hIL (Nat.ne_of_lt hIlt) (fun q => (below I hIlt).1 (List.mem_singleton.mp q)) (fun q => hDC (List.mem_singleton.mp q)) hfp
      (fun v fr ⟨oC, m', e, hN, _⟩ => ⟨oC, m', e, hN⟩) ?_ ?_ ?_ hlen
    · rintro i v hi hP h tk fr Q E ⟨oC, m', rfl, hN⟩ _ hfr hk hQ
      refine asg i v hi hP _ h tk m' Q E (hN.ns (hfr _ List.mem_cons_self)) hk fun h' tk' m'' hn'' hKV hk' => ?_
      obtain ⟨oC'', heC'', hoC''⟩ := LCg.ns_obj hn''
      exact hQ h' tk' [(_, oC'')] ⟨_, _, rfl, hoC'', hKV⟩ rfl (fun p hp => by rw [List.mem_singleton.mp hp]; exact heC'') fun b o hb e => hk' b o (fun q => hb (q ▸ List.mem_singleton.mpr rfl)) e
    · rintro i v tk₀ tk ys nw oI h fr E' hi hP hcI hV' htk ⟨oC, m', rfl, hN, hKV⟩ _ F' N' off'
      exact TestM.swap _ _ (turn i v tk₀ tk ys nw I oI _ _ oC m' h E' hi hP hV' htk hN hKV F' N' off' ⟨(below I hIlt).1, (below I hIlt).2, Ne.symm hDC, by rw [hC]; exact Nat.lt_succ_of_lt hLlt, fun q => hct (by rw [hcI] at q; cases q; rfl)⟩)
    · rintro tk₀ tk ys nw h fr hV' htk ⟨oC, m', rfl, hN⟩ _ F' N' off'
      refine hRR _ _ h tk₀ tk m' ys nw hV' htk F' (fun p hp => N' p ?_) (fun p hp q => off' p hp (List.mem_cons_of_mem _ (List.mem_singleton.mp q ▸ List.mem_cons_self))) (hN.ns (N' _ (List.mem_cons_of_mem _ List.mem_cons_self)).1) hC₀ hCL (Ne.symm hDC) (fun p hp q => off' p hp (q ▸ List.mem_cons_of_mem _ (List.mem_cons_of_mem _ List.mem_cons_self)))
      rcases List.mem_cons.mp hp with rfl | hp
      · exact List.mem_cons_self
      · exact List.mem_cons_of_mem _ (List.mem_cons_of_mem _ hp)
  exact codeAny_compStart_list (loop _ rfl) (W.self 0 _ _ _ hst₁ (loop _ rfl))

inductive CompL (prog : Program) (w : World) (A : Around) (g : Heap) (m : Str → Option Value) (env : Env) (target elt : Expr) (ifs : List Expr) (scope : Scope) (cl : List (Str × Addr)) (mf : Addr → Str → Option Value) (Q : Value → Shared → Prop) (xv : Value) (s₁ : Shared) : Prop
  | in1 (l : Addr)
    (vs : List Value)
    (nw₀ : List (Addr × Obj))
    (ol : Obj)
    (nl : Nat)
    (KV : Value → (Str → Option Value) → Prop)
    (V : Nat → Nat → List Value → List (Addr × Obj) → Prop)
    (h0 : xv = .ref l) (h1 : A.handled = none) (h2 : Fr g env.locals s₁.heap m) (h3 : News g env.locals s₁.heap nw₀) (h4 : ol.cls = .type "list") (h5 : ol.data = .seq vs.toArray nl) (h6 : (g.get? l = some ol ∨ ((l, ol) ∈ nw₀ ∧ ∀ i tk ys nw, V i tk ys nw → (l, ol) ∈ nw))) (h7 : vs.length ≤ sizeLine) (h8 : (∀ i tk ys nw, V i tk ys nw → ys.length ≤ i)) (h9 : (∀ tk, s₁.toks ≤ tk → V 0 tk [] nw₀)) (h10 : (∀ s₂ : Shared, (∃ h, s₂ = { s₁ with heap := h }) → (∀ (i : Nat) (v : Value), vs[i]? = some v → AsgN prog w A s₂ g target scope cl env KV v) ∧ TurnsM prog w A g m env elt ifs scope cl KV vs.length (fun (i : Nat) (v : Value) => vs[i]? = some v) V s₂)) (h11 : (∀ D tk₀ tk ys nw h, V vs.length tk₀ ys nw → tk₀ ≤ tk → Fr g env.locals h (mf D) → News g env.locals h ((D, LCg.lst ys) :: nw) → OffC [D] nw → Q (.ref D) { s₁ with heap := h, toks := tk })) : CompL prog w A g m env target elt ifs scope cl mf Q xv s₁
inductive CompR (prog : Program) (w : World) (A : Around) (g : Heap) (m : Str → Option Value) (env : Env) (target elt : Expr) (ifs : List Expr) (scope : Scope) (cl : List (Str × Addr)) (mf : Addr → Str → Option Value) (Q : Value → Shared → Prop) (xv : Value) (s₁ : Shared) : Prop
  | in1 (r : Addr)
    (a b : Int)
    (t u v : Tok)
    (n : Nat)
    (nw₀ : List (Addr × Obj))
    (KV : Value → (Str → Option Value) → Prop)
    (V : Nat → Nat → List Value → List (Addr × Obj) → Prop)
    (h0 : xv = .ref r) (h1 : A.handled = none) (h2 : Fr g env.locals s₁.heap m) (h3 : News g env.locals s₁.heap nw₀) (h4 : IsRange s₁.heap r a b 1 t u v) (h5 : Builtin.Range.small a b 1 = true) (h6 : Builtin.Range.rangeSize a b 1 = (n : Int)) (h7 : n ≤ sizeLine) (h8 : (∀ i tk ys nw, V i tk ys nw → ys.length ≤ i)) (h9 : (∀ tk, s₁.toks ≤ tk → V 0 tk [] nw₀)) (h10 : (∀ s₂ : Shared, (∃ h, s₂ = { s₁ with heap := h }) → (∀ i t, i < n → AsgN prog w A s₂ g target scope cl env KV (.int (a + (i : Int)) t)) ∧ TurnsM prog w A g m env elt ifs scope cl KV n (fun i v => ∃ t, v = .int (a + (i : Int)) t) V s₂)) (h11 : (∀ D tk₀ tk ys nw h, V n tk₀ ys nw → tk₀ ≤ tk → Fr g env.locals h (mf D) → News g env.locals h ((D, LCg.lst ys) :: nw) → OffC [D] nw → Q (.ref D) { s₁ with heap := h, toks := tk })) : CompR prog w A g m env target elt ifs scope cl mf Q xv s₁
inductive CompLE (prog : Program) (w : World) (A : Around) (g : Heap) (m : Str → Option Value) (env : Env) (target elt : Expr) (ifs : List Expr) (scope : Scope) (cl : List (Str × Addr)) (mf : Addr → Str → Option Value) (Q : Value → Shared → Prop) (xv : Value) (s₁ : Shared) : Prop
  | in1 (l : Addr)
    (vs : List Value)
    (nw₀ : List (Addr × Obj))
    (ol : Obj)
    (nl : Nat)
    (KV : Value → (Str → Option Value) → Prop)
    (V : Nat → Nat → List Value → List (Addr × Obj) → Prop)
    (h0 : xv = .ref l) (h1 : A.handled = none) (h2 : Fr g env.locals s₁.heap m) (h3 : News g env.locals s₁.heap nw₀) (h4 : ol.cls = .type "list") (h5 : ol.data = .seq vs.toArray nl) (h6 : (g.get? l = some ol ∨ ((l, ol) ∈ nw₀ ∧ ∀ i tk ys nw, V i tk ys nw → (l, ol) ∈ nw))) (h7 : vs.length ≤ sizeLine) (h8 : (∀ i tk ys nw, V i tk ys nw → ys.length ≤ i)) (h9 : (∀ tk, s₁.toks ≤ tk → V 0 tk [] nw₀)) (h10 : (∀ s₂ : Shared, (∃ h, s₂ = { s₁ with heap := h }) → (∀ (i : Nat) (v : Value), vs[i]? = some v → AsgN prog w A s₂ g target scope cl env KV v) ∧ TurnsE prog w A g m env elt ifs scope cl KV vs.length (fun (i : Nat) (v : Value) => vs[i]? = some v) V s₂)) (h11 : (∀ D tk₀ tk ys nw h, V vs.length tk₀ ys nw → tk₀ ≤ tk → Fr g env.locals h (mf D) → News g env.locals h ((D, LCg.lst ys) :: nw) → OffC [D] nw → Q (.ref D) { s₁ with heap := h, toks := tk })) : CompLE prog w A g m env target elt ifs scope cl mf Q xv s₁
inductive CompRE (prog : Program) (w : World) (A : Around) (g : Heap) (m : Str → Option Value) (env : Env) (target elt : Expr) (ifs : List Expr) (scope : Scope) (cl : List (Str × Addr)) (mf : Addr → Str → Option Value) (Q : Value → Shared → Prop) (xv : Value) (s₁ : Shared) : Prop
  | in1 (r : Addr)
    (a b : Int)
    (t u v : Tok)
    (n : Nat)
    (nw₀ : List (Addr × Obj))
    (KV : Value → (Str → Option Value) → Prop)
    (V : Nat → Nat → List Value → List (Addr × Obj) → Prop)
    (h0 : xv = .ref r) (h1 : A.handled = none) (h2 : Fr g env.locals s₁.heap m) (h3 : News g env.locals s₁.heap nw₀) (h4 : IsRange s₁.heap r a b 1 t u v) (h5 : Builtin.Range.small a b 1 = true) (h6 : Builtin.Range.rangeSize a b 1 = (n : Int)) (h7 : n ≤ sizeLine) (h8 : (∀ i tk ys nw, V i tk ys nw → ys.length ≤ i)) (h9 : (∀ tk, s₁.toks ≤ tk → V 0 tk [] nw₀)) (h10 : (∀ s₂ : Shared, (∃ h, s₂ = { s₁ with heap := h }) → (∀ i t, i < n → AsgN prog w A s₂ g target scope cl env KV (.int (a + (i : Int)) t)) ∧ TurnsE prog w A g m env elt ifs scope cl KV n (fun i v => ∃ t, v = .int (a + (i : Int)) t) V s₂)) (h11 : (∀ D tk₀ tk ys nw h, V n tk₀ ys nw → tk₀ ≤ tk → Fr g env.locals h (mf D) → News g env.locals h ((D, LCg.lst ys) :: nw) → OffC [D] nw → Q (.ref D) { s₁ with heap := h, toks := tk })) : CompRE prog w A g m env target elt ifs scope cl mf Q xv s₁
theorem comp_list {g : Heap} {m : Str → Option Value} {mf : Addr → Str → Option Value} {s₁ : Shared} {E : Value → Shared → Prop} {Q : Value → Shared → Prop} {RR : Value → Addr → Result → Shared → Prop} {xv : Value} (hcell : ∀ y ∈ scope.names, y.2 ≠ .cell) (hkind : scope.kind = .function)
    (h : CompLE prog w A g m env target elt ifs scope cl mf Q xv s₁)
    (hRR : ∀ D C h tk₁ m' nw, Fr g env.locals h m → News g env.locals h nw → h.Ns C m' → g.get? C = none → C ≠ env.locals → (∀ p ∈ nw, p.1 ≠ C) → (∀ h' tk, tk₁ ≤ tk → Fr g env.locals h' (mf D) → News g env.locals h' nw → Q (.ref D) { s₁ with heap := h', toks := tk }) → RR (.ref D) C (.ok .next) { s₁ with heap := h, toks := tk₁ }) :
    wpAny (model prog w) A (pyIter xv) (fun it s₂ => wpAny (model prog w) A (newList []) (fun acc s₃ => wpAny (model prog w) A (newFunctionEnv scope env.globals cl [] env.qual none .none (some env)) (fun cenv s₄ =>
      codeAny (model prog w) A (.compStart (.ListComp elt [⟨target, iter, ifs, 0⟩] scope pos) 0 it acc { cenv with scope := relabel scope env }) (RR acc cenv.locals) s₄) E s₃) E s₂) E s₁ := by
  obtain ⟨l, vs, nw₀, ol, nl, KV, V, rfl, hh, F, N, hc, hd, hsrc, hsz, hlen, hV, turns, done⟩ := h
  have hol : s₁.heap.get? l = some ol := hsrc.elim (fun e => F.keep _ _ e) fun e => (N _ e.1).1
  have hl : s₁.heap.IsList l vs.toArray := ⟨ol, hol, hc, nl, hd⟩
  have hlt : l < s₁.heap.objs.size := Heap.lt_size hol
  refine wpAny_pyIter_list hl ?_
  have up : ∀ b o, s₁.heap.get? b = some o → (s₁.heap.push { cls := .type "list_iterator", data := .fields #[.ref l, .int 0 0] }).get? b = some o := fun b o e => Heap.get?_push_of_some _ e
  have W := Walks.list (prog := prog) (w := w) hh s₁.heap.objs.size l (Nat.ne_of_lt hlt) vs.toArray
  obtain ⟨asg, turn⟩ := turns { s₁ with heap := s₁.heap.push { cls := .type "list_iterator", data := .fields #[.ref l, .int 0 0] } } ⟨_, rfl⟩
  have hlen' : vs.toArray.size = vs.length := by simp
  rw [hlen'] at W
  refine blockM (n := vs.length) (cn := "list_iterator") (nw₀ := nw₀) W (fun i h st => by obtain ⟨o, e, c, _⟩ := st.1; exact ⟨o, e, c⟩) (by decide) (by decide) hsz hcell hkind V ⟨⟨_, Heap.get?_push_size _ rfl, rfl, rfl⟩, hl.push _⟩ hV (F.keeps up) (N.grown up) (next_is_new F) (Ne.symm (Nat.ne_of_lt F.ns.lt)) (fun p hp => Nat.ne_of_lt (Heap.lt_size (N p hp).1)) (fun b hb hbI => ?_)
    (fun i v hi hP => asg i v (by simpa using hP)) (fun i v tk₀ tk ys nw I oI D C oC m₂ h E' hi hP => turn i v tk₀ tk ys nw I oI D C oC m₂ h E' hi (by simpa using hP)) ?_ hlen
  · rcases List.mem_cons.mp hb with e | hb
    · exact absurd e hbI
    · rw [List.mem_singleton.mp hb]
      exact hsrc.imp (fun e => ⟨ol, e⟩) fun e => ⟨ol, e.2⟩
  · intro D C h tk₀ tk m' ys nw hV' htk F' N' off' hn hC₀ hCL hCD offC
    exact hRR D C h tk m' _ F' N' hn hC₀ hCL (fun p hp => by rcases List.mem_cons.mp hp with rfl | hp; exact Ne.symm hCD; exact offC p hp) fun h'' tk'' htk'' F'' N'' => done D tk₀ tk'' ys nw h'' hV' (Nat.le_trans htk htk'') F'' N'' off'
theorem comp_range {g : Heap} {m : Str → Option Value} {mf : Addr → Str → Option Value} {s₁ : Shared} {E : Value → Shared → Prop} {Q : Value → Shared → Prop} {RR : Value → Addr → Result → Shared → Prop} {xv : Value} (hcell : ∀ y ∈ scope.names, y.2 ≠ .cell) (hkind : scope.kind = .function)
    (h : CompRE prog w A g m env target elt ifs scope cl mf Q xv s₁)
    (hRR : ∀ D C h tk₁ m' nw, Fr g env.locals h m → News g env.locals h nw → h.Ns C m' → g.get? C = none → C ≠ env.locals → (∀ p ∈ nw, p.1 ≠ C) → (∀ h' tk, tk₁ ≤ tk → Fr g env.locals h' (mf D) → News g env.locals h' nw → Q (.ref D) { s₁ with heap := h', toks := tk }) → RR (.ref D) C (.ok .next) { s₁ with heap := h, toks := tk₁ }) :
    wpAny (model prog w) A (pyIter xv) (fun it s₂ => wpAny (model prog w) A (newList []) (fun acc s₃ => wpAny (model prog w) A (newFunctionEnv scope env.globals cl [] env.qual none .none (some env)) (fun cenv s₄ =>
      codeAny (model prog w) A (.compStart (.ListComp elt [⟨target, iter, ifs, 0⟩] scope pos) 0 it acc { cenv with scope := relabel scope env }) (RR acc cenv.locals) s₄) E s₃) E s₂) E s₁ := by
  obtain ⟨r, a, b, t, u, v, n, nw₀, KV, V, rfl, hh, F, N, hr, hsm, hn, hsz, hlen, hV, turns, done⟩ := h
  refine wpAny_pyIter_range hr hsm ?_
  obtain ⟨asg, turn⟩ := turns { s₁ with heap := s₁.heap.push { cls := .type "range_iterator", data := .fields #[rawInt a, rawInt (Builtin.Range.rangeSize a b 1), rawInt 1] } } ⟨_, rfl⟩
  have up : ∀ c o, s₁.heap.get? c = some o → (s₁.heap.push { cls := .type "range_iterator", data := .fields #[rawInt a, rawInt (Builtin.Range.rangeSize a b 1), rawInt 1] }).get? c = some o := fun c o e => Heap.get?_push_of_some _ e
  refine blockM (cn := "range_iterator") (nw₀ := nw₀) (LCg.range_walks hh a n) (fun i h st => ⟨_, st, rfl⟩) (by decide) (by decide) hsz hcell hkind V (by show IsRangeIter _ _ _ _ _; rw [hn]; simpa using Heap.get?_push_size _ rfl) hV (F.keeps up) (N.grown up) (next_is_new F) (Ne.symm (Nat.ne_of_lt F.ns.lt)) (fun p hp => Nat.ne_of_lt (Heap.lt_size (N p hp).1)) (fun b hb hbI => absurd (List.mem_singleton.mp hb) hbI)
    (fun i v hi hP => by obtain ⟨t, rfl⟩ := hP; exact asg i t hi) turn ?_ hlen
  · intro D C h tk₀ tk m' ys nw hV' htk F' N' off' hn hC₀ hCL hCD offC
    exact hRR D C h tk m' _ F' N' hn hC₀ hCL (fun p hp => by rcases List.mem_cons.mp hp with rfl | hp; exact Ne.symm hCD; exact offC p hp) fun h'' tk'' htk'' F'' N'' => done D tk₀ tk'' ys nw h'' hV' (Nat.le_trans htk htk'') F'' N'' off'
theorem compEE {g : Heap} {m : Str → Option Value} {E : Value → Shared → Prop} {Q : Value → Shared → Prop} (_F₀ : Fr g env.locals s.heap m) (hclos : closureFor scope env = pure cl) (hcell : ∀ y ∈ scope.names, y.2 ≠ .cell) (hkind : scope.kind = .function)
    (hnames : ∀ y ∈ scope.names, y.2 = .local → scope.names.lookup y.1 = some .local)
    (h : wpAny (model prog w) A (eval iter env) (fun xv s₁ => CompLE prog w A g m env target elt ifs scope cl (fun _ => m) Q xv s₁ ∨ CompRE prog w A g m env target elt ifs scope cl (fun _ => m) Q xv s₁) E s)
    (hs : ∀ x, foldedSetIterable iter env x = pure x := by intro _; rfl) :
    wpAny (model prog w) A (eval (.ListComp elt [⟨target, iter, ifs, 0⟩] scope pos) env) Q E s := by
  rw [eval_ListComp]
  refine wpAny_comprehension_free (use := none) rfl hs hclos hkind hnames (wpAny_mono h (fun xv s₁ h₁ => ?_) fun _ _ e => e)
  have fin : ∀ D C h tk₁ m' nw, Fr g env.locals h m → News g env.locals h nw → h.Ns C m' → g.get? C = none → C ≠ env.locals → (∀ p ∈ nw, p.1 ≠ C) → (∀ h' tk, tk₁ ≤ tk → Fr g env.locals h' m → News g env.locals h' nw → Q (.ref D) { s₁ with heap := h', toks := tk }) → compPost (model prog w) A E none Q (.ref D) C (.ok .next) { s₁ with heap := h, toks := tk₁ } := fun D C h tk₁ m' nw F' N' hn hC₀ hCL offC q =>
    ⟨m', hn, fun h'' hs'' => q h'' tk₁ (Nat.le_refl _) (F'.change hs'' hCL hC₀) fun p hp => ⟨hs''.extBut _ _ (offC p hp) (N' p hp).1, (N' p hp).2⟩⟩
  rcases h₁ with h₁ | h₁
  · exact comp_list hcell hkind h₁ fin
  · exact comp_range hcell hkind h₁ fin
theorem compAE {g : Heap} {m : Str → Option Value} {E : Value → Shared → Prop} {y : Str} {py : Pos} {spos : Pos} {Q : Flow → Shared → Prop} (_F₀ : Fr g env.locals s.heap m)
    (hsw : swapsWith (.ListComp elt [⟨target, iter, ifs, 0⟩] scope pos) (some (.Name y py)) spos.line env = pure true)
    (hclos : closureFor scope env = pure cl) (hcell : ∀ y ∈ scope.names, y.2 ≠ .cell) (hkind : scope.kind = .function)
    (hnames : ∀ y ∈ scope.names, y.2 = .local → scope.names.lookup y.1 = some .local)
    (hy : env.kindOf y = some .local) (hp : (env.scope.kind == .class || (env.scope.kind == .module && env.locals != env.globals)) = false)
    (h : wpAny (model prog w) A (eval iter env) (fun xv s₁ => CompLE prog w A g m env target elt ifs scope cl (fun D z => if z = y then some (.ref D) else m z) (fun _ s' => Q .next s') xv s₁ ∨ CompRE prog w A g m env target elt ifs scope cl (fun D z => if z = y then some (.ref D) else m z) (fun _ s' => Q .next s') xv s₁) E s)
    (hs : ∀ x, foldedSetIterable iter env x = pure x := by intro _; rfl) :
    wpAny (model prog w) A (exec (.Assign [.Name y py] (.ListComp elt [⟨target, iter, ifs, 0⟩] scope pos) spos) env) Q E s := by
  rw [exec_Assign_Name_used _ _ _ _ hsw]
  refine wpAny_bind (wpAny_standAt (wpAny_bind ?_))
  show wpAny _ A (do let _ ← comprehension (.ListComp elt [⟨target, iter, ifs, 0⟩] scope pos) scope env _ (newList []) false (eval iter env) (some (assign (.Name y py) env))) _ _ s
  refine wpAny_bind (wpAny_mono (wpAny_comprehension_free (use := some (assign (.Name y py) env)) (Q := fun _ s' => Q .next s') rfl hs hclos hkind hnames
    (wpAny_mono h (fun xv s₁ h₁ => ?_) fun _ _ e => e)) (fun _ s' hq => wpAny_pure (wpAny_pure hq)) fun _ _ e => e)
  have fin : ∀ D C h tk₁ m' nw, Fr g env.locals h m → News g env.locals h nw → h.Ns C m' → g.get? C = none → C ≠ env.locals → (∀ p ∈ nw, p.1 ≠ C) → (∀ h' tk, tk₁ ≤ tk → Fr g env.locals h' (fun z => if z = y then some (.ref D) else m z) → News g env.locals h' nw → Q .next { s₁ with heap := h', toks := tk }) → compPost (model prog w) A E (some (assign (.Name y py) env)) (fun _ s' => Q .next s') (.ref D) C (.ok .next) { s₁ with heap := h, toks := tk₁ } := fun D C h tk₁ m' nw F' N' hn hC₀ hCL offC q => by
    show wpAny _ A (assign (.Name y py) env (.ref D)) _ _ _
    refine wpAny_assign_Name (wpAny_storeName_local hy F'.ns (fun h₂ hn₂ hs₂ => ?_) hp)
    have hL₀ : g.get? env.locals = none := Heap.get?_none_of_le F'.above
    have F₂ : Fr g env.locals h₂ (fun z => if z = y then some (.ref D) else m z) := ⟨hn₂, fun b o e => hs₂.extBut b o (fun q => by rw [q, hL₀] at e; cases e) (F'.keep b o e), F'.above⟩
    refine ⟨m', hn.sameBut hs₂ hCL, fun h'' hs'' => q h'' _ (Nat.le_succ _) (F₂.change hs'' hCL hC₀) (fun p hp => ?_)⟩
    have z : h₂.get? p.1 = some p.2 := hs₂.extBut _ _ (N' p hp).2.1 (N' p hp).1
    exact ⟨hs''.extBut _ _ (offC p hp) z, (N' p hp).2⟩
  rcases h₁ with h₁ | h₁
  · exact comp_list hcell hkind h₁ fin
  · exact comp_range hcell hkind h₁ fin
theorem CompL.toE {g : Heap} {m : Str → Option Value} {mf : Addr → Str → Option Value} {Q : Value → Shared → Prop} {xv : Value} {s₁ : Shared} (h : CompL prog w A g m env target elt ifs scope cl mf Q xv s₁) : CompLE prog w A g m env target elt ifs scope cl mf Q xv s₁ := by
  obtain ⟨l, vs, nw₀, ol, nl, KV, V, h1, h2, h3, h4, h5, h6, h7, h8, h9, h10, h11, h12⟩ := h
  exact ⟨l, vs, nw₀, ol, nl, KV, V, h1, h2, h3, h4, h5, h6, h7, h8, h9, h10, fun s₂ q => ⟨(h11 s₂ q).1, (h11 s₂ q).2.toE⟩, h12⟩
theorem CompR.toE {g : Heap} {m : Str → Option Value} {mf : Addr → Str → Option Value} {Q : Value → Shared → Prop} {xv : Value} {s₁ : Shared} (h : CompR prog w A g m env target elt ifs scope cl mf Q xv s₁) : CompRE prog w A g m env target elt ifs scope cl mf Q xv s₁ := by
  obtain ⟨r, a, b, t, u, v, n, nw₀, KV, V, h1, h2, h3, h4, h5, h6, h7, h8, h9, h10, h11, h12⟩ := h
  exact ⟨r, a, b, t, u, v, n, nw₀, KV, V, h1, h2, h3, h4, h5, h6, h7, h8, h9, h10, fun s₂ q => ⟨(h11 s₂ q).1, (h11 s₂ q).2.toE⟩, h12⟩
theorem compE {g : Heap} {m : Str → Option Value} {E : Value → Shared → Prop} {Q : Value → Shared → Prop} (F₀ : Fr g env.locals s.heap m) (hclos : closureFor scope env = pure cl) (hcell : ∀ y ∈ scope.names, y.2 ≠ .cell) (hkind : scope.kind = .function)
    (hnames : ∀ y ∈ scope.names, y.2 = .local → scope.names.lookup y.1 = some .local)
    (h : wpAny (model prog w) A (eval iter env) (fun xv s₁ => CompL prog w A g m env target elt ifs scope cl (fun _ => m) Q xv s₁ ∨ CompR prog w A g m env target elt ifs scope cl (fun _ => m) Q xv s₁) E s)
    (hs : ∀ x, foldedSetIterable iter env x = pure x := by intro _; rfl) :
    wpAny (model prog w) A (eval (.ListComp elt [⟨target, iter, ifs, 0⟩] scope pos) env) Q E s :=
  compEE F₀ hclos hcell hkind hnames (wpAny_mono h (fun _ _ q => q.imp CompL.toE CompR.toE) fun _ _ e => e) hs
theorem compA {g : Heap} {m : Str → Option Value} {E : Value → Shared → Prop} {y : Str} {py : Pos} {spos : Pos} {Q : Flow → Shared → Prop} (F₀ : Fr g env.locals s.heap m)
    (hsw : swapsWith (.ListComp elt [⟨target, iter, ifs, 0⟩] scope pos) (some (.Name y py)) spos.line env = pure true)
    (hclos : closureFor scope env = pure cl) (hcell : ∀ y ∈ scope.names, y.2 ≠ .cell) (hkind : scope.kind = .function)
    (hnames : ∀ y ∈ scope.names, y.2 = .local → scope.names.lookup y.1 = some .local)
    (hy : env.kindOf y = some .local) (hp : (env.scope.kind == .class || (env.scope.kind == .module && env.locals != env.globals)) = false)
    (h : wpAny (model prog w) A (eval iter env) (fun xv s₁ => CompL prog w A g m env target elt ifs scope cl (fun D z => if z = y then some (.ref D) else m z) (fun _ s' => Q .next s') xv s₁ ∨ CompR prog w A g m env target elt ifs scope cl (fun D z => if z = y then some (.ref D) else m z) (fun _ s' => Q .next s') xv s₁) E s)
    (hs : ∀ x, foldedSetIterable iter env x = pure x := by intro _; rfl) :
    wpAny (model prog w) A (exec (.Assign [.Name y py] (.ListComp elt [⟨target, iter, ifs, 0⟩] scope pos) spos) env) Q E s :=
  compAE F₀ hsw hclos hcell hkind hnames hy hp (wpAny_mono h (fun _ _ q => q.imp CompL.toE CompR.toE) fun _ _ e => e) hs
end

section
variable {prog : Program} {w : World} {A : Around} {s : Shared} {env : Env} {elt iter : Expr} {ifs : List Expr} {scope : Scope} {cl : List (Str × Addr)} {pos px : Pos} {x : Str}
noncomputable def cell0 : Obj := { cls := .type "cell", data := .cell none }
theorem newEnv1 {M : Model} {Q : Env → Shared → Prop} {E : Value → Shared → Prop} (hcf : ∀ n, cellsFrom n scope.names cl = (x, n) :: cl) (hpc : ∀ h, pushCells h scope.names = h.push cell0)
    (hQ : ∀ h₁, h₁.Ns s.heap.objs.size (fun _ => none) → (∀ b o, s.heap.get? b = some o → h₁.get? b = some o) → h₁.get? (s.heap.objs.size + 1) = some cell0 →
      Q { scope := scope, locals := s.heap.objs.size, globals := env.globals, cells := (x, s.heap.objs.size + 1) :: cl, qual := env.qual, func := none, code := env.code, frame := env.frame, builtins := env.builtins } { s with heap := h₁ }) :
    wpAny M A (newFunctionEnv scope env.globals cl [] env.qual none .none (some env)) Q E s := by
  simp only [newFunctionEnv, Option.isSome_some, if_true]
  refine wpAny_bind (wpAny_alloc ?_)
  refine wpAny_bind (wpAny_layCells _ (fun name kind cells => by cases hkc : kind == NameKind.cell <;> simp [hkc]) _ _ _ _ ?_)
  dsimp only
  rw [Heap.size_push, hcf, hpc]
  refine wpAny_bind (wpAny_pure (wpAny_pure ?_))
  refine hQ _ ((Heap.Ns.new s.heap (.type "dict")).keeps fun b o e => Heap.get?_push_of_some _ e) (fun b o e => Heap.get?_push_of_some _ (Heap.get?_push_of_some _ e)) ?_
  have e := Heap.get?_push_size (s.heap.push { cls := .type "dict", data := .dict #[] }) (o := cell0) rfl
  rw [Heap.size_push] at e
  exact e
noncomputable def XF (C c : Addr) (fr : List (Addr × Obj)) : Prop := ∃ oC m' oc v, fr = [(C, oC), (c, oc)] ∧ LCg.NsObj oC m' ∧ oc.data = .cell v
noncomputable def TurnsX (prog : Program) (w : World) (A : Around) (g : Heap) (m : Str → Option Value) (env : Env) (elt : Expr) (ifs : List Expr) (scope : Scope) (x : Str) (cl : List (Str × Addr)) (n : Nat) (P : Nat → Value → Prop) (V : Nat → Nat → List Value → List (Addr × Obj) → Prop) (s : Shared) : Prop :=
  ∀ i v tk₀ tk ys nw I oI D C oC c oc m₂ h (E' : Value → Shared → Prop), i < n → P i v → V i tk₀ ys nw → tk₀ ≤ tk → LCg.NsObj oC m₂ → oc.data = .cell (some v) → Fr g env.locals h m → News g env.locals h ((I, oI) :: (D, LCg.lst ys) :: (C, oC) :: (c, oc) :: nw) → OffC [I, D, C, c] nw → ((@Ne Nat I C) ∧ (@Ne Nat I D) ∧ (@Ne Nat C D) ∧ (@Ne Nat I c) ∧ (@Ne Nat D c) ∧ (@Ne Nat C c) ∧ @LT.lt Nat _ env.locals C) →
    TestM prog w A (compEnvC scope ((x, c) :: cl) C env) ifs (fun ok s' => if ok = true then wpAny (model prog w) A (eval elt (compEnvC scope ((x, c) :: cl) C env)) (EndX g env.locals m s (XF C c) [C, c] [(I, oI), (D, LCg.lst ys)] [I, D, C, c] (fun tk' y nw' => V (i + 1) tk' (ys ++ [y]) nw')) E' s'
      else EndX g env.locals m s (XF C c) [C, c] [(I, oI), (D, LCg.lst ys)] [I, D, C, c] (fun tk' _ nw' => V (i + 1) tk' ys nw') Value.none s') E' { s with heap := h, toks := tk }
theorem blockX {g : Heap} {m : Str → Option Value} {s₂ : Shared} {I : Addr} {fp : List Addr} {n : Nat} {P : Nat → Value → Prop} {St : Nat → Heap → Prop} {E : Value → Shared → Prop} {RR : Value → Addr → Result → Shared → Prop} {nw₀ : List (Addr × Obj)}
    (W : Walks prog w A I fp [I] n P St) {cn : String} (hIo : ∀ i h, St i h → ∃ o, h.get? I = some o ∧ o.cls = .type cn)
    (hcn : ["enumerate", "zip", "dict_itemiterator", "dict_reverseitemiterator", "odict_iterator", "itertools.zip_longest", "itertools.pairwise"].contains cn = false) (hn : n ≤ sizeLine)
    (hcf : ∀ n, cellsFrom n scope.names cl = (x, n) :: cl) (hpc : ∀ h, pushCells h scope.names = h.push cell0) (hkind : scope.kind = .function) (hx : (relabel scope env).names.lookup x = some .cell)
    (V : Nat → Nat → List Value → List (Addr × Obj) → Prop) (hst : St 0 s₂.heap) (hV : ∀ tk, s₂.toks ≤ tk → V 0 tk [] nw₀)
    (F : Fr g env.locals s₂.heap m) (N : News g env.locals s₂.heap nw₀) (hI : g.get? I = none) (hIL : I ≠ env.locals) (off : ∀ p ∈ nw₀, p.1 ≠ I)
    (hfp : ∀ b ∈ fp, b ≠ I → (∃ o, g.get? b = some o) ∨ ∃ o, ∀ i tk ys nw, V i tk ys nw → (b, o) ∈ nw)
    (turn : TurnsX prog w A g m env elt ifs scope x cl n P V s₂)
    (hRR : ∀ D C h tk₀ tk m' ys nw, V n tk₀ ys nw → tk₀ ≤ tk → Fr g env.locals h m → News g env.locals h ((D, LCg.lst ys) :: nw) → OffC [D] nw → h.Ns C m' → g.get? C = none → C ≠ env.locals → C ≠ D → (∀ p ∈ nw, p.1 ≠ C) → RR (.ref D) C (.ok .next) { s₂ with heap := h, toks := tk })
    (hlen : ∀ i tk ys nw, V i tk ys nw → ys.length ≤ i) :
    wpAny (model prog w) A (newList []) (fun acc s₃ => wpAny (model prog w) A (newFunctionEnv scope env.globals cl [] env.qual none .none (some env)) (fun cenv s₄ =>
      codeAny (model prog w) A (.compStart (.ListComp elt [⟨.Name x px, iter, ifs, 0⟩] scope pos) 0 (.ref I) acc { cenv with scope := relabel scope env }) (RR acc cenv.locals) s₄) E s₃) E s₂ := by
  refine wpAny_newObj_type (newEnv1 hcf hpc fun h₁ hns₁ old₁ hcell₁ => ?_)
  dsimp only at hns₁ old₁ hcell₁ ⊢
  generalize hH2 : s₂.heap.push { cls := .type "list", dict := none, data := .seq ([] : List Value).toArray } = H2 at hns₁ old₁ hcell₁ ⊢
  have hC : H2.objs.size = s₂.heap.objs.size + 1 := by rw [← hH2, Heap.size_push]
  have below : ∀ b, b < s₂.heap.objs.size → b ≠ H2.objs.size ∧ b ≠ s₂.heap.objs.size ∧ b ≠ H2.objs.size + 1 := fun b hb => ⟨by rw [hC]; exact Nat.ne_of_lt (Nat.lt_succ_of_lt hb), Nat.ne_of_lt hb, by rw [hC]; exact Nat.ne_of_lt (Nat.lt_succ_of_lt (Nat.lt_succ_of_lt hb))⟩
  have hDC : s₂.heap.objs.size ≠ H2.objs.size := by rw [hC]; exact Nat.ne_of_lt (Nat.lt_succ_self _)
  have hDc : s₂.heap.objs.size ≠ H2.objs.size + 1 := by rw [hC]; exact Nat.ne_of_lt (Nat.lt_succ_of_lt (Nat.lt_succ_self _))
  have hCc : H2.objs.size ≠ H2.objs.size + 1 := Nat.ne_of_lt (Nat.lt_succ_self _)
  have old : ∀ b o, s₂.heap.get? b = some o → h₁.get? b = some o := fun b o e => old₁ b o (hH2 ▸ Heap.get?_push_of_some _ e)
  have hacc : h₁.get? s₂.heap.objs.size = some (LCg.lst []) := old₁ _ _ (hH2 ▸ Heap.get?_push_size _ rfl)
  have hst₁ : St 0 h₁ := W.frame _ _ _ hst fun b _ o e => old b o e
  have fresh₀ : ∀ a, s₂.heap.objs.size ≤ a → g.get? a = none := fun a ha => by
    cases e : g.get? a with
    | none => rfl
    | some o' => exact absurd (Heap.lt_size (F.keep a o' e)) (Nat.not_lt.mpr ha)
  have hD₀ : g.get? s₂.heap.objs.size = none := fresh₀ _ (Nat.le_refl _)
  have hC₀ : g.get? H2.objs.size = none := fresh₀ _ (by rw [hC]; exact Nat.le_succ _)
  have hc₀ : g.get? (H2.objs.size + 1) = none := fresh₀ _ (by rw [hC]; exact Nat.le_succ_of_le (Nat.le_succ _))
  have hLlt : env.locals < s₂.heap.objs.size := F.ns.lt
  have hDL : s₂.heap.objs.size ≠ env.locals := Ne.symm (below _ hLlt).2.1
  have hCL : H2.objs.size ≠ env.locals := Ne.symm (below _ hLlt).1
  have hcL : H2.objs.size + 1 ≠ env.locals := Ne.symm (below _ hLlt).2.2
  obtain ⟨oI₀, heI₀, _⟩ := hIo _ _ hst
  have hIlt : I < s₂.heap.objs.size := Heap.lt_size heI₀
  have offCa : OffC [I, s₂.heap.objs.size, H2.objs.size, H2.objs.size + 1] nw₀ := fun p hp q => by
    have z := below _ (Heap.lt_size (N p hp).1)
    rcases List.mem_cons.mp q with q | q
    · exact off p hp q
    rcases List.mem_cons.mp q with q | q
    · exact z.2.1 q
    rcases List.mem_cons.mp q with q | q
    · exact z.1 q
    · exact z.2.2 (List.mem_singleton.mp q)
  obtain ⟨oC₀, heC₀, hoC₀⟩ := LCg.ns_obj hns₁
  have F₁ := F.keeps old
  have N₁ : News g env.locals h₁ ((s₂.heap.objs.size, LCg.lst []) :: ([(H2.objs.size, oC₀), (H2.objs.size + 1, cell0)] ++ nw₀)) := (fa_cons (⟨hacc, hDL, hD₀⟩) (fa_cons (⟨heC₀, hCL, hC₀⟩) (fa_cons (⟨hcell₁, hcL, hc₀⟩) (fun p hp => ⟨old _ _ (N p hp).1, (N p hp).2⟩))))
  have loop : ∀ s₃ : Shared, s₃ = { s₂ with heap := h₁ } →
      codeAny (model prog w) A (.compLoop (.ListComp elt [⟨.Name x px, iter, ifs, 0⟩] scope pos) 0 (.ref I) (.ref s₂.heap.objs.size) (compEnvC scope ((x, H2.objs.size + 1) :: cl) H2.objs.size env))
        (RR (.ref s₂.heap.objs.size) H2.objs.size) s₃ := by
    rintro s₃ rfl
    refine compLoopM (ca := [H2.objs.size, H2.objs.size + 1]) (CF := XF H2.objs.size (H2.objs.size + 1)) (CV := fun v fr => ∃ oC m' oc, fr = [(H2.objs.size, oC), (H2.objs.size + 1, oc)] ∧ LCg.NsObj oC m' ∧ oc.data = .cell (some v))
      W hIo hcn hn V hst₁ (hV _ (Nat.le_refl _)) ⟨oC₀, _, cell0, none, rfl, hoC₀, rfl⟩ rfl F₁ N₁ offCa hI hIL (Nat.ne_of_lt hIlt) (fun q => ?_) (fun q => ?_) hfp
      (fun v fr ⟨oC, m', oc, e, hN, hd⟩ => ⟨oC, m', oc, some v, e, hN, hd⟩) ?_ ?_ ?_ hlen
    · rcases List.mem_cons.mp q with q | q
      · exact (below I hIlt).1 q
      · exact (below I hIlt).2.2 (List.mem_singleton.mp q)
    · rcases List.mem_cons.mp q with q | q
      · exact hDC q
      · exact hDc (List.mem_singleton.mp q)
    · rintro i v hi hP h tk fr Q E ⟨oC, m', oc, v₀, rfl, hN, hd⟩ _ hfr hk hQ
      have hcz := hfr _ (List.mem_cons_of_mem _ List.mem_cons_self)
      have hCz := hfr _ List.mem_cons_self
      refine wpAny_assign_Name (wpAny_storeName_cell (env := compEnvC scope ((x, H2.objs.size + 1) :: cl) H2.objs.size env) (c := H2.objs.size + 1) hkind hx (by simp [compEnvC]) ⟨oc, hcz, hd⟩ fun h' hc' hs' => ?_)
      obtain ⟨oc', e', d'⟩ := hc'
      refine hQ h' tk [(H2.objs.size, oC), (H2.objs.size + 1, oc')] ⟨oC, m', oc', rfl, hN, d'⟩ rfl (fun p hp => ?_) fun b o hb e => hs'.extBut b o (fun q => hb (by rw [q]; exact List.mem_cons_of_mem _ (List.mem_singleton.mpr rfl))) e
      rcases List.mem_cons.mp hp with rfl | hp
      · exact hs'.extBut _ _ hCc hCz
      · rw [List.mem_singleton.mp hp]; exact e'
    · rintro i v tk₀ tk ys nw oI h fr E' hi hP _ hV' htk ⟨oC, m', oc, rfl, hN, hd⟩ _ F' N' off'
      exact TestM.swap _ _ (turn i v tk₀ tk ys nw I oI _ _ oC _ oc m' h E' hi hP hV' htk hN hd F' N' off' ⟨(below I hIlt).1, (below I hIlt).2.1, Ne.symm hDC, (below I hIlt).2.2, hDc, hCc, by rw [hC]; exact Nat.lt_succ_of_lt hLlt⟩)
    · rintro tk₀ tk ys nw h fr hV' htk ⟨oC, m', oc, v₀, rfl, hN, hd⟩ _ F' N' off'
      refine hRR _ _ h tk₀ tk m' ys nw hV' htk F' (fun p hp => N' p ?_) (fun p hp q => off' p hp (List.mem_cons_of_mem _ (List.mem_singleton.mp q ▸ List.mem_cons_self))) (hN.ns (N' _ (List.mem_cons_of_mem _ List.mem_cons_self)).1) hC₀ hCL (Ne.symm hDC) (fun p hp q => off' p hp (q ▸ List.mem_cons_of_mem _ (List.mem_cons_of_mem _ List.mem_cons_self)))
      rcases List.mem_cons.mp hp with rfl | hp
      · exact List.mem_cons_self
      · exact List.mem_cons_of_mem _ (List.mem_cons_of_mem _ (List.mem_cons_of_mem _ hp))
  exact codeAny_compStart_list (loop _ rfl) (W.self 0 _ _ _ hst₁ (loop _ rfl))
inductive CompX (prog : Program) (w : World) (A : Around) (g : Heap) (m : Str → Option Value) (env : Env) (x : Str) (elt : Expr) (ifs : List Expr) (scope : Scope) (cl : List (Str × Addr)) (Q : Value → Shared → Prop) (xv : Value) (s₁ : Shared) : Prop
  | in1 (r : Addr)
    (a b : Int)
    (t u v : Tok)
    (n : Nat)
    (nw₀ : List (Addr × Obj))
    (V : Nat → Nat → List Value → List (Addr × Obj) → Prop)
    (h0 : xv = .ref r) (h1 : A.handled = none) (h2 : Fr g env.locals s₁.heap m) (h3 : News g env.locals s₁.heap nw₀) (h4 : IsRange s₁.heap r a b 1 t u v) (h5 : Builtin.Range.small a b 1 = true) (h6 : Builtin.Range.rangeSize a b 1 = (n : Int)) (h7 : n ≤ sizeLine) (h8 : (∀ i tk ys nw, V i tk ys nw → ys.length ≤ i)) (h9 : (∀ tk, s₁.toks ≤ tk → V 0 tk [] nw₀)) (h10 : (∀ s₂ : Shared, (∃ h, s₂ = { s₁ with heap := h }) → TurnsX prog w A g m env elt ifs scope x cl n (fun i v => ∃ t, v = .int (a + (i : Int)) t) V s₂)) (h11 : (∀ D tk₀ tk ys nw h, V n tk₀ ys nw → tk₀ ≤ tk → Fr g env.locals h m → News g env.locals h ((D, LCg.lst ys) :: nw) → OffC [D] nw → Q (.ref D) { s₁ with heap := h, toks := tk })) : CompX prog w A g m env x elt ifs scope cl Q xv s₁
theorem compX {g : Heap} {m : Str → Option Value} {E : Value → Shared → Prop} {Q : Value → Shared → Prop} (_F₀ : Fr g env.locals s.heap m) (hclos : closureFor scope env = pure cl) (hcf : ∀ n, cellsFrom n scope.names cl = (x, n) :: cl) (hpc : ∀ h, pushCells h scope.names = h.push cell0) (hkind : scope.kind = .function) (hx : (relabel scope env).names.lookup x = some .cell)
    (hnames : ∀ y ∈ scope.names, y.2 = .local → scope.names.lookup y.1 = some .local)
    (h : wpAny (model prog w) A (eval iter env) (fun xv s₁ => CompX prog w A g m env x elt ifs scope cl Q xv s₁) E s)
    (hs : ∀ x, foldedSetIterable iter env x = pure x := by intro _; rfl) :
    wpAny (model prog w) A (eval (.ListComp elt [⟨.Name x px, iter, ifs, 0⟩] scope pos) env) Q E s := by
  rw [eval_ListComp]
  refine wpAny_comprehension_free (use := none) rfl hs hclos hkind hnames (wpAny_mono h (fun xv s₁ h₁ => ?_) fun _ _ e => e)
  obtain ⟨r, a, b, t, u, v, n, nw₀, V, rfl, hh, F, N, hr, hsm, hn, hsz, hlen, hV, turns, done⟩ := h₁
  refine wpAny_pyIter_range hr hsm ?_
  have turn := turns { s₁ with heap := s₁.heap.push { cls := .type "range_iterator", data := .fields #[rawInt a, rawInt (Builtin.Range.rangeSize a b 1), rawInt 1] } } ⟨_, rfl⟩
  have up : ∀ c o, s₁.heap.get? c = some o → (s₁.heap.push { cls := .type "range_iterator", data := .fields #[rawInt a, rawInt (Builtin.Range.rangeSize a b 1), rawInt 1] }).get? c = some o := fun c o e => Heap.get?_push_of_some _ e
  refine blockX (cn := "range_iterator") (nw₀ := nw₀) (LCg.range_walks hh a n) (fun i h st => ⟨_, st, rfl⟩) (by decide) hsz hcf hpc hkind hx V (by show IsRangeIter _ _ _ _ _; rw [hn]; simpa using Heap.get?_push_size _ rfl) hV (F.keeps up) (N.grown up) (next_is_new F) (Ne.symm (Nat.ne_of_lt F.ns.lt)) (fun p hp => Nat.ne_of_lt (Heap.lt_size (N p hp).1)) (fun b hb hbI => absurd (List.mem_singleton.mp hb) hbI)
    turn ?_ hlen
  intro D C h tk₀ tk m' ys nw hV' htk F' N' off' hn hC₀ hCL hCD offC
  exact ⟨m', hn, fun h'' hs'' => done D tk₀ tk ys nw h'' hV' htk (F'.change hs'' hCL hC₀) (fun p hp => ⟨hs''.extBut _ _ (by rcases List.mem_cons.mp hp with rfl | hp; exact Ne.symm hCD; exact offC p hp) (N' p hp).1, (N' p hp).2⟩) off'⟩
theorem into {g h : Heap} {L C : Addr} {m m₂ : Str → Option Value} {nw nw' : List (Addr × Obj)} {oC : Obj} (F : Fr g L h m) (N : News g L h nw) (hC : (C, oC) ∈ nw) (hN : LCg.NsObj oC m₂) (hLC : @LT.lt Nat _ L C) (hs : ∀ p ∈ nw', p ∈ nw ∧ p.1 ≠ C) :
    ∃ oL, LCg.NsObj oL m ∧ Fr g C h m₂ ∧ News g C h ((L, oL) :: nw') := by
  obtain ⟨oL, eL, hL⟩ := LCg.ns_obj F.ns
  refine ⟨oL, hL, ⟨hN.ns (N _ hC).1, F.keep, Nat.le_trans F.above (Nat.le_of_lt hLC)⟩, fun p hp => ?_⟩
  rcases List.mem_cons.mp hp with rfl | hp
  · exact ⟨eL, Nat.ne_of_lt hLC, Heap.get?_none_of_le F.above⟩
  · exact ⟨(N p (hs p hp).1).1, (hs p hp).2, (N p (hs p hp).1).2.2⟩
theorem back {g h : Heap} {L C : Addr} {m m₂ : Str → Option Value} {nw : List (Addr × Obj)} {oL : Obj} (F : Fr g C h m₂) (N : News g C h nw) (hL : (L, oL) ∈ nw) (hN : LCg.NsObj oL m) (ha : g.objs.size ≤ L) :
    Fr g L h m ∧ ∃ oC, LCg.NsObj oC m₂ ∧ h.get? C = some oC :=
  ⟨⟨hN.ns (N _ hL).1, F.keep, ha⟩, let ⟨o, e, h⟩ := LCg.ns_obj F.ns; ⟨o, h, e⟩⟩
theorem ret_news {g h h0 : Heap} {L C : Addr} {nwA nwB nw' : List (Addr × Obj)} {oC : Obj} (NA : News g C h nwA) (NB : News g L h0 nwB) (hC : h.get? C = some oC) (hB : ∃ o, (C, o) ∈ nwB) (hs : ∀ p ∈ nw', p = (C, oC) ∨ (p ∈ nwA ∧ p ∈ nwB)) : News g L h nw' := fun p hp => by
  rcases hs p hp with rfl | ⟨a, b⟩
  · obtain ⟨o, hB⟩ := hB
    exact ⟨hC, (NB _ hB).2⟩
  · exact ⟨(NA p a).1, (NB p b).2⟩
end

set_option hygiene false


theorem Ents.nil {P : Tok → Prop} {h : Heap} : Ents P h [] [] := ⟨rfl, fun i t e h1 => by simp at h1⟩
theorem Ents.cons {P : Tok → Prop} {h : Heap} {t : Addr} {e : Str × Str} {ts : List Addr} {es : List (Str × Str)} (h0 : ∃ k1 k2, P k2 ∧ h.IsTuple t #[.str e.1 k1, .str e.2 k2]) (E : Ents P h ts es) : Ents P h (t :: ts) (e :: es) :=
  ⟨by simp [E.1], fun i t' e' h1 h2 => by
    cases i with
    | zero => simp at h1 h2; subst h1 h2; exact h0
    | succ i => exact E.2 i t' e' (by simpa using h1) (by simpa using h2)⟩
theorem Ents.uncons {P : Tok → Prop} {h : Heap} {t : Addr} {e : Str × Str} {ts : List Addr} {es : List (Str × Str)} (E : Ents P h (t :: ts) (e :: es)) : (∃ k1 k2, P k2 ∧ h.IsTuple t #[.str e.1 k1, .str e.2 k2]) ∧ Ents P h ts es :=
  ⟨E.2 0 t e (by simp) (by simp), by simpa using E.1, fun i t' e' h1 h2 => E.2 (i + 1) t' e' (by simpa using h1) (by simpa using h2)⟩
theorem Ents.append {P : Tok → Prop} {h : Heap} : ∀ {ts : List Addr} {es : List (Str × Str)} {ts' : List Addr} {es' : List (Str × Str)}, Ents P h ts es → Ents P h ts' es' → Ents P h (ts ++ ts') (es ++ es')
  | [], [], _, _, _, E' => E'
  | [], _ :: _, _, _, E, _ => absurd E.1 (by simp)
  | _ :: _, [], _, _, E, _ => absurd E.1 (by simp)
  | _ :: _, _ :: _, _, _, E, E' => Ents.cons E.uncons.1 (Ents.append E.uncons.2 E')
noncomputable def selT (q : Str × Str → Bool) (ts : List Addr) (es : List (Str × Str)) : List Addr := ((ts.zip es).filter fun p => q p.2).map (·.1)
theorem Ents.filter {P : Tok → Prop} {h : Heap} (q : Str × Str → Bool) : ∀ {ts : List Addr} {es : List (Str × Str)}, Ents P h ts es → Ents P h (selT q ts es) (es.filter q)
  | [], [], _ => Ents.nil
  | [], _ :: _, E => absurd E.1 (by simp)
  | _ :: _, [], E => absurd E.1 (by simp)
  | t :: ts, e :: es, E => by
    have ih := Ents.filter q E.uncons.2
    simp only [selT, List.zip_cons_cons, List.filter_cons]
    cases hq : q e with
    | true => simp only [if_true, List.map_cons]; exact Ents.cons E.uncons.1 ih
    | false => simp only [Bool.false_eq_true, if_false]; exact ih
theorem selT_sub {q : Str × Str → Bool} {ts : List Addr} {es : List (Str × Str)} : ∀ t ∈ selT q ts es, t ∈ ts := fun t h => by
  simp only [selT, List.mem_map, List.mem_filter] at h
  refine absG fun G9 hG9 => ?_
  obtain ⟨p, ⟨hp, _⟩, rfl⟩ := h
  refine hG9 ?_; clear hG9
  exact (List.of_mem_zip hp).1
theorem take_step {α : Type} {l : List α} {i : Nat} {a : α} (p : α → Bool) (h : l[i]? = some a) : (l.take (i + 1)).filter p = if p a = true then (l.take i).filter p ++ [a] else (l.take i).filter p := by
  rw [List.take_add_one, h, List.filter_append]
  cases hp : p a <;> simp [hp]
noncomputable def keepsName (nm : Str) (e : Str × Str) : Bool := !(Txt.lower e.1 == Txt.lower nm)
theorem LCgOff1 {D : Addr} : ∀ {l : List (Addr × Obj)}, LCg.Off1 D l → ∀ p ∈ l, p.1 ≠ D
  | [], _, _, h => nomatch h
  | _ :: _, x, p, h => by
    rcases List.mem_cons.mp h with rfl | h
    · exact x.1
    · exact LCgOff1 x.2 p h
theorem not_mem3 {a x y z : Addr} (h1 : a ≠ x) (h2 : a ≠ y) (h3 : a ≠ z) : a ∉ [x, y, z] := by simp [h1, h2, h3]
theorem c_delM {w : World} {loose : List Str} {mean : ExcName → Option Value} {mg mb : Str → Option Value} {ht : Heap} (X : (Mine.hd.heap_1 w.params).In ht) (T : Top Mine.hd.view_1 loose mean mg mb ht) {A : Around} (hA : A.handled = none) {s : Shared} (ek : ht.StaysIn s.heap) {Q E : Value → Shared → Prop} {P : Tok → Prop} (hroom : A.depth + 3 < recursionLimit) {tb d hl : Addr} {ol : Obj} {nl : Nat} {ts : List Addr} {es : List (Str × Str)} (TB : Tab P ht s.heap tb d hl ol nl ts es) (n3 : ht.get? hl = none)
    (nm : Str) (tn : Tok) (hm : Misses 114 (Txt.lower nm)) (hlen : nm.length < 100) (hsz : es.length < 100)
    (ret : ∀ h' tk' n', Ext [hl] s.heap h' → Tab P ht h' tb d hl (listOf (refs (selT (keepsName nm) ts es)).toArray n') n' (selT (keepsName nm) ts es) (es.filter (keepsName nm)) → Q .none { s with heap := h', toks := tk' }) :
    wpAny (model PySem.Challenge.rw_ti0061_01.prog w) A (call (.ref 160) [.ref tb, .str nm tn] []) Q E s := by
  ((revert X; k_fill; intro X; obtain ⟨hh, dp, fr, gd, un⟩ := A; cases hA; (dsimp only at hroom)))
  refine absG fun G9 hG9 => ?_
  obtain ⟨hk, kt, dn, hms⟩ := Tab.ms TB.toTabI
  have hms2 : ∀ q ∈ [(tb, instObj 242 d), (d, dictOf [⟨hk, .str (Str.ofString "_headers") kt, .ref hl⟩] dn), (hl, listOf (refs ts).toArray nl)], s.heap.get? q.1 = some q.2 ∧ ht.get? q.1 = none := by
    intro q hq
    rcases List.mem_cons.mp hq with rfl | hq
    · exact hms _ (.head _)
    rcases List.mem_cons.mp hq with rfl | hq
    · exact hms _ (.tail _ (.head _))
    · rw [List.mem_singleton.mp hq]; exact ⟨TB.hoc ▸ TB.hol, n3⟩
  refine hG9 ?_; clear hG9
  refine' callMC [(tb, instObj 242 d), (d, dictOf [⟨hk, .str (Str.ofString "_headers") kt, .ref hl⟩] dn), (hl, listOf (refs ts).toArray nl)] ?k1 ?k2 ?k3 ?k4 ?k6 ?k7 ?k8 ?k9 ?kB ?kD ?_ ?c2 ?c3 ?c4
  (case k4 => exact hms2)
  ((case k1 => assumption); (case k2 => assumption); (case k3 => assumption); (case k6 => k_is); (case k7 => k_is); (case k8 => k_extra "room"); (case k9 => first | exact BindsTo.of_eq rfl | exact binds_K (Frag.In.keeps (by assumption) (by assumption)) rfl (by k_is) rfl rfl rfl); (case kB => exact rfl); (case kD => decide +kernel); (case c2 => exact rfl); (case c3 => exact rfl); (case c4 => exact rfl))
  ((intro g' L' h' tk' cells' F' N' Y' X' T' G' st' l' l1'; (try k_lt l1'); k_cells Y'; (try simp only [List.cons_append, List.nil_append] at N'); (try dsimp only); (try k_fold)))
  (repeat' (first | (k_unfold; (try dsimp only)) | (k_extra "mycall") | (k_extra "mystep") | (k_extra "no for"; k_extra "head")))
  have gts : Ents P g' ts es := TB.en.keeps2 fun t o ho hc => G' _ _ ho (not_mem3 (ne_cls ho TB.inst (hc ▸ type_ref)) (ne_cls ho (hms _ (.tail _ (.head _))).1 (hc ▸ type_ne (by decide))) (ne_cls ho (TB.hoc ▸ TB.hol) (hc ▸ type_ne (by decide))))
  ((with_reducible rename Fr _ _ _ _ => F9); (with_reducible rename News _ _ _ _ => N9))
  refine LCt.ListComp_T (F₀ := F9) (by with_unfolding_all rfl) (by decide) (by rfl) (by decide) (by rfl) ?_
  (repeat' (first | (k_unfold; (try dsimp only)) | (k_extra "mycall") | (k_extra "mystep") | (k_extra "no for"; k_extra "head")))
  ((with_reducible rename Fr _ _ _ _ => F9); (with_reducible rename News _ _ _ _ => N9))
  refine LCt.CompSrcT.ledger rfl F9 N9 (by k_mem) (by simp only [refs, List.size_toArray, List.length_map, TB.en.1]; rw [sizeLine_eq]; omega) fun g0 => ?_
  refine compT (fun i ys nw => nw = _ ∧ ys = refs ((((ts.zip es).take i).filter fun p => !(Txt.lower p.2.1 == Txt.lower nm)).map (·.1))) ⟨rfl, by simp [refs]⟩ ?_ ?_
  · intro i v ys nw I oI C oC D m₂ h tk E' hi hv hV hC hx F N off ne
    obtain ⟨rfl, rfl⟩ := hV
    refine absG fun G9 hG9 => ?_
    obtain ⟨t, hti, rfl⟩ : ∃ t, Cj2 (ts[i]? = some t) (v = .ref t):= by
      simp only [refs, List.getElem?_toArray, List.getElem?_map, Option.map_eq_some_iff] at hv
      obtain ⟨t, h1, h2⟩ := hv; exact ⟨t, h1, h2.symm⟩
    have hlt : i < es.length := gts.1 ▸ (List.getElem?_eq_some_iff.mp hti).1
    obtain ⟨e, he⟩ : ∃ e, es[i]? = some e:= ⟨_, List.getElem?_eq_getElem hlt⟩
    obtain ⟨k1, k2, hPt, htup⟩ := gts.2 i t e hti he
    have htup2 : IsTup g' t #[.str e.1 k1, .str e.2 k2] := htup
    have hel9 := TB.hel e (List.mem_of_getElem? he)
    refine hG9 ?_; clear hG9
    (repeat' (first | (k_unfold; (try dsimp only)) | (k_extra "mycall") | (k_extra "mystep") | (k_extra "no for"; k_extra "head")))
    · have hz : (ts.zip es)[i]? = some (t, e) := by rw [List.getElem?_zip_eq_some]; exact ⟨hti, he⟩
      refine ⟨h, _, _, rfl, F, N, off, .inr ⟨_, .tail _ (mem_at 2 rfl), rfl, _, rfl⟩, rfl, ?_⟩
      rw [take_step _ hz, if_pos (by assumption)]; simp [refs]
    · have hz : (ts.zip es)[i]? = some (t, e) := by rw [List.getElem?_zip_eq_some]; exact ⟨hti, he⟩
      refine ⟨h, _, _, rfl, F, N, off, .inr ⟨_, .tail _ (mem_at 2 rfl), rfl, _, rfl⟩, rfl, ?_⟩
      rw [take_step _ hz, if_neg (Bool.eq_false_iff.mp (by assumption))]
  · intro ys nw hV
    obtain ⟨rfl, rfl⟩ := hV
    intro D h tk F N off
    have hall : (ts.zip es).take (refs ts).toArray.size = ts.zip es := List.take_of_length_le (by simp [refs, gts.1])
    rw [hall] at N
    (repeat' (first | (k_unfold; (try dsimp only)) | (k_extra "mycall") | (k_extra "mystep") | (k_extra "no for"; k_extra "head")))
    have offm := LCgOff1 off
    refine setItem_all (n := nl) (its := (refs ts).toArray) (Heap.get?_push_of_some _ (N _ (mem_at 4 rfl)).1) (Heap.IsSliceOf.new ..) (Heap.get?_push_of_some _ (N _ (.head _)).1) rfl rfl (offm _ (mem_at 3 rfl)) ?_ fun h2 n2 e1 e2 => ?_
    · simp only [refs, List.size_toArray, List.length_map]
      have := List.length_filter_le (fun p : Addr × Str × Str => !(Txt.lower p.2.1 == Txt.lower nm)) (ts.zip es)
      have h3 : (ts.zip es).length = es.length := by simp [gts.1]
      have := gts.1
      rw [sizeLine_eq]; omega
    have hlN := N _ (mem_at 4 rfl)
    have F2 : Fr g' L' h2 _ := Fr.change (F.push _) e2 hlN.2.1 hlN.2.2
    (repeat' (first | (k_unfold; (try dsimp only)) | (k_extra "mycall") | (k_extra "mystep") | (k_extra "no for"; k_extra "head")))
    ((repeat' (first | k_unfold | dsimp only)))
    have up : ∀ b o, h.get? b = some o → b ≠ hl → h2.get? b = some o := fun b o x n => (e2.2 b n).trans (Heap.get?_push_of_some _ x)
    have q1 := N _ (mem_at 2 rfl)
    have q2 := N _ (mem_at 3 rfl)
    have m1 : tb ≠ hl := ne_cls q1.1 hlN.1 (Ne.symm type_ref)
    have m2 : d ≠ hl := ne_cls q2.1 hlN.1 (type_ne (by decide))
    have t1 := up _ _ q1.1 m1
    have t2 := up _ _ q2.1 m2
    have N2 : News g' L' h2 [(tb, instObj 242 d), (d, dictOf [⟨hk, .str (Str.ofString "_headers") kt, .ref hl⟩] dn)] := by
      intro q hq
      rcases List.mem_cons.mp hq with rfl | hq
      · exact ⟨t1, q1.2⟩
      · rw [List.mem_singleton.mp hq]; exact ⟨t2, q2.2⟩
    refine ret h2 _ n2 ?_ ?_
    · refine ext_ms (fun q hq => (hms2 q hq).1) G' F2 N2 fun q hq => ?_
      rcases List.mem_cons.mp hq with rfl | hq
      · exact .inl (.head _)
      rcases List.mem_cons.mp hq with rfl | hq
      · exact .inl (.tail _ (.head _))
      · rw [List.mem_singleton.mp hq]; exact .inr (.head _)
    · exact { inst := t1, dic := ⟨hk, kt, dn, t2⟩, new1 := TB.new1, new2 := TB.new2, hol := e1, hoc := rfl, en := (gts.keeps fun t _ o e => F2.keep t o e).filter _, hel := fun e he => TB.hel e (List.mem_filter.mp he).1 }

set_option hygiene false
section
variable {M : Model} {A : Around} {E : Value → Shared → Prop} {s : Shared} {K : Frag} {x C L f : Addr} {h₀ : Heap} {m : Str → Option Value} {ox : Obj} {od : Option Obj} {i v : Value}
theorem my_delItem {Q : Unit → Shared → Prop} (F : Fr h₀ L s.heap m) (X₀ : K.In h₀) (I : InstAt s.heap x ox C od) (hq : noSeq K C = true) (hs : findIn K (.ref C) "__delitem__" = some (some (.ref f))) (hf : isFn K (.ref f) = true)
    (h : wpAny M A (call (.ref f) [.ref x, i]) (fun _ s' => Q () s') E s) : wpAny M A (delItem (.ref x) i) Q E s := by
  have X := X₀.keeps F.keep
  unfold delItem sequenceKey
  refine wpAny_holding (wpAny_bind (wpAny_bind (I.type.here ?_)))
  refine wpAny_bind ((anyM_none X hq).here ?_)
  rw [if_pos (show (!false) = true from rfl)]
  exact wpAny_pure (wpAny_bind (special_fn X I hs (beq_iff_eq.mp hf) (wpAny_mono h (fun _ _ z => wpAny_pure z) fun _ _ z => z)))
end
theorem wC81 : True := by (k_with "mystep" => ((with_reducible show wpAny _ _ (delItem (Value.ref _) _) _ _ _); k_dflt (refine' my_delItem ?k1z9 ?k2z9 ?k3z9 ?k4z9 ?k5z9 ?k6z9 ?_; (case k1z9 => k_asm); (case k2z9 => k_asm); (case k3z9 => k_inst); (case k4z9 => k_is); (case k5z9 => k_is); (case k6z9 => k_is); k_whole))); exact True.intro
theorem Fr.extx {g h h' : Heap} {L : Addr} {m : Str → Option Value} {xs : List Addr} (F : Fr g L h m) (e : Ext xs h h') (hx : ∀ x ∈ xs, g.get? x = none ∧ x ≠ L) : Fr g L h' m := by
  obtain ⟨oL, a1, a2, hL, a3⟩ := F.ns
  exact ⟨⟨oL, a1, a2, e _ _ hL fun q => (hx _ q).2 rfl, a3⟩, fun b o q => e b o (F.keep b o q) (fun z => by rw [(hx b z).1] at q; cases q), F.above⟩
theorem c_setM {w : World} {loose : List Str} {mean : ExcName → Option Value} {mg mb : Str → Option Value} {ht : Heap} (X : (Mine.hd.heap_1 w.params).In ht) (T : Top Mine.hd.view_1 loose mean mg mb ht) {A : Around} (hA : A.handled = none) {s : Shared} (ek : ht.StaysIn s.heap) {Q E : Value → Shared → Prop} {P : Tok → Prop} (hroom : A.depth + 4 < recursionLimit) {tb d hl : Addr} {ol : Obj} {nl : Nat} {ts : List Addr} {es : List (Str × Str)} (TB : Tab P ht s.heap tb d hl ol nl ts es) (n3 : ht.get? hl = none)
    (nm vl : Str) (tn tv : Tok) (hP : P tv) (hm : Misses 114 (Txt.lower nm)) (hm2 : Misses 114 nm) (hm3 : Misses 119 vl) (hlen : nm.length < 100) (hsz : es.length < 100)
    (ret : ∀ h' tk' n' ts', Ext [hl] s.heap h' → Tab P ht h' tb d hl (listOf (refs ts').toArray n') n' ts' ((es.filter (keepsName nm)) ++ [(nm, vl)]) → Q .none { s with heap := h', toks := tk' }) :
    wpAny (model PySem.Challenge.rw_ti0061_01.prog w) A (call (.ref 155) [.ref tb, .str nm tn, .str vl tv] []) Q E s := by
  ((revert X; k_fill; intro X; obtain ⟨hh, dp, fr, gd, un⟩ := A; cases hA; (dsimp only at hroom)))
  obtain ⟨hk, kt, dn, hms⟩ := Tab.ms TB.toTabI
  have hms2 : ∀ q ∈ [(tb, instObj 242 d), (d, dictOf [⟨hk, .str (Str.ofString "_headers") kt, .ref hl⟩] dn), (hl, listOf (refs ts).toArray nl)], s.heap.get? q.1 = some q.2 ∧ ht.get? q.1 = none := by
    intro q hq
    rcases List.mem_cons.mp hq with rfl | hq
    · exact hms _ (.head _)
    rcases List.mem_cons.mp hq with rfl | hq
    · exact hms _ (.tail _ (.head _))
    · rw [List.mem_singleton.mp hq]; exact ⟨TB.hoc ▸ TB.hol, n3⟩
  refine' callM [(tb, instObj 242 d), (d, dictOf [⟨hk, .str (Str.ofString "_headers") kt, .ref hl⟩] dn), (hl, listOf (refs ts).toArray nl)] ?k1 ?k2 ?k3 ?k4 ?k6 ?k7 ?k8 ?k9 ?kB ?_ ?c5 ?c2 ?c3 ?c4
  (case k4 => exact hms2)
  ((case k1 => assumption); (case k2 => assumption); (case k3 => assumption); (case k6 => k_is); (case k7 => k_is); (case k8 => ((try simp only [depth_under_make, depth_under_kw, depth_in1, depth_deeper]); (try dsimp only); omega)); (case k9 => first | exact BindsTo.of_eq rfl | exact binds_K (Frag.In.keeps (by assumption) (by assumption)) rfl (by k_is) rfl rfl rfl); (case kB => exact locs rfl); (case c5 => decide); (case c2 => exact rfl); (case c3 => exact rfl); (case c4 => exact rfl))
  intro g' L' h' F' N' X' T' G' st' l'
  (try dsimp only); (try k_fold)
  have gts : Ents P g' ts es := TB.en.keeps2 fun t o ho hc => G' _ _ ho (not_mem3 (ne_cls ho TB.inst (hc ▸ type_ref)) (ne_cls ho (hms _ (.tail _ (.head _))).1 (hc ▸ type_ne (by decide))) (ne_cls ho (TB.hoc ▸ TB.hol) (hc ▸ type_ne (by decide))))
  (repeat' (first | (k_unfold; (try dsimp only)) | (k_extra "mycall") | (k_extra "mystep") | (k_extra "no for"; k_extra "head")))
  ((with_reducible rename Fr _ _ _ _ => F9); (with_reducible rename News _ _ _ _ => N9))
  have q1 := N9 _ (.head _)
  have q2 := N9 _ (.tail _ (.head _))
  have q3 := N9 _ (mem_at 2 rfl)
  have TB2 : Tab P g' _ tb d hl (listOf (refs ts).toArray nl) nl ts es := { inst := q1.1, dic := ⟨hk, kt, dn, q2.1⟩, new1 := q1.2.2, new2 := q2.2.2, hol := q3.1, hoc := rfl, en := gts.keeps fun t _ o e => F9.keep t o e, hel := TB.hel }
  refine' c_delM X' T' rfl ?e ?r TB2 q3.2.2 nm _ hm hlen hsz ?_
  (case e => exact F9.keep)
  (case r => k_extra "room")
  intro h2 tk2 n2 e2 TB3
  have F2 := Fr.extx F9 e2 (fun x hx => by rw [List.mem_singleton.mp hx]; exact q3.2.symm)
  have N2 : News g' L' h2 [(tb, instObj 242 d), (d, dictOf [⟨hk, .str (Str.ofString "_headers") kt, .ref hl⟩] dn), (hl, listOf (refs (selT (keepsName nm) ts es)).toArray n2)] := by
    intro q hq
    rcases List.mem_cons.mp hq with rfl | hq
    · exact ⟨TB3.inst, q1.2⟩
    rcases List.mem_cons.mp hq with rfl | hq
    · exact ⟨e2 _ _ q2.1 (by simpa using ne_cls q2.1 q3.1 (type_ne (by decide))), q2.2⟩
    · rw [List.mem_singleton.mp hq]; exact ⟨TB3.hol, q3.2⟩
  have gts2 : Ents P g' (selT (keepsName nm) ts es) (es.filter (keepsName nm)) := gts.filter _
  clear F9 N9 TB2
  (repeat' (first | (k_unfold; (try dsimp only)) | (k_extra "mycall") | (k_extra "mystep") | (k_extra "no for"; k_extra "head")))
  ((with_reducible rename Fr _ _ _ _ => F9); (with_reducible rename News _ _ _ _ => N9))
  rename_i D0 h0 l0
  have p1 := N9 _ (.head _)
  have p2 := N9 _ (.tail _ (.head _))
  have p3 := N9 _ (mem_at 2 rfl)
  have p4 := N9 _ (mem_at 3 rfl)
  have hsel : (selT (keepsName nm) ts es).length ≤ es.length := by
    rw [gts2.1]; exact List.length_filter_le _ _
  refine wpAny_list_append_plain (items := (refs (selT (keepsName nm) ts es)).toArray) ⟨n2, p4.1⟩ (fun h4 pl4 e4 => ?_) (by simp only [refs, List.size_toArray, List.length_map]; rw [sizeLine_eq]; omega)
  obtain ⟨n4, pl4⟩ := pl4
  have F4 := Fr.change F9 e4 p4.2.1 p4.2.2
  have m1 : tb ≠ hl := ne_cls p2.1 p4.1 (Ne.symm type_ref)
  have m2 : d ≠ hl := ne_cls p3.1 p4.1 (type_ne (by decide))
  have m3 : D0 ≠ hl := ne_cls p1.1 p4.1 (type_ne (by decide))
  have t1 := (e4.2 _ m1).trans p2.1
  have t2 := (e4.2 _ m2).trans p3.1
  have t3 := (e4.2 _ m3).trans p1.1
  have N4 : News g' L' h4 [(tb, instObj 242 d), (d, dictOf [⟨hk, .str (Str.ofString "_headers") kt, .ref hl⟩] dn)] := by
    intro q hq
    rcases List.mem_cons.mp hq with rfl | hq
    · exact ⟨t1, p2.2⟩
    · rw [List.mem_singleton.mp hq]; exact ⟨t2, p3.2⟩
  clear F9 N9
  (repeat' (first | (k_unfold; (try dsimp only)) | (k_extra "mycall") | (k_extra "mystep") | (k_extra "no for"; k_extra "head")))
  ((repeat' (first | k_unfold | dsimp only)))
  refine ret h4 _ n4 (selT (keepsName nm) ts es ++ [D0]) ?_ ?_
  · refine ext_ms (fun q hq => (hms2 q hq).1) G' F4 N4 fun q hq => ?_
    rcases List.mem_cons.mp hq with rfl | hq
    · exact .inl (.head _)
    rcases List.mem_cons.mp hq with rfl | hq
    · exact .inl (.tail _ (.head _))
    · rw [List.mem_singleton.mp hq]; exact .inr (.head _)
  · exact { inst := t1, dic := ⟨hk, kt, dn, t2⟩, new1 := TB.new1, new2 := TB.new2, hol := by rw [pl4]; simp [refs], hoc := by simp [refs],
            en := (gts2.keeps fun t _ o e => F4.keep t o e).append (Ents.cons ⟨_, _, hP, _, t3, rfl, _, rfl⟩ Ents.nil),
            hel := fun e he => by
              rcases List.mem_append.mp he with he | he
              · exact TB.hel e (List.mem_filter.mp he).1
              · rw [List.mem_singleton.mp he]; exact hlen }

noncomputable abbrev ms3 (tb d hl : Addr) (hk : Int) (kt : Tok) (dn : Nat) (ol : Obj) : List (Addr × Obj) := [(tb, instObj 242 d), (d, dictOf [⟨hk, .str (Str.ofString "_headers") kt, .ref hl⟩] dn), (hl, ol)]
theorem Tab.ms3 {P : Tok → Prop} {ht h : Heap} {tb d hl : Addr} {ol : Obj} {nl : Nat} {ts : List Addr} {es : List (Str × Str)} (t : Tab P ht h tb d hl ol nl ts es) (n3 : ht.get? hl = none) : ∃ hk kt dn, ∀ q ∈ Mine.ms3 tb d hl hk kt dn ol, h.get? q.1 = some q.2 ∧ ht.get? q.1 = none := by
  obtain ⟨hk, kt, dn, hms⟩ := Tab.ms t.toTabI
  refine ⟨hk, kt, dn, fun q hq => ?_⟩
  rcases List.mem_cons.mp hq with rfl | hq
  · exact hms _ (.head _)
  rcases List.mem_cons.mp hq with rfl | hq
  · exact hms _ (.tail _ (.head _))
  · rw [List.mem_singleton.mp hq]; exact ⟨t.hol, n3⟩
theorem Tab.ents3 {P : Tok → Prop} {ht h g : Heap} {tb d hl : Addr} {ol : Obj} {nl : Nat} {ts : List Addr} {es : List (Str × Str)} (t : Tab P ht h tb d hl ol nl ts es) (G : GSub h g [tb, d, hl]) : Ents P g ts es := by
  obtain ⟨hk, kt, dn, i2⟩ := t.dic
  exact t.en.keeps2 fun a o ho hc => G _ _ ho (not_mem3 (ne_cls ho t.inst (hc ▸ type_ref)) (ne_cls ho i2 (hc ▸ type_ne (by decide))) (ne_cls ho t.hol (hc ▸ (t.cls ▸ type_ne (by decide)))))
theorem Tab.in3 {P : Tok → Prop} {g h : Heap} {L : Addr} {m : Str → Option Value} {news : List (Addr × Obj)} {tb d hl : Addr} {ol : Obj} {nl : Nat} {ts : List Addr} {es : List (Str × Str)} {hk : Int} {kt : Tok} {dn : Nat} (F : Fr g L h m) (N : News g L h news)
    (hsub : ∀ q ∈ Mine.ms3 tb d hl hk kt dn ol, q ∈ news) (hoc : ol = listOf (refs ts).toArray nl) (en : Ents P g ts es) (hel : ∀ e ∈ es, e.1.length < 100) : Tab P g h tb d hl ol nl ts es :=
  { TabI.of_news N (hsub _ (.head _)) (hsub _ (.tail _ (.head _))) with hol := (N _ (hsub _ (mem_at 2 rfl))).1, hoc := hoc, en := en.keeps fun t _ o e => F.keep t o e, hel := hel }
theorem Tab.news3 {P : Tok → Prop} {g h h' : Heap} {L : Addr} {news : List (Addr × Obj)} {tb d hl : Addr} {ol ol' : Obj} {nl' : Nat} {ts' : List Addr} {es' : List (Str × Str)} {hk : Int} {kt : Tok} {dn : Nat} (N : News g L h news) (e : Ext [hl] h h')
    (hsub : ∀ q ∈ Mine.ms3 tb d hl hk kt dn ol, q ∈ news) (hoc : ol.cls = .type "list") (t : Tab P g h' tb d hl ol' nl' ts' es') : News g L h' (Mine.ms3 tb d hl hk kt dn ol') := by
  have m1 := hsub _ (.head _)
  have m2 := hsub _ (.tail _ (.head _))
  have m3 := hsub _ (mem_at 2 rfl)
  intro q hq
  rcases List.mem_cons.mp hq with rfl | hq
  · exact ⟨t.inst, (N _ m1).2⟩
  rcases List.mem_cons.mp hq with rfl | hq
  · exact ⟨e _ _ (N _ m2).1 (by simpa using ne_cls (N _ m2).1 (N _ m3).1 (hoc ▸ type_ne (by decide))), (N _ m2).2⟩
  · rw [List.mem_singleton.mp hq]; exact ⟨t.hol, (N _ m3).2⟩
theorem ms3_sub {tb d hl : Addr} {hk : Int} {kt : Tok} {dn : Nat} {ol ol' : Obj} {news : List (Addr × Obj)} (h : ∀ q ∈ Mine.ms3 tb d hl hk kt dn ol', q ∈ news) : ∀ q ∈ Mine.ms3 tb d hl hk kt dn ol, q ∈ news ∨ q.1 ∈ [hl] := by
  intro q hq
  rcases List.mem_cons.mp hq with rfl | hq
  · exact .inl (h _ (.head _))
  rcases List.mem_cons.mp hq with rfl | hq
  · exact .inl (h _ (.tail _ (.head _)))
  · rw [List.mem_singleton.mp hq]; exact .inr (.head _)
set_option hygiene false

theorem c_setF {w : World} {loose : List Str} {mean : ExcName → Option Value} {mg mb : Str → Option Value} {ht : Heap} (X : (Mine.hd.heap_1 w.params).In ht) (T : Top Mine.hd.view_1 loose mean mg mb ht) {A : Around} (hA : A.handled = none) {s : Shared} (ek : ht.StaysIn s.heap) {Q E : Value → Shared → Prop} {P : Tok → Prop} (hroom : A.depth + 5 < recursionLimit) {tb d hl : Addr} {ol : Obj} {nl : Nat} {ts : List Addr} {es : List (Str × Str)} (TB : Tab P ht s.heap tb d hl ol nl ts es) (n3 : ht.get? hl = none)
    (nm vl : Str) (tn tv : Tok) (hP : P tv) (hm : Misses 114 (Txt.lower nm)) (hm2 : Misses 114 nm) (hm3 : Misses 119 vl) (hlen : nm.length < 100) (hsz : es.length < 100)
    (ret : ∀ h' tk' n' ts', Ext [hl] s.heap h' → Tab P ht h' tb d hl (listOf (refs ts').toArray n') n' ts' ((es.filter (keepsName nm)) ++ [(nm, vl)]) → Q .none { s with heap := h', toks := tk' }) :
    wpAny (model PySem.Challenge.rw_ti0061_01.prog w) A (call (.ref 87) [.ref tb, .str nm tn, .str vl tv] []) Q E s := by
  ((revert X; k_fill; intro X; obtain ⟨hh, dp, fr, gd, un⟩ := A; cases hA; (dsimp only at hroom)))
  obtain ⟨hk, kt, dn, hms⟩ := Tab.ms3 TB n3
  (( refine' callM (Mine.ms3 tb d hl hk kt dn ol) ?k1 ?k2 ?k3 ?k4 ?k6 ?k7 ?k8 ?k9 ?kB ?_ ?c5 ?c2 ?c3 ?c4; (case k4 => exact hms); ((case k1 => assumption); (case k2 => assumption); (case k3 => assumption); (case k6 => k_is); (case k7 => k_is); (case k8 => ((try simp only [depth_under_make, depth_under_kw, depth_in1, depth_deeper]); (try dsimp only); omega)); (case k9 => first | exact BindsTo.of_eq rfl | exact binds_K (Frag.In.keeps (by assumption) (by assumption)) rfl (by k_is) rfl rfl rfl); (case kB => exact locs rfl); (case c5 => decide); (case c2 => exact rfl); (case c3 => exact rfl); (case c4 => exact rfl)); intro g' L' h' F' N' X' T' G' st' l'; (dsimp only [Mine.ms3] at N'); (try dsimp only); (try k_fold)))
  have gts := TB.ents3 G'
  (repeat' (first | (k_unfold; (try dsimp only)) | (k_extra "mycall") | (k_extra "mystep") | (k_extra "no for"; k_extra "head")))
  ((with_reducible rename Fr _ _ _ _ => F9); (with_reducible rename News _ _ _ _ => N9))
  refine' c_setM X' T' rfl ?e ?r (Tab.in3 F9 N9 (fun q hq => hq) TB.hoc gts TB.hel) (N9 (hl, ol) (mem_at 2 rfl)).2.2 nm vl _ _ hP hm hm2 hm3 hlen hsz ?_
  (case e => exact F9.keep)
  (case r => k_extra "room")
  intro h2 tk2 n2 ts2 e2 TB3
  have F2 := Fr.extx F9 e2 (fun x hx => by rw [List.mem_singleton.mp hx]; exact (N9 (hl, ol) (mem_at 2 rfl)).2.symm)
  have N2 := Tab.news3 N9 e2 (fun q hq => hq) TB.cls TB3
  dsimp only [Mine.ms3] at N2
  clear F9 N9
  (repeat' (first | (k_unfold; (try dsimp only)) | (k_extra "mycall") | (k_extra "mystep") | (k_extra "no for"; k_extra "head")))
  ((repeat' (first | k_unfold | dsimp only)))
  refine ret h2 _ n2 ts2 (ext_ms (fun q hq => (hms q hq).1) G' F2 N2 (ms3_sub fun q hq => hq)) { TB3 with new1 := TB.new1, new2 := TB.new2 }
theorem c_delF {w : World} {loose : List Str} {mean : ExcName → Option Value} {mg mb : Str → Option Value} {ht : Heap} (X : (Mine.hd.heap_1 w.params).In ht) (T : Top Mine.hd.view_1 loose mean mg mb ht) {A : Around} (hA : A.handled = none) {s : Shared} (ek : ht.StaysIn s.heap) {Q E : Value → Shared → Prop} {P : Tok → Prop} (hroom : A.depth + 4 < recursionLimit) {tb d hl : Addr} {ol : Obj} {nl : Nat} {ts : List Addr} {es : List (Str × Str)} (TB : Tab P ht s.heap tb d hl ol nl ts es) (n3 : ht.get? hl = none)
    (nm : Str) (tn : Tok) (hm : Misses 114 (Txt.lower nm)) (hlen : nm.length < 100) (hsz : es.length < 100)
    (ret : ∀ h' tk' n', Ext [hl] s.heap h' → Tab P ht h' tb d hl (listOf (refs (selT (keepsName nm) ts es)).toArray n') n' (selT (keepsName nm) ts es) (es.filter (keepsName nm)) → Q .none { s with heap := h', toks := tk' }) :
    wpAny (model PySem.Challenge.rw_ti0061_01.prog w) A (call (.ref 73) [.ref tb, .str nm tn] []) Q E s := by
  ((revert X; k_fill; intro X; obtain ⟨hh, dp, fr, gd, un⟩ := A; cases hA; (dsimp only at hroom)))
  obtain ⟨hk, kt, dn, hms⟩ := Tab.ms3 TB n3
  (( refine' callM (Mine.ms3 tb d hl hk kt dn ol) ?k1 ?k2 ?k3 ?k4 ?k6 ?k7 ?k8 ?k9 ?kB ?_ ?c5 ?c2 ?c3 ?c4; (case k4 => exact hms); ((case k1 => assumption); (case k2 => assumption); (case k3 => assumption); (case k6 => k_is); (case k7 => k_is); (case k8 => ((try simp only [depth_under_make, depth_under_kw, depth_in1, depth_deeper]); (try dsimp only); omega)); (case k9 => first | exact BindsTo.of_eq rfl | exact binds_K (Frag.In.keeps (by assumption) (by assumption)) rfl (by k_is) rfl rfl rfl); (case kB => exact locs rfl); (case c5 => decide); (case c2 => exact rfl); (case c3 => exact rfl); (case c4 => exact rfl)); intro g' L' h' F' N' X' T' G' st' l'; (dsimp only [Mine.ms3] at N'); (try dsimp only); (try k_fold)))
  have gts := TB.ents3 G'
  (repeat' (first | (k_unfold; (try dsimp only)) | (k_extra "mycall") | (k_extra "mystep") | (k_extra "no for"; k_extra "head")))
  ((with_reducible rename Fr _ _ _ _ => F9); (with_reducible rename News _ _ _ _ => N9))
  refine' c_delM X' T' rfl ?e ?r (Tab.in3 F9 N9 (fun q hq => hq) TB.hoc gts TB.hel) (N9 (hl, ol) (mem_at 2 rfl)).2.2 nm _ hm hlen hsz ?_
  (case e => exact F9.keep)
  (case r => k_extra "room")
  intro h2 tk2 n2 e2 TB3
  have F2 := Fr.extx F9 e2 (fun x hx => by rw [List.mem_singleton.mp hx]; exact (N9 (hl, ol) (mem_at 2 rfl)).2.symm)
  have N2 := Tab.news3 N9 e2 (fun q hq => hq) TB.cls TB3
  dsimp only [Mine.ms3] at N2
  clear F9 N9
  (repeat' (first | (k_unfold; (try dsimp only)) | (k_extra "mycall") | (k_extra "mystep") | (k_extra "no for"; k_extra "head")))
  ((repeat' (first | k_unfold | dsimp only)))
  refine ret h2 _ n2 (ext_ms (fun q hq => (hms q hq).1) G' F2 N2 (ms3_sub fun q hq => hq)) { TB3 with new1 := TB.new1, new2 := TB.new2 }

set_option hygiene false
noncomputable def StrsAt (P : Tok → Prop) (vs : List Value) (xs : List Str) : Prop := vs.length = xs.length ∧ ∀ (i : Nat) (v : Value) (x : Str), vs[i]? = some v → xs[i]? = some x → ∃ t, v = .str x t ∧ P t
theorem count_step {α : Type} {l : List α} {i : Nat} {a : α} (p : α → Bool) (h : l[i]? = some a) : (l.take (i + 1)).countP p = if p a = true then (l.take i).countP p + 1 else (l.take i).countP p := by
  rw [List.take_add_one, h, List.countP_append]
  cases hp : p a <;> simp [hp]
theorem is_str {M : Model} {A : Around} {E : Value → Shared → Prop} {s : Shared} {x y : Str} {t u : Tok} {Q : Value → Shared → Prop} (hb : NoneBooked s.heap) (ht : t ≠ 0) (hu : u ≠ 0) (hn : t ≠ u) (h : ∀ b, (b = true → x = y) → Q (.bool b) s) : wpAny M A (compareOp .Is (.str x t) (.str y u)) Q E s := by
  show wpAny M A (do return .bool (← isSame (.str x t) (.str y u))) Q E s
  refine wpAny_bind ?_
  cases e : (x == y)
  · rw [isSame_str_other x y t u (by simp [ht, hu]) (by simpa using hn) e]
    exact wpAny_pure (wpAny_pure (h false fun q => nomatch q))
  · exact wpAny_isSame_str (by simp [ht, hu]) hb fun b => wpAny_pure (h b fun _ => by simpa using e)
theorem booked {K : Frag} {h : Heap} {p : Program} {loose : List Str} {mean : ExcName → Option Value} {mg mb : Str → Option Value} (X : K.In h) (T : Top p loose mean mg mb h) (e : nsIn K cStatics sharingNotToldKey = some none) : NoneBooked h :=
  let ⟨mc, hn, _⟩ := T.nodigits; ⟨mc, hn, ns_none_of X hn e⟩
theorem booked_keeps {h h' : Heap} (x : NoneBooked h) (k : ∀ b o, h.get? b = some o → h'.get? b = some o) : NoneBooked h' := let ⟨mc, hn, e⟩ := x; ⟨mc, hn.keeps k, e⟩
theorem c_countS {w : World} {loose : List Str} {mean : ExcName → Option Value} {mg mb : Str → Option Value} {ht : Heap} (X : (Mine.hd.heap_1 w.params).In ht) (T : Top Mine.hd.view_1 loose mean mg mb ht) {A : Around} (hA : A.handled = none) {s : Shared} (ek : ht.StaysIn s.heap) {Q E : Value → Shared → Prop} (hroom : A.depth + 1 < recursionLimit) {l : Addr} {ol : Obj} {nl : Nat} {vs : List Value} {xs : List Str} (hol : s.heap.get? l = some ol) (hoc : ol.cls = .type "list") (hod : ol.data = .seq vs.toArray nl) {P : Tok → Prop} (hx : StrsAt P vs xs) (hsz : vs.length < 100) (hls : ∀ x ∈ xs, x.length < 100)
    (y : Str) (ty : Tok) (hy : y.length < 100) (hty : ty ≠ 0) (hP : ∀ t, P t → t ≠ 0 ∧ t ≠ ty)
    (ret : ∀ t h' tk', Ext [] s.heap h' → Q (.int (xs.countP (· == y) : Nat) t) { s with heap := h', toks := tk' }) :
    wpAny (model PySem.Challenge.rw_ti0061_01.prog w) A (call (.ref 66) [.ref l, .str y ty] []) Q E s := by
  ((revert X; k_fill; intro X; obtain ⟨hh, dp, fr, gd, un⟩ := A; cases hA; (dsimp only at hroom)))
  refine' callM [] ?k1 ?k2 ?k3 ?k4 ?k6 ?k7 ?k8 ?k9 ?kB ?_ ?c5 ?c2 ?c3 ?c4
  (case k4 => ((intro q h9; exact nomatch h9)))
  ((case k1 => assumption); (case k2 => assumption); (case k3 => assumption); (case k6 => k_is); (case k7 => k_is); (case k8 => ((try simp only [depth_under_make, depth_under_kw, depth_in1, depth_deeper]); (try dsimp only); omega)); (case k9 => first | exact BindsTo.of_eq rfl | exact binds_K (Frag.In.keeps (by assumption) (by assumption)) rfl (by k_is) rfl rfl rfl); (case kB => exact locs rfl); (case c5 => decide); (case c2 => exact rfl); (case c3 => exact rfl); (case c4 => exact rfl))
  intro g' L' h' F' N' X' T' G' st' l'
  (try dsimp only); (try k_fold)
  have gl : g'.get? l = some ol := G' _ _ hol (by simp)
  have NB : NoneBooked g' := booked X' T' (by kernel_rfl)
  (repeat' (first | (k_unfold; (try dsimp only)) | (k_extra "mycall") | (k_extra "mystep") | (k_extra "no for"; k_extra "head")))
  refine forL ?_
  (repeat' (first | (k_unfold; (try dsimp only)) | (k_extra "mycall") | (k_extra "mystep") | (k_extra "no for"; k_extra "head")))
  ((with_reducible rename Fr _ _ _ _ => F9); (with_reducible rename News _ _ _ _ => N9))
  refine ⟨g', l, vs, fun i m news => news = [] ∧ m (Str.ofString "b") = some (.str y ty) ∧ (∃ t, m (Str.ofString "count") = some (.int ((xs.take i).countP (· == y) : Nat) t)), _, _, ol, nl, rfl, rfl, F9, N9, hoc, hod, .inl gl, ⟨rfl, rfl, ⟨_, rfl⟩⟩, ?_, ?_⟩
  · intro i v m₁ news₁ h tk I oI hv hJ hc F₁ N₁ off
    refine absG fun G9 hG9 => ?_
    obtain ⟨rfl, hmb, ⟨tc, hcn⟩⟩ := hJ
    have hlt : i < xs.length := hx.1 ▸ (List.getElem?_eq_some_iff.mp hv).1
    obtain ⟨x, hxi⟩ : ∃ x, xs[i]? = some x:= ⟨_, List.getElem?_eq_getElem hlt⟩
    obtain ⟨tx, rfl, hPt⟩ := hx.2 i v x hv hxi
    obtain ⟨n0, n1⟩ := hP _ hPt
    have hxl := hls x (List.mem_of_getElem? hxi)
    have hcb : (xs.take i).countP (· == y) ≤ i := Nat.le_trans List.countP_le_length (by simp; omega)
    have hlen := hx.1
    have hst := count_step (· == y) hxi
    clear F9 N9
    refine hG9 ?_; clear hG9
    (repeat' (first | (k_unfold; (try dsimp only)) | (k_extra "mycall") | (k_extra "mystep") | (k_extra "no for"; k_extra "head")))
    ((with_reducible rename Fr _ _ _ _ => F9); (with_reducible rename News _ _ _ _ => N9))
    refine is_str (booked_keeps NB F9.keep) n0 hty n1 fun b hb => ?_
    cases b
    · (repeat' (first | (k_unfold; (try dsimp only)) | (k_extra "mycall") | (k_extra "mystep") | (k_extra "no for"; k_extra "head")))
      · ((with_reducible rename Fr _ _ _ _ => F9); (with_reducible rename News _ _ _ _ => N9))
        rename _ = true => hq
        exact ⟨_, _, _, [], rfl, F9, N9, (fun p h => nomatch h), rfl, hmb, ⟨_, by rw [hst, if_pos hq]; rfl⟩⟩
      · ((with_reducible rename Fr _ _ _ _ => F9); (with_reducible rename News _ _ _ _ => N9))
        rename _ = false => hq
        exact ⟨_, _, _, [], rfl, F9, N9, (fun p h => nomatch h), rfl, hmb, ⟨_, by rw [hst, if_neg (by rw [hq]; exact Bool.false_ne_true)]; exact hcn⟩⟩
    · have hxy : (x == y) = true := by simpa using hb rfl
      (repeat' (first | (k_unfold; (try dsimp only)) | (k_extra "mycall") | (k_extra "mystep") | (k_extra "no for"; k_extra "head")))
      ((with_reducible rename Fr _ _ _ _ => F9); (with_reducible rename News _ _ _ _ => N9))
      exact ⟨_, _, _, [], rfl, F9, N9, (fun p h => nomatch h), rfl, hmb, ⟨_, by rw [hst, if_pos hxy]; rfl⟩⟩
  · intro m₁ news₁ h tk hJ F₁ N₁
    refine absG fun G9 hG9 => ?_
    obtain ⟨rfl, hmb, ⟨tc, hcn⟩⟩ := hJ
    clear F9 N9
    refine hG9 ?_; clear hG9
    (repeat' (first | (k_unfold; (try dsimp only)) | (k_extra "mycall") | (k_extra "mystep") | (k_extra "no for"; k_extra "head")))
    ((with_reducible rename Fr _ _ _ _ => F9); (with_reducible rename News _ _ _ _ => N9))
    ((repeat' (first | k_unfold | dsimp only)))
    have hall : xs.take vs.length = xs := List.take_of_length_le (by rw [hx.1]; exact Nat.le_refl _)
    rw [hall]
    exact ret _ _ _ (ext_of G' F9)
theorem c_countB {w : World} {loose : List Str} {mean : ExcName → Option Value} {mg mb : Str → Option Value} {ht : Heap} (X : (Mine.hd.heap_1 w.params).In ht) (T : Top Mine.hd.view_1 loose mean mg mb ht) {A : Around} (hA : A.handled = none) {s : Shared} (ek : ht.StaysIn s.heap) {Q E : Value → Shared → Prop} (hroom : A.depth + 1 < recursionLimit) {l : Addr} {ol : Obj} {nl : Nat} {bs : List Bool} (hol : s.heap.get? l = some ol) (hoc : ol.cls = .type "list") (hod : ol.data = .seq (bs.map Value.bool).toArray nl) (hsz : bs.length < 100)
    (ret : ∀ t h' tk', Ext [] s.heap h' → Q (.int (bs.countP (· == true) : Nat) t) { s with heap := h', toks := tk' }) :
    wpAny (model PySem.Challenge.rw_ti0061_01.prog w) A (call (.ref 66) [.ref l, .bool true] []) Q E s := by
  ((revert X; k_fill; intro X; obtain ⟨hh, dp, fr, gd, un⟩ := A; cases hA; (dsimp only at hroom)))
  refine' callM [] ?k1 ?k2 ?k3 ?k4 ?k6 ?k7 ?k8 ?k9 ?kB ?_ ?c5 ?c2 ?c3 ?c4
  (case k4 => ((intro q h9; exact nomatch h9)))
  ((case k1 => assumption); (case k2 => assumption); (case k3 => assumption); (case k6 => k_is); (case k7 => k_is); (case k8 => ((try simp only [depth_under_make, depth_under_kw, depth_in1, depth_deeper]); (try dsimp only); omega)); (case k9 => first | exact BindsTo.of_eq rfl | exact binds_K (Frag.In.keeps (by assumption) (by assumption)) rfl (by k_is) rfl rfl rfl); (case kB => exact locs rfl); (case c5 => decide); (case c2 => exact rfl); (case c3 => exact rfl); (case c4 => exact rfl))
  intro g' L' h' F' N' X' T' G' st' l'
  (try dsimp only); (try k_fold)
  have gl : g'.get? l = some ol := G' _ _ hol (by simp)
  (repeat' (first | (k_unfold; (try dsimp only)) | (k_extra "mycall") | (k_extra "mystep") | (k_extra "no for"; k_extra "head")))
  refine forL ?_
  (repeat' (first | (k_unfold; (try dsimp only)) | (k_extra "mycall") | (k_extra "mystep") | (k_extra "no for"; k_extra "head")))
  ((with_reducible rename Fr _ _ _ _ => F9); (with_reducible rename News _ _ _ _ => N9))
  refine ⟨g', l, bs.map Value.bool, fun i m news => news = [] ∧ m (Str.ofString "b") = some (.bool true) ∧ (∃ t, m (Str.ofString "count") = some (.int ((bs.take i).countP (· == true) : Nat) t)), _, _, ol, nl, rfl, rfl, F9, N9, hoc, hod, .inl gl, ⟨rfl, rfl, ⟨_, rfl⟩⟩, ?_, ?_⟩
  · intro i v m₁ news₁ h tk I oI hv hJ hc F₁ N₁ off
    refine absG fun G9 hG9 => ?_
    obtain ⟨rfl, hmb, ⟨tc, hcn⟩⟩ := hJ
    have hlt : i < bs.length := by simpa using (List.getElem?_eq_some_iff.mp hv).1
    obtain ⟨x, hxi⟩ : ∃ x, bs[i]? = some x:= ⟨_, List.getElem?_eq_getElem hlt⟩
    refine hG9 ?_; clear hG9
    obtain rfl : Value.bool x = v := by rw [List.getElem?_map, hxi] at hv; exact Option.some.inj hv
    have hcb : (bs.take i).countP (· == true) ≤ i := Nat.le_trans List.countP_le_length (by simp; omega)
    have hst := count_step (· == true) hxi
    clear F9 N9
    cases x
    · (repeat' (first | (k_unfold; (try dsimp only)) | (k_extra "mycall") | (k_extra "mystep") | (k_extra "no for"; k_extra "head")))
      ((with_reducible rename Fr _ _ _ _ => F9); (with_reducible rename News _ _ _ _ => N9))
      exact ⟨_, _, _, [], rfl, F9, N9, (fun p h => nomatch h), rfl, hmb, ⟨_, by rw [hst, if_neg (by decide)]; exact hcn⟩⟩
    · (repeat' (first | (k_unfold; (try dsimp only)) | (k_extra "mycall") | (k_extra "mystep") | (k_extra "no for"; k_extra "head")))
      ((with_reducible rename Fr _ _ _ _ => F9); (with_reducible rename News _ _ _ _ => N9))
      exact ⟨_, _, _, [], rfl, F9, N9, (fun p h => nomatch h), rfl, hmb, ⟨_, by rw [hst, if_pos (by decide)]; rfl⟩⟩
  · intro m₁ news₁ h tk hJ F₁ N₁
    refine absG fun G9 hG9 => ?_
    obtain ⟨rfl, hmb, ⟨tc, hcn⟩⟩ := hJ
    clear F9 N9
    refine hG9 ?_; clear hG9
    (repeat' (first | (k_unfold; (try dsimp only)) | (k_extra "mycall") | (k_extra "mystep") | (k_extra "no for"; k_extra "head")))
    ((with_reducible rename Fr _ _ _ _ => F9); (with_reducible rename News _ _ _ _ => N9))
    ((repeat' (first | k_unfold | dsimp only)))
    have hall : bs.take (bs.map Value.bool).length = bs := List.take_of_length_le (by simp)
    rw [hall]
    exact ret _ _ _ (ext_of G' F9)

set_option hygiene false
theorem tup_inj {h : Heap} {t : Addr} {a b : Array Value} (x : h.IsTuple t a) (y : h.IsTuple t b) : a = b := by
  obtain ⟨o, e, _, n, d⟩ := x; obtain ⟨o', e', _, n', d'⟩ := y
  rw [e] at e'; cases e'; rw [d] at d'; cases d'; rfl
noncomputable def KVP (g : Heap) (x y : Str) (v : Value) (m : Str → Option Value) : Prop := ∃ t v₁ v₂, v = .ref t ∧ g.IsTuple t #[v₁, v₂] ∧ m x = some v₁ ∧ m y = some v₂
theorem asgPair2 {prog : Program} {w : World} {A : Around} {s : Shared} {env : Env} {scope : Scope} {cl : List (Str × Addr)} {g : Heap} {x y : Str} {px py pt : Pos} {xx} (hh : A.handled = none) (hkind : scope.kind = .function) (hx : scope.names.lookup x = some .local) (hy : scope.names.lookup y = some .local) (hxy : x ≠ y) {t : Addr} {v₁ v₂ : Value} (ht : g.IsTuple t #[v₁, v₂]) :
    AsgN prog w A s g (.Tuple [.Name x px, .Name y py] xx pt) scope cl env (KVP g x y) (.ref t) := fun C h tk m' Q E hn hk hQ =>
  asgPair hh hkind hx hy hxy ht C h tk m' Q E hn hk fun h' tk' m'' hn' hKV hk' => hQ h' tk' m'' hn' ⟨t, v₁, v₂, rfl, ht, hKV rfl⟩ hk'
theorem StrsAt.snoc {P : Tok → Prop} {vs : List Value} {xs : List Str} (S : StrsAt P vs xs) {x : Str} {k : Tok} (hk : P k) : StrsAt P (vs ++ [.str x k]) (xs ++ [x]) := by
  refine ⟨by simp [S.1], fun i v y h1 h2 => ?_⟩
  by_cases hi : i < vs.length
  · exact S.2 i v y (by rwa [List.getElem?_append_left hi] at h1) (by rwa [List.getElem?_append_left (S.1 ▸ hi)] at h2)
  · have : i = vs.length := by
      have := (List.getElem?_eq_some_iff.mp h1).1; simp at this; omega
    subst this
    rw [List.getElem?_append_right (Nat.le_refl _)] at h1
    rw [S.1, List.getElem?_append_right (Nat.le_refl _)] at h2
    simp at h1 h2
    exact ⟨k, by rw [← h1, h2], hk⟩
theorem take_map_succ {α β : Type} (f : α → β) {l : List α} {i : Nat} {a : α} (h : l[i]? = some a) : (l.take (i + 1)).map f = (l.take i).map f ++ [f a] := by rw [List.take_add_one, h]; simp
theorem Ents.item {P : Tok → Prop} {h : Heap} {ts : List Addr} {es : List (Str × Str)} (E : Ents P h ts es) {i : Nat} {v : Value} (hv : (refs ts)[i]? = some v) : Ex4 fun t e k1 k2 => Cj4 (v = .ref t) (es[i]? = some e) (P k2) (h.IsTuple t #[.str e.1 k1, .str e.2 k2]):= by
  rw [refs, List.getElem?_map] at hv
  cases hti : ts[i]? with
  | none => rw [hti] at hv; cases hv
  | some t =>
    rw [hti] at hv; cases hv
    have hlt := (List.getElem?_eq_some_iff.mp hti).1
    have he : es[i]? = some (es[i]'(E.1 ▸ hlt)) := List.getElem?_eq_getElem _
    refine absG fun G9 hG9 => ?_
    obtain ⟨k1, k2, hPk, htup⟩ := E.2 i t _ hti he
    refine hG9 ?_; clear hG9
    exact ⟨t, _, k1, k2, rfl, he, hPk, htup⟩
theorem new_of {s₁ g : Heap} {xs : List Addr} {D : Addr} (G : GSub s₁ g xs) (h0 : g.get? D = none) (hn : D ∉ xs) : s₁.get? D = none := by
  cases e : s₁.get? D with
  | none => rfl
  | some o => have := G D o e hn; rw [h0] at this; cases this
theorem c_vals {w : World} {loose : List Str} {mean : ExcName → Option Value} {mg mb : Str → Option Value} {ht : Heap} (X : (Mine.hd.heap_1 w.params).In ht) (T : Top Mine.hd.view_1 loose mean mg mb ht) {A : Around} (hA : A.handled = none) {s : Shared} (ek : ht.StaysIn s.heap) {Q E : Value → Shared → Prop} {P : Tok → Prop} (hroom : A.depth + 1 < recursionLimit) {tb d hl : Addr} {ol : Obj} {nl : Nat} {ts : List Addr} {es : List (Str × Str)} (TB : Tab P ht s.heap tb d hl ol nl ts es) (hsz : es.length < 100)
    (ret : ∀ D vs h' tk', Ext [] s.heap h' → s.heap.get? D = none → h'.get? D = some (LCg.lst vs) → StrsAt P vs (es.map (·.2)) → Q (.ref D) { s with heap := h', toks := tk' }) :
    wpAny (model PySem.Challenge.rw_ti0061_01.prog w) A (call (.ref 199) [.ref tb] []) Q E s := by
  ((revert X; k_fill; intro X; obtain ⟨hh, dp, fr, gd, un⟩ := A; cases hA; (dsimp only at hroom)))
  refine absG fun G9 hG9 => ?_
  obtain ⟨hk, kt, dn, hms⟩ := Tab.ms TB.toTabI
  refine hG9 ?_; clear hG9
  (( refine' callM [(tb, instObj 242 d), (d, dictOf [⟨hk, .str (Str.ofString "_headers") kt, .ref hl⟩] dn)] ?k1 ?k2 ?k3 ?k4 ?k6 ?k7 ?k8 ?k9 ?kB ?_ ?c5 ?c2 ?c3 ?c4; (case k4 => exact hms); ((case k1 => assumption); (case k2 => assumption); (case k3 => assumption); (case k6 => k_is); (case k7 => k_is); (case k8 => ((try simp only [depth_under_make, depth_under_kw, depth_in1, depth_deeper]); (try dsimp only); omega)); (case k9 => first | exact BindsTo.of_eq rfl | exact binds_K (Frag.In.keeps (by assumption) (by assumption)) rfl (by k_is) rfl rfl rfl); (case kB => exact locs rfl); (case c5 => decide); (case c2 => exact rfl); (case c3 => exact rfl); (case c4 => exact rfl)); intro g' L' h' F' N' X' T' G' st' l'; (try dsimp only); (try k_fold)))
  have gts : Ents P g' ts es := (TB.ground G').2
  have gl : g'.get? hl = some ol := (TB.ground G').1
  (repeat' (first | (k_unfold; (try dsimp only)) | (k_extra "mycall") | (k_extra "mystep") | (k_extra "no for"; k_extra "head")))
  ((with_reducible rename Fr _ _ _ _ => F9); (with_reducible rename News _ _ _ _ => N9))
  refine compE F9 (by with_unfolding_all rfl) (by decide) (by rfl) (by decide) ?_
  (repeat' (first | (k_unfold; (try dsimp only)) | (k_extra "mycall") | (k_extra "mystep") | (k_extra "no for"; k_extra "head")))
  ((with_reducible rename Fr _ _ _ _ => F9); (with_reducible rename News _ _ _ _ => N9))
  refine .inl ⟨hl, refs ts, _, ol, nl, KVP g' (Str.ofString "k") (Str.ofString "v"), fun i _ ys nw => nw = [(tb, instObj 242 d), (d, dictOf [⟨hk, .str (Str.ofString "_headers") kt, .ref hl⟩] dn)] ∧ StrsAt P ys ((es.take i).map (·.2)), rfl, rfl, F9, N9, TB.cls, TB.data, .inl gl, ?_, ?_, ?_, ?_, ?_⟩
  · have := gts.1; simp only [refs, List.length_map, sizeLine_eq]; omega
  · rintro i _ ys nw ⟨_, S⟩; rw [S.1]; simp only [List.length_map, List.length_take]; omega
  · exact fun _ _ => ⟨rfl, rfl, fun i v x h => by simp at h⟩
  · rintro s₂ ⟨hs2, rfl⟩
    constructor
    · intro i v hv
      refine absG fun G9 hG9 => ?_
      obtain ⟨t, e, k1, k2, rfl, he, hPk, htup⟩ := gts.item hv
      refine hG9 ?_; clear hG9
      exact asgPair2 rfl rfl rfl rfl (by decide) htup
    · rintro i v tk₀ tk ys nw I oI D C oC m₂ h E' hi hv ⟨rfl, S⟩ htk hNs hKV F₁ N₁ off ne
      refine absG fun G9 hG9 => ?_
      obtain ⟨t, e, k1, k2, rfl, he, hPk, htup⟩ := gts.item hv
      obtain ⟨t', v1, v2, e1, ht', hk', hv'⟩ := hKV
      refine hG9 ?_; clear hG9
      cases e1
      have e2 := tup_inj ht' htup
      cases e2
      clear F9 N9
      refine TestM.nil ?_
      (repeat' (first | (k_unfold; (try dsimp only)) | (k_extra "mycall") | (k_extra "mystep") | (k_extra "no for"; k_extra "head")))
      ((with_reducible rename Fr _ _ _ _ => F9); (with_reducible rename News _ _ _ _ => N9))
      refine ⟨_, _, _, rfl, F9, N9, off, rfl, ?_⟩
      rw [take_map_succ _ he]
      exact S.snoc hPk
  · rintro D tk₀ tk ys nw h ⟨rfl, S⟩ htk F₁ N₁ off
    clear F9 N9
    ((with_reducible rename Fr _ _ _ _ => F9); (with_reducible rename News _ _ _ _ => N9))
    ((repeat' (first | k_unfold | dsimp only)))
    have hall : es.take (refs ts).length = es := List.take_of_length_le (by simp only [refs, List.length_map]; rw [gts.1]; exact Nat.le_refl _)
    rw [hall] at S
    exact ret _ _ _ _ (ext_ms (fun q hq => (hms q hq).1) G' F9 N9 (fun q hq => .inl (List.mem_cons_of_mem _ hq))) (new_of G' (N9 _ List.mem_cons_self).2.2 (by simpa [OffC, eq_comm] using off)) (N9 _ List.mem_cons_self).1 S
theorem c_items {w : World} {loose : List Str} {mean : ExcName → Option Value} {mg mb : Str → Option Value} {ht : Heap} (X : (Mine.hd.heap_1 w.params).In ht) (T : Top Mine.hd.view_1 loose mean mg mb ht) {A : Around} (hA : A.handled = none) {s : Shared} (ek : ht.StaysIn s.heap) {Q E : Value → Shared → Prop} {P : Tok → Prop} (hroom : A.depth + 1 < recursionLimit) {tb d hl : Addr} {ol : Obj} {nl : Nat} {ts : List Addr} {es : List (Str × Str)} (TB : Tab P ht s.heap tb d hl ol nl ts es) (hsz : es.length < 100)
    (ret : ∀ D n' h' tk', Ext [] s.heap h' → s.heap.get? D = none → h'.get? D = some (listOf (refs ts).toArray n') → Q (.ref D) { s with heap := h', toks := tk' }) :
    wpAny (model PySem.Challenge.rw_ti0061_01.prog w) A (call (.ref 206) [.ref tb] []) Q E s := by
  ((revert X; k_fill; intro X; obtain ⟨hh, dp, fr, gd, un⟩ := A; cases hA; (dsimp only at hroom)))
  refine absG fun G9 hG9 => ?_
  obtain ⟨hk, kt, dn, hms⟩ := Tab.ms TB.toTabI
  refine hG9 ?_; clear hG9
  (( refine' callM [(tb, instObj 242 d), (d, dictOf [⟨hk, .str (Str.ofString "_headers") kt, .ref hl⟩] dn)] ?k1 ?k2 ?k3 ?k4 ?k6 ?k7 ?k8 ?k9 ?kB ?_ ?c5 ?c2 ?c3 ?c4; (case k4 => exact hms); ((case k1 => assumption); (case k2 => assumption); (case k3 => assumption); (case k6 => k_is); (case k7 => k_is); (case k8 => ((try simp only [depth_under_make, depth_under_kw, depth_in1, depth_deeper]); (try dsimp only); omega)); (case k9 => first | exact BindsTo.of_eq rfl | exact binds_K (Frag.In.keeps (by assumption) (by assumption)) rfl (by k_is) rfl rfl rfl); (case kB => exact locs rfl); (case c5 => decide); (case c2 => exact rfl); (case c3 => exact rfl); (case c4 => exact rfl)); intro g' L' h' F' N' X' T' G' st' l'; (try dsimp only); (try k_fold)))
  have gts : Ents P g' ts es := (TB.ground G').2
  have gl : g'.get? hl = some ol := (TB.ground G').1
  (repeat' (first | (k_unfold; (try dsimp only)) | (k_extra "mycall") | (k_extra "mystep") | (k_extra "no for"; k_extra "head")))
  ((with_reducible rename Fr _ _ _ _ => F9); (with_reducible rename News _ _ _ _ => N9))
  refine kms_slice_lit (zs := refs ts) F9 N9 (its := (refs ts).toArray) ⟨ol, F9.keep _ _ gl, TB.cls, nl, TB.data⟩ .none .none (by simp [kms_pick, kms_lo, kms_hi]) (fun D h2 F2 N2 hD => ?_) (by with_unfolding_all rfl) (by intro _; with_unfolding_all rfl) (by have := gts.1; simp only [refs, List.length_map, List.size_toArray, sizeLine_eq]; omega)
  clear F9 N9
  ((with_reducible rename Fr _ _ _ _ => F9); (with_reducible rename News _ _ _ _ => N9))
  ((repeat' (first | k_unfold | dsimp only)))
  exact ret _ _ _ _ (ext_ms (fun q hq => (hms q hq).1) G' F9 N9 (fun q hq => .inl (List.mem_cons_of_mem _ hq))) (new_of G' (N9 _ List.mem_cons_self).2.2 (fun q => by
    refine absG fun G9 hG9 => ?_
    obtain ⟨p, hp, e⟩ := List.mem_map.mp q
    refine hG9 ?_; clear hG9
    exact Nat.lt_irrefl D (by have := hD p hp; rw [e] at this; exact this))) (N9 _ List.mem_cons_self).1

section
variable {prog : Program} {w : World} {A : Around} {s : Shared} {K : Frag} {ht : Heap} {p : Program} {loose : List Str} {mean : ExcName → Option Value} {mg mb : Str → Option Value} {f : Addr} {oc : Value} {od : Option Addr} {osl : Array (Option Value)}
  {name qual : Str} {params : Arguments} {body : List Stmt} {scope : Scope} {dV kV doc pm cdv ct : Value} {an : Option Addr} {pos : List Value} {kw : List (Str × Value)} {binds : List (Str × Value)} {R : Result → Shared → Prop}
theorem codeM (ms : List (Addr × Obj)) (X : K.In ht) (T : Top p loose mean mg mb ht) (ek : ht.StaysIn s.heap) (hms : ∀ q ∈ ms, s.heap.get? q.1 = some q.2 ∧ ht.get? q.1 = none)
    (ho : K.lookup f = some ⟨oc, od, .func (fnOf name qual params body scope dV kV doc pm an cdv ct), osl⟩) (hcd : codeIn K cdv qual = true) (hroom : A.depth < recursionLimit)
    (hbind : BindsTo s (fnOf name qual params body scope dV kV doc pm an cdv ct) ⟨pos, kw⟩ binds) (hloc : ∀ y ∈ binds, scope.names.lookup y.1 = some .local)
    (h : ∀ g L' h₁, Fr g L' h₁ (fun y => binds.reverse.lookup y) → News g L' h₁ ms → K.In g → Top p loose mean mg mb g → GSub s.heap g (ms.map (·.1)) → ht.StaysIn g → s.heap.objs.size = L' →
      wpAny (model prog w) (A.deeper (envOf qual scope L' f cdv)) (execs body (envOf qual scope L' f cdv))
        (fun fl s' => R (.ok (.ret (match fl with | .ret v => v | _ => .none))) s') (fun _ _ => False) { s with heap := h₁, toks := s.toks + binds.length })
    (hcell : ∀ x ∈ scope.names, x.2 ≠ .cell) (hco : scope.isCoroutine = false := by rfl) (hgen : scope.isGenerator = false := by rfl) (hk : scope.kind = .function := by rfl) :
    codeAny (model prog w) A (.call (.ref f) ⟨pos, kw⟩) R s := by
  refine codeAny_call_def (fd := fnOf name qual params body scope dV kV doc pm an cdv ct) (body := body) (binds := binds) hroom (ek _ _ (X _ _ ho)) rfl (T.nolimit.keeps ek) (codeRec_of (X.keeps ek) hcd) rfl hbind hcell hloc (fun h₁ hns hk₁ => ?_) hco hgen hk
  have st := ground ek hms
  have Xg := Frag.In.keeps X st
  have Tg := Top.keeps T st
  refine wpAny_mono (h (hideAll s.heap (ms.map (·.1))) s.heap.objs.size h₁ ⟨hns, fun b o e => hk₁ b o (of_hideAll _ e), Nat.le_of_eq (hideAll_size _ _)⟩
    (fun q hq => ⟨hk₁ _ _ (hms q hq).1, Nat.ne_of_lt (Heap.lt_size (hms q hq).1), hideAll_none _ (List.mem_map_of_mem hq)⟩) Xg Tg (fun b o e n => hideAll_get _ e n) st rfl) (fun fl s' hl => hl) fun _ _ x => x.elim
end
set_option hygiene false
noncomputable def hdict (hk : Int) (kt : Tok) (hl : Addr) (dn : Nat) : Obj := dictOf [⟨hk, .str (Str.ofString "_headers") kt, .ref hl⟩] dn
theorem c_init0 {w : World} {loose : List Str} {mean : ExcName → Option Value} {mg mb : Str → Option Value} {ht : Heap} (X : (Mine.hd.heap_1 w.params).In ht) (T : Top Mine.hd.view_1 loose mean mg mb ht) {A : Around} (hA : A.handled = none) {s : Shared} (ek : ht.StaysIn s.heap) {R : Result → Shared → Prop} (hroom : A.depth + 1 < recursionLimit)
    {x d : Addr} (i1 : s.heap.get? x = some (instObj 242 d)) (i2 : s.heap.get? d = some (dictOf [] 0)) (n1 : ht.get? x = none) (n2 : ht.get? d = none) (hxd : x ≠ d)
    (ret : ∀ h' tk' hk kt hl dn, Ext [d] s.heap h' → s.heap.get? hl = none → hl ≠ x → hl ≠ d → h'.get? x = some (instObj 242 d) → h'.get? d = some (hdict hk kt hl dn) → h'.get? hl = some (listOf #[] 0) → R (.ok (.ret .none)) { s with heap := h', toks := tk' }) :
    codeAny (model PySem.Challenge.rw_ti0061_01.prog w) A (.call (.ref 134) ⟨[.ref x], []⟩) R s := by
  ((revert X; k_fill; intro X; obtain ⟨hh, dp, fr, gd, un⟩ := A; cases hA; (dsimp only at hroom)))
  have hms : ∀ q ∈ [(x, instObj 242 d), (d, dictOf [] 0)], s.heap.get? q.1 = some q.2 ∧ ht.get? q.1 = none := (fa_cons (⟨i1, n1⟩) (fa_one (⟨i2, n2⟩)))
  refine' codeM [(x, instObj 242 d), (d, dictOf [] 0)] ?k1 ?k2 ?k3 ?k4 ?k6 ?k7 ?k8 ?k9 ?kB ?_ ?c5 ?c2 ?c3 ?c4
  (case k4 => exact hms)
  ((case k1 => assumption); (case k2 => assumption); (case k3 => assumption); (case k6 => k_is); (case k7 => k_is); (case k8 => ((try simp only [depth_under_make, depth_under_kw, depth_in1, depth_deeper]); (try dsimp only); omega)); (case k9 => first | exact BindsTo.of_eq rfl | exact binds_K (Frag.In.keeps (by assumption) (by assumption)) rfl (by k_is) rfl rfl rfl); (case kB => exact locs rfl); (case c5 => decide); (case c2 => exact rfl); (case c3 => exact rfl); (case c4 => exact rfl))
  intro g' L' h' F' N' X' T' G' st' l'
  (try dsimp only); (try k_fold)
  (repeat' (first | (k_unfold; (try dsimp only)) | (k_extra "mycall") | (k_extra "mystep") | (k_extra "no for"; k_extra "head")))
  refine forL ?_
  (repeat' (first | (k_unfold; (try dsimp only)) | (k_extra "mycall") | (k_extra "mystep") | (k_extra "no for"; k_extra "head")))
  ((with_reducible rename Fr _ _ _ _ => F9); (with_reducible rename News _ _ _ _ => N9))
  rename _ < _ ∧ _ < _ => lt9
  refine ⟨g', _, [], fun i m nw => nw = _, _, _, _, 0, rfl, rfl, F9, N9, rfl, rfl, .inr ⟨by k_mem, fun i m nw q => by rw [q]; k_mem⟩, rfl, ?_, ?_⟩
  · intro i v m₁ news₁ h tk I oI hv
    simp at hv
  · rintro m₁ news₁ h tk rfl F₁ N₁
    clear F9 N9
    (repeat' (first | (k_unfold; (try dsimp only)) | (k_extra "mycall") | (k_extra "mystep") | (k_extra "no for"; k_extra "head")))
    ((with_reducible rename Fr _ _ _ _ => F9); (with_reducible rename News _ _ _ _ => N9))
    ((repeat' (first | k_unfold | dsimp only)))
    exact ret _ _ _ _ _ _ (ext_ms (fun q hq => (hms q hq).1) G' F9 N9 ((fa_cons (.inl (.tail _ (.head _))) (fa_one (.inr (.head _))))))
      (new_of G' (N9 _ List.mem_cons_self).2.2 (by simpa using ⟨(Nat.ne_of_lt lt9.1).symm, (Nat.ne_of_lt lt9.2).symm⟩)) (Nat.ne_of_lt lt9.1).symm (Nat.ne_of_lt lt9.2).symm (N9 _ (.tail _ (.head _))).1 (N9 _ (mem_at 2 rfl)).1 (N9 _ (.head _)).1
theorem c_init1 {P : Tok → Prop} {w : World} {loose : List Str} {mean : ExcName → Option Value} {mg mb : Str → Option Value} {ht : Heap} (X : (Mine.hd.heap_1 w.params).In ht) (T : Top Mine.hd.view_1 loose mean mg mb ht) {A : Around} (hA : A.handled = none) {s : Shared} (ek : ht.StaysIn s.heap) {R : Result → Shared → Prop} (hroom : A.depth + 2 < recursionLimit)
    {x d hl : Addr} {ol : Obj} {nl : Nat} {ts : List Addr} {es : List (Str × Str)} (i1 : s.heap.get? x = some (instObj 242 d)) (i2 : s.heap.get? d = some (dictOf [] 0)) (n1 : ht.get? x = none) (n2 : ht.get? d = none) (hol : s.heap.get? hl = some ol) (hxd : x ≠ d) (hlx : hl ≠ x) (hld : hl ≠ d) (hoc : ol.cls = .type "list") (hod : ol.data = .seq (refs ts).toArray nl)
    (en : Ents P s.heap ts es) (hms1 : ∀ e ∈ es, Misses 114 e.1 ∧ Misses 119 e.2 ∧ e.1.length < 100)
    (ret : ∀ h' tk' hk kt dn, Ext [d] s.heap h' → h'.get? x = some (instObj 242 d) → h'.get? d = some (hdict hk kt hl dn) → R (.ok (.ret .none)) { s with heap := h', toks := tk' }) :
    codeAny (model PySem.Challenge.rw_ti0061_01.prog w) A (.call (.ref 134) ⟨[.ref x, .ref hl], []⟩) R s := by
  ((revert X; k_fill; intro X; obtain ⟨hh, dp, fr, gd, un⟩ := A; cases hA; (dsimp only at hroom)))
  have hms : ∀ q ∈ [(x, instObj 242 d), (d, dictOf [] 0)], s.heap.get? q.1 = some q.2 ∧ ht.get? q.1 = none := (fa_cons (⟨i1, n1⟩) (fa_one (⟨i2, n2⟩)))
  refine' codeM [(x, instObj 242 d), (d, dictOf [] 0)] ?k1 ?k2 ?k3 ?k4 ?k6 ?k7 ?k8 ?k9 ?kB ?_ ?c5 ?c2 ?c3 ?c4
  (case k4 => exact hms)
  ((case k1 => assumption); (case k2 => assumption); (case k3 => assumption); (case k6 => k_is); (case k7 => k_is); (case k8 => ((try simp only [depth_under_make, depth_under_kw, depth_in1, depth_deeper]); (try dsimp only); omega)); (case k9 => first | exact BindsTo.of_eq rfl | exact binds_K (Frag.In.keeps (by assumption) (by assumption)) rfl (by k_is) rfl rfl rfl); (case kB => exact locs rfl); (case c5 => decide); (case c2 => exact rfl); (case c3 => exact rfl); (case c4 => exact rfl))
  intro g' L' h' F' N' X' T' G' st' l'
  (try dsimp only); (try k_fold)
  have gl : g'.get? hl = some ol := G' _ _ hol (not_mem2 hlx hld)
  have gts : Ents P g' ts es := en.keeps2 fun t o ho hc => G' _ _ ho (not_mem2 (ne_cls ho i1 (hc ▸ type_ref)) (ne_cls ho i2 (hc ▸ type_ne (by decide))))
  (repeat' (first | (k_unfold; (try dsimp only)) | (k_extra "mycall") | (k_extra "mystep") | (k_extra "no for"; k_extra "head")))
  ((with_reducible rename Fr _ _ _ _ => F9); (with_reducible rename News _ _ _ _ => N9))
  refine kto_cont (T := "list") ⟨ol, F9.keep _ _ gl, hoc⟩ (by decide +kernel) ?_
  (repeat' (first | (k_unfold; (try dsimp only)) | (k_extra "mycall") | (k_extra "mystep") | (k_extra "no for"; k_extra "head")))
  refine forL ?_
  (repeat' (first | (k_unfold; (try dsimp only)) | (k_extra "mycall") | (k_extra "mystep") | (k_extra "no for"; k_extra "head")))
  ((with_reducible rename Fr _ _ _ _ => F9); (with_reducible rename News _ _ _ _ => N9))
  refine ⟨g', hl, refs ts, fun i m nw => nw = _ ∧ m (Str.ofString "self") = some (.ref x), _, _, ol, nl, rfl, rfl, F9, N9, hoc, hod, .inl gl, ⟨rfl, rfl⟩, ?_, ?_⟩
  · rintro i v m₁ news₁ h tk I oI hv ⟨rfl, hself⟩ hcI F₁ N₁ off
    refine absG fun G9 hG9 => ?_
    obtain ⟨t, e, k1, k2, rfl, he, hPk, htup⟩ := gts.item hv
    obtain ⟨q1, q2, q3⟩ := hms1 e (List.mem_of_getElem? he)
    clear F9 N9
    have htup' : h.IsTuple t #[.str e.1 k1, .str e.2 k2] := let ⟨o, ho, r⟩ := htup; ⟨o, F₁.keep _ _ ho, r⟩
    refine hG9 ?_; clear hG9
    (repeat' (first | (k_unfold; (try dsimp only)) | (k_extra "mycall") | (k_extra "mystep") | (k_extra "no for"; k_extra "head")))
    ((with_reducible rename Fr _ _ _ _ => F9); (with_reducible rename News _ _ _ _ => N9))
    exact ⟨_, _, _, _, rfl, F9, N9, off, rfl, hself⟩
  · rintro m₁ news₁ h tk ⟨rfl, hself⟩ F₁ N₁
    clear F9 N9
    (repeat' (first | (k_unfold; (try dsimp only)) | (k_extra "mycall") | (k_extra "mystep") | (k_extra "no for"; k_extra "head")))
    ((with_reducible rename Fr _ _ _ _ => F9); (with_reducible rename News _ _ _ _ => N9))
    ((repeat' (first | k_unfold | dsimp only)))
    exact ret _ _ _ _ _ (ext_ms (fun q hq => (hms q hq).1) G' F9 N9 ((fa_cons (.inl (.head _)) (fa_one (.inr (.head _))))))
      (N9 _ (.head _)).1 (N9 _ (.tail _ (.head _))).1
theorem c_new0 {w : World} {loose : List Str} {mean : ExcName → Option Value} {mg mb : Str → Option Value} {g : Heap} (X : (Mine.hd.heap_1 w.params).In g) (T : Top Mine.hd.view_1 loose mean mg mb g) {A : Around} (hA : A.handled = none) {s : Shared} {Q E : Value → Shared → Prop} (hroom : A.depth + 4 < recursionLimit) {L : Addr} {m : Str → Option Value} {news : List (Addr × Obj)}
    (F : Fr g L s.heap m) (N : News g L s.heap news)
    (ret : ∀ x d hl h' tk' hk kt dn, Fr g L h' m → News g L h' ((x, instObj 242 d) :: (d, hdict hk kt hl dn) :: (hl, listOf #[] 0) :: news) → x ≠ d ∧ hl ≠ x ∧ hl ≠ d → (∀ p ∈ news, p.1 ≠ x ∧ p.1 ≠ d ∧ p.1 ≠ hl) → Q (.ref x) { s with heap := h', toks := tk' }) :
    wpAny (model PySem.Challenge.rw_ti0061_01.prog w) A (call (.ref 242) [] []) Q E s := by
  refine call_cls (fI := 134) F X N (by kernel_rfl) (by kernel_rfl) (by kernel_rfl) fun x d h1 F1 N1 l1 l2 => ?_
  have e1 := N1 _ (.head _)
  have e2 := N1 _ (.tail _ (.head _))
  refine' c_init0 (A := A.under (.builtin "type.__call__" ⟨[.ref 242], []⟩)) (s := { s with heap := h1 }) X T hA ?e ?r e1.1 e2.1 e1.2.2 e2.2.2 (Nat.ne_of_lt l2).symm fun h' tk' hk kt hl dn e hnew h3 h4 i1 i2 i3 => ?_
  (case e => exact F1.keep)
  (case r => k_extra "room")
  have F2 : Fr g L h' m := Mine.Fr.extx F1 e fun b hb => by rw [List.mem_singleton.mp hb]; exact ⟨e2.2.2, e2.2.1⟩
  have n0 : g.get? hl = none := by
    cases q : g.get? hl with
    | none => rfl
    | some o => have := F1.keep _ _ q; rw [hnew] at this; cases this
  refine ⟨rfl, ret x d hl h' tk' hk kt dn F2 (fun p hp => ?_) ⟨(Nat.ne_of_lt l2).symm, h3, h4⟩ (fun p hp => ?_)⟩
  · rcases List.mem_cons.mp hp with rfl | hp
    · exact ⟨i1, e1.2⟩
    rcases List.mem_cons.mp hp with rfl | hp
    · exact ⟨i2, e2.2⟩
    rcases List.mem_cons.mp hp with rfl | hp
    · exact ⟨i3, (fun q => by obtain ⟨oL, _, _, hL, _⟩ := F1.ns; rw [← (show hl = L from q), hnew] at hL; cases hL), n0⟩
    · have z := N1 p (.tail _ (.tail _ hp))
      exact ⟨e _ _ z.1 (fun q => Nat.ne_of_lt (l1 p hp) (List.mem_singleton.mp q)), z.2⟩
  · have z := N1 p (.tail _ (.tail _ hp))
    exact ⟨Nat.ne_of_lt (Nat.lt_trans (l1 p hp) l2), Nat.ne_of_lt (l1 p hp), fun q => by rw [q, hnew] at z; cases z.1⟩
theorem c_new1 {P : Tok → Prop} {w : World} {loose : List Str} {mean : ExcName → Option Value} {mg mb : Str → Option Value} {g : Heap} (X : (Mine.hd.heap_1 w.params).In g) (T : Top Mine.hd.view_1 loose mean mg mb g) {A : Around} (hA : A.handled = none) {s : Shared} {Q E : Value → Shared → Prop} (hroom : A.depth + 5 < recursionLimit) {L : Addr} {m : Str → Option Value} {news : List (Addr × Obj)}
    (F : Fr g L s.heap m) (N : News g L s.heap news) {hl : Addr} {ol : Obj} {nl : Nat} {ts : List Addr} {es : List (Str × Str)} (hol : (hl, ol) ∈ news) (hoc : ol.cls = .type "list") (hod : ol.data = .seq (refs ts).toArray nl)
    (en : Ents P g ts es) (hms1 : ∀ e ∈ es, Misses 114 e.1 ∧ Misses 119 e.2 ∧ e.1.length < 100)
    (ret : ∀ x d h' tk' hk kt dn, Fr g L h' m → News g L h' ((x, instObj 242 d) :: (d, hdict hk kt hl dn) :: news) → x ≠ d → (∀ p ∈ news, p.1 ≠ x ∧ p.1 ≠ d) → Q (.ref x) { s with heap := h', toks := tk' }) :
    wpAny (model PySem.Challenge.rw_ti0061_01.prog w) A (call (.ref 242) [.ref hl] []) Q E s := by
  refine call_cls (fI := 134) F X N (by kernel_rfl) (by kernel_rfl) (by kernel_rfl) fun x d h1 F1 N1 l1 l2 => ?_
  have e1 := N1 _ (.head _)
  have e2 := N1 _ (.tail _ (.head _))
  have e3 := N1 _ (.tail _ (.tail _ hol))
  refine' c_init1 (A := A.under (.builtin "type.__call__" ⟨[.ref 242, .ref hl], []⟩)) (s := { s with heap := h1 }) X T hA ?e ?r e1.1 e2.1 e1.2.2 e2.2.2 e3.1 (Nat.ne_of_lt l2).symm (Nat.ne_of_lt (Nat.lt_trans (l1 _ hol) l2)) (Nat.ne_of_lt (l1 _ hol)) hoc hod (en.keeps fun t _ o e => F1.keep t o e) hms1 fun h' tk' hk kt dn e i1 i2 => ?_
  (case e => exact F1.keep)
  (case r => k_extra "room")
  have F2 : Fr g L h' m := Mine.Fr.extx F1 e fun b hb => by rw [List.mem_singleton.mp hb]; exact ⟨e2.2.2, e2.2.1⟩
  refine ⟨rfl, ret x d h' tk' hk kt dn F2 (fun p hp => ?_) (Nat.ne_of_lt l2).symm (fun p hp => ⟨Nat.ne_of_lt (Nat.lt_trans (l1 p hp) l2), Nat.ne_of_lt (l1 p hp)⟩)⟩
  rcases List.mem_cons.mp hp with rfl | hp
  · exact ⟨i1, e1.2⟩
  rcases List.mem_cons.mp hp with rfl | hp
  · exact ⟨i2, e2.2⟩
  · have z := N1 p (.tail _ (.tail _ hp))
    exact ⟨e _ _ z.1 (fun q => Nat.ne_of_lt (l1 p hp) (List.mem_singleton.mp q)), z.2⟩

noncomputable def nameOf (g k : Nat) : Str := if g % 2 = 1 then upp k else low k
noncomputable def entOf (p : Nat × Nat) : Str × Str := (nameOf p.2 p.1, fig p.2)
noncomputable def ents (tab : List (Nat × Nat)) : List (Str × Str) := tab.map entOf
noncomputable def lookT (tab : List (Nat × Nat)) (k : Nat) : Option Nat := (tab.find? fun p => p.1 == k).map (·.2)
noncomputable def setT (tab : List (Nat × Nat)) (p : Nat × Nat) : List (Nat × Nat) := (tab.filter fun q => q.1 != p.1) ++ [p]
noncomputable abbrev SR := Option (List (Nat × Nat)) × List Nat
noncomputable def goL (rec : Nat → List Nat → SR) (look : Nat → Option Nat) (g : Nat) : List Nat → List Nat → SR
  | [], off => (none, off)
  | k :: ks, off => if off.contains k then goL rec look g ks off else
    match look k with
    | none => (some [(k, g)], off ++ [k])
    | some g' => match rec g' (off ++ [k]) with
      | (some ds, off') => (some (ds ++ [(k, g)]), off')
      | (none, off') => goL rec look g ks off'
noncomputable def seatN (look : Nat → Option Nat) (nn : Nat → List Nat) : Nat → Nat → List Nat → SR
  | 0, _, off => (none, off)
  | n + 1, g, off => goL (seatN look nn n) look g (nn g) off
noncomputable def openR (off : List Nat) : Nat := (List.range 4).countP fun k => !off.contains k
theorem openR_step {off : List Nat} {k : Nat} (hk : k < 4) (hn : off.contains k = false) : openR (off ++ [k]) + 1 = openR off := by
  have hn' : k ∉ off := by simpa using hn
  unfold openR
  simp only [List.contains_append, List.range, List.range.loop, List.countP_cons, List.countP_nil, List.contains_cons, List.contains_nil, Bool.or_false]
  match k, hk, hn' with
  | 0, _, hn' => simp [hn'] <;> omega
  | 1, _, hn' => simp [hn'] <;> omega
  | 2, _, hn' => simp [hn'] <;> omega
  | 3, _, hn' => simp [hn'] <;> omega
theorem low_low : ∀ k, k < 4 → Txt.lower (low k) = low k := by decide +kernel
theorem low_upp : ∀ k, k < 4 → Txt.lower (upp k) = low k := by decide +kernel
theorem upp_low : ∀ k, k < 4 → Txt.upper (low k) = upp k := by decide +kernel
theorem upp_upp : ∀ k, k < 4 → Txt.upper (upp k) = upp k := by decide +kernel
theorem low_inj : ∀ j, j < 4 → ∀ k, k < 4 → (low j == low k) = (j == k) := by decide +kernel
theorem low_name {g k : Nat} (hk : k < 4) : Txt.lower (nameOf g k) = low k := by
  unfold nameOf; split
  · exact low_upp k hk
  · exact low_low k hk
theorem len_low : ∀ k, k < 4 → (low k).length < 100 := by decide +kernel
theorem len_upp : ∀ k, k < 4 → (upp k).length < 100 := by decide +kernel
theorem find_ents {tab : List (Nat × Nat)} (ht : ∀ p ∈ tab, p.1 < 4) {k : Nat} (hk : k < 4) : (ents tab).find? (fun e => Txt.lower e.1 == low k) = (tab.find? fun p => p.1 == k).map entOf := by
  induction tab with
  | nil => rfl
  | cons p tab ih =>
    have hp := ht p List.mem_cons_self
    simp only [ents, List.map_cons, List.find?_cons]
    rw [show Txt.lower (entOf p).1 = low p.1 from low_name hp, low_inj _ hp _ hk]
    cases p.1 == k with
    | true => rfl
    | false => exact ih fun q hq => ht q (List.mem_cons_of_mem _ hq)
theorem ents_filter {tab : List (Nat × Nat)} (ht : ∀ p ∈ tab, p.1 < 4) {k : Nat} (hk : k < 4) : (ents tab).filter (fun e => !(Txt.lower e.1 == low k)) = ents (tab.filter fun q => q.1 != k) := by
  induction tab with
  | nil => rfl
  | cons p tab ih =>
    have hp := ht p List.mem_cons_self
    have h := ih fun q hq => ht q (List.mem_cons_of_mem _ hq)
    simp only [ents, List.map_cons, List.filter_cons, bne] at h ⊢
    rw [show Txt.lower (entOf p).1 = low p.1 from low_name hp, low_inj _ hp _ hk]
    cases q : p.1 == k with
    | true => simp only [Bool.not_true, Bool.false_eq_true, if_false]; exact h
    | false => simp only [Bool.not_false, if_true, List.map_cons]; rw [h]
section
variable {rec : Nat → List Nat → SR} {look : Nat → Option Nat} {g k g' : Nat} {ks off off' : List Nat} {ds : List (Nat × Nat)}
theorem goL_skip (h : off.contains k = true) : goL rec look g (k :: ks) off = goL rec look g ks off := by rw [goL, if_pos h]
theorem goL_free (h : off.contains k = false) (e : look k = none) : goL rec look g (k :: ks) off = (some [(k, g)], off ++ [k]) := by rw [goL, if_neg (by rw [h]; decide), e]
theorem goL_win (h : off.contains k = false) (e : look k = some g') (q : rec g' (off ++ [k]) = (some ds, off')) : goL rec look g (k :: ks) off = (some (ds ++ [(k, g)]), off') := by rw [goL, if_neg (by rw [h]; decide), e]; simp only [q]
theorem goL_fail (h : off.contains k = false) (e : look k = some g') (q : rec g' (off ++ [k]) = (none, off')) : goL rec look g (k :: ks) off = goL rec look g ks off' := by rw [goL, if_neg (by rw [h]; decide), e]; simp only [q]
end
theorem drop_cons {α : Type} {l : List α} {i : Nat} {a : α} (h : l[i]? = some a) : l.drop i = a :: l.drop (i + 1) := by
  obtain ⟨hlt, rfl⟩ := List.getElem?_eq_some_iff.mp h
  exact List.drop_eq_getElem_cons hlt
theorem goL_off {rec : Nat → List Nat → SR} {look : Nat → Option Nat} (hrec : ∀ g off, (rec g off).2.length + openR (rec g off).2 = off.length + openR off ∧ openR (rec g off).2 ≤ openR off) (g : Nat) : ∀ (ks : List Nat) (off : List Nat), (∀ k ∈ ks, k < 4) →
    (goL rec look g ks off).2.length + openR (goL rec look g ks off).2 = off.length + openR off ∧ openR (goL rec look g ks off).2 ≤ openR off
  | [], off, _ => ⟨rfl, Nat.le_refl _⟩
  | k :: ks, off, hk => by
    have ih := goL_off (look := look) hrec g ks
    cases hc : off.contains k with
    | true => rw [goL_skip hc]; exact ih off fun x hx => hk x (List.mem_cons_of_mem _ hx)
    | false =>
      have h1 := openR_step (hk k List.mem_cons_self) hc
      have h2 : (off ++ [k]).length = off.length + 1 := by simp
      cases hl : look k with
      | none => rw [goL_free hc hl]; constructor <;> (try simp only [h2]) <;> omega
      | some g' =>
        have h3 := hrec g' (off ++ [k])
        cases hq : rec g' (off ++ [k]) with | mk r o =>
        rw [hq] at h3
        simp only [h2] at h3
        cases r with
        | some ds => rw [goL_win hc hl hq]; constructor <;> simp only <;> omega
        | none =>
          rw [goL_fail hc hl hq]
          have h4 := ih o fun x hx => hk x (List.mem_cons_of_mem _ hx)
          constructor <;> omega
theorem seatN_off {look : Nat → Option Nat} {nn : Nat → List Nat} (hn : ∀ g, ∀ k ∈ nn g, k < 4) : ∀ (n g : Nat) (off : List Nat), (seatN look nn n g off).2.length + openR (seatN look nn n g off).2 = off.length + openR off ∧ openR (seatN look nn n g off).2 ≤ openR off
  | 0, _, _ => ⟨rfl, Nat.le_refl _⟩
  | n + 1, g, off => goL_off (seatN_off hn n) g (nn g) off (hn g)
theorem goL_len {rec : Nat → List Nat → SR} {look : Nat → Option Nat} {n : Nat} (hrec : ∀ g off ds, (rec g off).1 = some ds → ds.length ≤ n) (g : Nat) : ∀ (ks : List Nat) (off : List Nat) ds, (goL rec look g ks off).1 = some ds → ds.length ≤ n + 1
  | [], off, ds, h => nomatch h
  | k :: ks, off, ds, h => by
    have ih := goL_len (look := look) hrec g ks
    cases hc : off.contains k with
    | true => rw [goL_skip hc] at h; exact ih off ds h
    | false =>
      cases hl : look k with
      | none => rw [goL_free hc hl] at h; cases h; simp
      | some g' =>
        have h3 := hrec g' (off ++ [k])
        cases hq : rec g' (off ++ [k]) with | mk r o =>
        rw [hq] at h3
        cases r with
        | some ds' => rw [goL_win hc hl hq] at h; cases h; have := h3 ds' rfl; simp; omega
        | none => rw [goL_fail hc hl hq] at h; exact ih o ds h
theorem seatN_len {look : Nat → Option Nat} {nn : Nat → List Nat} : ∀ (n g : Nat) (off : List Nat) ds, (seatN look nn n g off).1 = some ds → ds.length ≤ n
  | 0, _, _, ds, h => nomatch h
  | n + 1, g, off, ds, h => goL_len (seatN_len n) g (nn g) off ds h
theorem openR_le (off : List Nat) : openR off ≤ 4 := by unfold openR; exact Nat.le_trans List.countP_le_length (by decide)
theorem lookT_lt {tab : List (Nat × Nat)} {k g : Nat} (h : ∀ p ∈ tab, p.1 < 4 ∧ p.2 < 4) (e : lookT tab k = some g) : g < 4 := by
  unfold lookT at e
  cases q : tab.find? (fun p => p.1 == k) with
  | none => rw [q] at e; cases e
  | some p => rw [q] at e; cases e; exact (h p (List.mem_of_find?_eq_some q)).2
theorem setT_ok {tab : List (Nat × Nat)} {p : Nat × Nat} (h : ∀ q ∈ tab, q.1 < 4 ∧ q.2 < 4) (hp : p.1 < 4 ∧ p.2 < 4) : ∀ q ∈ setT tab p, q.1 < 4 ∧ q.2 < 4 := fun q hq => by
  rcases List.mem_append.mp hq with hq | hq
  · exact h q (List.mem_filter.mp hq).1
  · rw [List.mem_singleton.mp hq]; exact hp
theorem setT_len (tab : List (Nat × Nat)) (p : Nat × Nat) : (setT tab p).length ≤ tab.length + 1 := by
  unfold setT; rw [List.length_append]; have := List.length_filter_le (fun q : Nat × Nat => q.1 != p.1) tab; simp; exact this
theorem setAll_len (ds tab : List (Nat × Nat)) : (ds.foldl setT tab).length ≤ tab.length + ds.length := by
  induction ds generalizing tab with
  | nil => simp
  | cons p ds ih => have := ih (setT tab p); have := setT_len tab p; simp only [List.foldl_cons, List.length_cons]; omega
theorem setAll_ok {ds tab : List (Nat × Nat)} (h : ∀ q ∈ tab, q.1 < 4 ∧ q.2 < 4) (hd : ∀ q ∈ ds, q.1 < 4 ∧ q.2 < 4) : ∀ q ∈ ds.foldl setT tab, q.1 < 4 ∧ q.2 < 4 := by
  induction ds generalizing tab with
  | nil => exact h
  | cons p ds ih => exact ih (setT_ok h (hd p List.mem_cons_self)) fun q hq => hd q (List.mem_cons_of_mem _ hq)
theorem goL_ok {rec : Nat → List Nat → SR} {look : Nat → Option Nat} (hl : ∀ k g, look k = some g → g < 4) (hrec : ∀ g off ds, g < 4 → (rec g off).1 = some ds → ∀ q ∈ ds, q.1 < 4 ∧ q.2 < 4) (g : Nat) (hg : g < 4) : ∀ (ks : List Nat) (off : List Nat) ds, (∀ k ∈ ks, k < 4) → (goL rec look g ks off).1 = some ds → ∀ q ∈ ds, q.1 < 4 ∧ q.2 < 4
  | [], off, ds, _, h => nomatch h
  | k :: ks, off, ds, hk, h => by
    have ih := goL_ok (look := look) hl hrec g hg ks
    have hk0 := hk k List.mem_cons_self
    have hk1 : ∀ k ∈ ks, k < 4 := fun x hx => hk x (List.mem_cons_of_mem _ hx)
    cases hc : off.contains k with
    | true => rw [goL_skip hc] at h; exact ih off ds hk1 h
    | false =>
      cases hlk : look k with
      | none => rw [goL_free hc hlk] at h; cases h; intro q hq; rw [List.mem_singleton.mp hq]; exact ⟨hk0, hg⟩
      | some g' =>
        have h3 := hrec g' (off ++ [k])
        cases hq : rec g' (off ++ [k]) with | mk r o =>
        rw [hq] at h3
        cases r with
        | some ds' =>
          rw [goL_win hc hlk hq] at h; cases h
          intro q hq
          rcases List.mem_append.mp hq with hq | hq
          · exact h3 ds' (hl _ _ hlk) rfl q hq
          · rw [List.mem_singleton.mp hq]; exact ⟨hk0, hg⟩
        | none => rw [goL_fail hc hlk hq] at h; exact ih o ds hk1 h
theorem seatN_ok {look : Nat → Option Nat} {nn : Nat → List Nat} (hl : ∀ k g, look k = some g → g < 4) (hn : ∀ g, ∀ k ∈ nn g, k < 4) : ∀ (n g : Nat) (off : List Nat) ds, g < 4 → (seatN look nn n g off).1 = some ds → ∀ q ∈ ds, q.1 < 4 ∧ q.2 < 4
  | 0, _, _, _, _, h => nomatch h
  | n + 1, g, off, ds, hg, h => goL_ok hl (seatN_ok hl hn n) g hg (nn g) off ds (hn g) h

noncomputable def withoutT (tab : List (Nat × Nat)) : List Nat := (List.range 4).filter fun g => !(tab.any fun p => p.2 == g)
noncomputable def wIn (look : Nat → Option Nat) : List Nat → List Nat × List Nat × List Nat → List Nat × List Nat × List Nat
  | [], st => st
  | k :: ks, (r, w, s) => if s.contains k then wIn look ks (r, w, s) else
    if r.contains ((look k).getD 0) then wIn look ks (r, w, s ++ [k]) else wIn look ks (r ++ [(look k).getD 0], w ++ [(look k).getD 0], s ++ [k])
noncomputable def wN (look : Nat → Option Nat) (nn : Nat → List Nat) : Nat → List Nat × List Nat × List Nat → List Nat
  | 0, (r, _, _) => r
  | n + 1, (r, w, s) => if w = [] then r else wN look nn n (wIn look (nn (w.getLastD 0)) (r, w.dropLast, s))
theorem wIn_skip {look : Nat → Option Nat} {k : Nat} {ks r w s : List Nat} (h : s.contains k = true) : wIn look (k :: ks) (r, w, s) = wIn look ks (r, w, s) := by rw [wIn, if_pos h]
theorem wIn_old {look : Nat → Option Nat} {k q : Nat} {ks r w s : List Nat} (h : s.contains k = false) (e : look k = some q) (hr : r.contains q = true) : wIn look (k :: ks) (r, w, s) = wIn look ks (r, w, s ++ [k]) := by
  rw [wIn, if_neg (by rw [h]; decide), e, if_pos (by exact hr)]
theorem wIn_new {look : Nat → Option Nat} {k q : Nat} {ks r w s : List Nat} (h : s.contains k = false) (e : look k = some q) (hr : r.contains q = false) : wIn look (k :: ks) (r, w, s) = wIn look ks (r ++ [q], w ++ [q], s ++ [k]) := by
  rw [wIn, if_neg (by rw [h]; decide), e, if_neg (by show ¬ r.contains q = true; rw [hr]; decide)]; rfl
structure WInv (R : Nat → Prop) (r w s : List Nat) : Prop where
  r1 : r.Nodup
  r2 : ∀ g ∈ r, g < 4 ∧ R g
  w2 : ∀ g ∈ w, g < 4 ∧ R g
  s1 : s.Nodup
  s2 : ∀ k ∈ s, k < 4
theorem nodup_lt : ∀ (n : Nat) (l : List Nat), l.Nodup → (∀ x ∈ l, x < n) → l.length ≤ n
  | 0, l, _, h => by
    cases l with
    | nil => exact Nat.le_refl _
    | cons x l => exact absurd (h x List.mem_cons_self) (Nat.not_lt_zero _)
  | n + 1, l, hn, h => by
    have h1 := nodup_lt n (l.filter (· != n)) (hn.filter _) fun x hx => by
      have := List.mem_filter.mp hx
      have h2 := h x this.1
      have h3 : x ≠ n := by simpa using this.2
      omega
    have h2 : l.length = l.countP (· != n) + l.countP (fun x => decide ¬((x != n) = true)) := List.length_eq_countP_add_countP _
    have h3 : l.countP (fun x => decide ¬((x != n) = true)) = l.count n := by unfold List.count; congr 1; funext x; cases h : (x == n) <;> simp_all
    have h4 : l.count n ≤ 1 := List.nodup_iff_count.mp hn n
    rw [h3, List.countP_eq_length_filter] at h2
    omega
theorem nodup4 {l : List Nat} (h : l.Nodup) (h4 : ∀ x ∈ l, x < 4) : l.length ≤ 4 := nodup_lt 4 l h h4
theorem nodup_snoc {l : List Nat} {x : Nat} (h : l.Nodup) (hx : l.contains x = false) : (l ++ [x]).Nodup := by
  rw [List.nodup_append]
  refine ⟨h, by simp, fun a ha b hb e => ?_⟩
  rw [List.mem_singleton.mp hb] at e
  subst e
  have : l.contains a = true := List.contains_iff_mem.mpr ha
  rw [hx] at this; cases this

noncomputable def cnt (q : Nat → Bool) : Nat := (List.range 4).countP q
theorem nodup_cnt' : ∀ (n : Nat) (q : Nat → Bool) (l : List Nat), l.Nodup → (∀ x ∈ l, x < n ∧ q x = true) → l.length ≤ (List.range n).countP q
  | 0, q, l, _, h => by
    cases l with
    | nil => exact Nat.zero_le _
    | cons x l => exact absurd (h x List.mem_cons_self).1 (Nat.not_lt_zero _)
  | n + 1, q, l, hn, h => by
    have h1 := nodup_cnt' n q (l.filter (· != n)) (hn.filter _) fun x hx => by
      have := List.mem_filter.mp hx
      have h2 := h x this.1
      have h3 : x ≠ n := by simpa using this.2
      exact ⟨by omega, h2.2⟩
    have h2 : l.length = l.countP (· != n) + l.countP (fun x => decide ¬((x != n) = true)) := List.length_eq_countP_add_countP _
    have h3 : l.countP (fun x => decide ¬((x != n) = true)) = l.count n := by unfold List.count; congr 1; funext x; cases h : (x == n) <;> simp_all
    have h4 : l.count n ≤ 1 := List.nodup_iff_count.mp hn n
    rw [h3, List.countP_eq_length_filter] at h2
    rw [List.range_succ, List.countP_append]
    cases hq : q n with
    | true => simp only [List.countP_cons, List.countP_nil, hq, if_true]; omega
    | false =>
      have : l.count n = 0 := by
        rw [List.count_eq_zero]; intro hm; have := (h n hm).2; rw [hq] at this; cases this
      simp only [List.countP_cons, List.countP_nil, hq]; simp; omega
theorem nodup_cnt {q : Nat → Bool} {l : List Nat} (hn : l.Nodup) (h : ∀ x ∈ l, x < 4 ∧ q x = true) : l.length ≤ cnt q := nodup_cnt' 4 q l hn h
theorem nodup_full {q : Nat → Bool} {l : List Nat} (hn : l.Nodup) (h : ∀ x ∈ l, x < 4 ∧ q x = true) (he : cnt q ≤ l.length) {x : Nat} (hx : x < 4) (hq : q x = true) : x ∈ l := by
  refine Decidable.byContradiction fun hm => ?_
  have := nodup_cnt (q := q) (l := x :: l) (List.nodup_cons.mpr ⟨hm, hn⟩) ((fa_cons (⟨hx, hq⟩) (fun y hy => h y hy)))
  simp only [List.length_cons] at this; omega
theorem cnt_split (p q : Nat → Bool) : cnt p = cnt (fun x => p x && q x) + cnt (fun x => p x && !q x) := by
  unfold cnt
  induction List.range 4 with
  | nil => rfl
  | cons a l ih => simp only [List.countP_cons, ih]; cases p a <;> cases q a <;> simp <;> omega
theorem cnt_le {p q : Nat → Bool} (h : ∀ x, x < 4 → p x = true → q x = true) : cnt p ≤ cnt q := by
  unfold cnt; exact List.countP_mono_left fun x hx hp => h x (List.mem_range.mp hx) hp
theorem cnt_congr {p q : Nat → Bool} (h : ∀ x, x < 4 → p x = q x) : cnt p = cnt q :=
  Nat.le_antisymm (cnt_le fun x hx hp => h x hx ▸ hp) (cnt_le fun x hx hp => (h x hx).symm ▸ hp)
structure Mat (nn : Nat → List Nat) (tab : List (Nat × Nat)) : Prop where
  k : (tab.map (·.1)).Nodup
  g : (tab.map (·.2)).Nodup
  e : ∀ p ∈ tab, p.1 < 4 ∧ p.2 < 4 ∧ p.1 ∈ nn p.2
inductive Path (nn : Nat → List Nat) (look : Nat → Option Nat) : Nat → List (Nat × Nat) → List Nat → Prop
  | one {g k : Nat} {off : List Nat} : k ∉ off → k ∈ nn g → look k = none → Path nn look g [(k, g)] off
  | more {g k g' : Nat} {ds : List (Nat × Nat)} {off : List Nat} : k ∉ off → k ∈ nn g → look k = some g' → Path nn look g' ds (off ++ [k]) → Path nn look g (ds ++ [(k, g)]) off
section
variable {nn : Nat → List Nat} {look : Nat → Option Nat}
theorem Path.weak {g : Nat} {ds : List (Nat × Nat)} {off' : List Nat} (P : Path nn look g ds off') : ∀ {off : List Nat}, (∀ x ∈ off, x ∈ off') → Path nn look g ds off := by
  induction P with
  | one h1 h2 h3 => exact fun h => .one (fun q => h1 (h _ q)) h2 h3
  | more h1 h2 h3 _ ih =>
    refine fun h => .more (fun q => h1 (h _ q)) h2 h3 (ih fun x hx => ?_)
    rcases List.mem_append.mp hx with hx | hx
    · exact List.mem_append_left _ (h _ hx)
    · exact List.mem_append_right _ hx
theorem Path.first {g : Nat} {ds : List (Nat × Nat)} {off : List Nat} (P : Path nn look g ds off) : ∃ p ∈ ds, p.1 ∈ nn g := by
  cases P with
  | one _ h _ => exact ⟨_, List.mem_singleton.mpr rfl, h⟩
  | more _ h _ _ => exact ⟨_, List.mem_append_right _ (List.mem_singleton.mpr rfl), h⟩
theorem Path.out {g : Nat} {ds : List (Nat × Nat)} {off : List Nat} (P : Path nn look g ds off) : ∀ p ∈ ds, p.1 ∉ off := by
  induction P with
  | one h _ _ => intro p hp; rw [List.mem_singleton.mp hp]; exact h
  | more h _ _ _ ih =>
    intro p hp
    rcases List.mem_append.mp hp with hp | hp
    · exact fun q => ih p hp (List.mem_append_left _ q)
    · rw [List.mem_singleton.mp hp]; exact h
noncomputable def Cl (nn : Nat → List Nat) (look : Nat → Option Nat) (R : Nat → Prop) : Prop := ∀ x, R x → ∃ g', look x = some g' ∧ ∀ y ∈ nn g', R y
theorem Path.avoid {R : Nat → Prop} (hR : Cl nn look R) {g : Nat} {ds : List (Nat × Nat)} {off : List Nat} (P : Path nn look g ds off) : ∀ p ∈ ds, ¬ R p.1 := by
  induction P with
  | one _ _ h => intro p hp q; rw [List.mem_singleton.mp hp] at q; obtain ⟨g', e, _⟩ := hR _ q; rw [h] at e; cases e
  | more _ _ h P ih =>
    intro p hp q
    rcases List.mem_append.mp hp with hp | hp
    · exact ih p hp q
    · rw [List.mem_singleton.mp hp] at q
      obtain ⟨g', e, hy⟩ := hR _ q
      rw [h] at e; cases e
      obtain ⟨p2, h2, h3⟩ := P.first
      exact ih p2 h2 (hy _ h3)
theorem goL_mono {rec : Nat → List Nat → SR} (hrec : ∀ g off, ∀ x ∈ off, x ∈ (rec g off).2) (g : Nat) : ∀ (ks off : List Nat), ∀ x ∈ off, x ∈ (goL rec look g ks off).2
  | [], off, x, hx => hx
  | k :: ks, off, x, hx => by
    cases hc : off.contains k with
    | true => rw [goL_skip hc]; exact goL_mono hrec g ks off x hx
    | false =>
      cases hl : look k with
      | none => rw [goL_free hc hl]; exact List.mem_append_left _ hx
      | some g' =>
        have h1 := hrec g' (off ++ [k]) x (List.mem_append_left _ hx)
        cases hq : rec g' (off ++ [k]) with | mk r o =>
        rw [hq] at h1
        cases r with
        | some ds => rw [goL_win hc hl hq]; exact h1
        | none => rw [goL_fail hc hl hq]; exact goL_mono hrec g ks o x h1
theorem seatN_mono : ∀ (n g : Nat) (off : List Nat), ∀ x ∈ off, x ∈ (seatN look nn n g off).2
  | 0, _, _, _, hx => hx
  | n + 1, g, off, x, hx => goL_mono (seatN_mono n) g (nn g) off x hx
theorem goL_path {rec : Nat → List Nat → SR} (hm : ∀ g off, ∀ x ∈ off, x ∈ (rec g off).2) (hrec : ∀ g off ds, (rec g off).1 = some ds → Path nn look g ds off) (g : Nat) : ∀ (ks off : List Nat) (ds : List (Nat × Nat)), (∀ k ∈ ks, k ∈ nn g) → (goL rec look g ks off).1 = some ds → Path nn look g ds off
  | [], off, ds, _, h => nomatch h
  | k :: ks, off, ds, hk, h => by
    have hk0 := hk k List.mem_cons_self
    have hk1 : ∀ k ∈ ks, k ∈ nn g := fun x hx => hk x (List.mem_cons_of_mem _ hx)
    cases hc : off.contains k with
    | true => rw [goL_skip hc] at h; exact goL_path hm hrec g ks off ds hk1 h
    | false =>
      have hc' : k ∉ off := by simpa using hc
      cases hl : look k with
      | none => rw [goL_free hc hl] at h; cases h; exact .one hc' hk0 hl
      | some g' =>
        have h1 := hm g' (off ++ [k])
        have h2 := hrec g' (off ++ [k])
        cases hq : rec g' (off ++ [k]) with | mk r o =>
        rw [hq] at h1 h2
        cases r with
        | some ds' => rw [goL_win hc hl hq] at h; cases h; exact .more hc' hk0 hl (h2 ds' rfl)
        | none => rw [goL_fail hc hl hq] at h; exact (goL_path hm hrec g ks o ds hk1 h).weak fun x hx => h1 x (List.mem_append_left _ hx)
theorem seatN_path : ∀ (n g : Nat) (off : List Nat) (ds : List (Nat × Nat)), (seatN look nn n g off).1 = some ds → Path nn look g ds off
  | 0, _, _, _, h => nomatch h
  | n + 1, g, off, ds, h => goL_path (seatN_mono n) (seatN_path n) g (nn g) off ds (fun _ h => h) h
theorem goL_none {rec : Nat → List Nat → SR} {n : Nat} (hn : ∀ g, ∀ k ∈ nn g, k < 4) (hm : ∀ g off, ∀ x ∈ off, x ∈ (rec g off).2) (ho : ∀ g off, openR (rec g off).2 ≤ openR off)
    (hrec : ∀ g off, openR off + 1 ≤ n → (rec g off).1 = none → (∀ k ∈ nn g, k ∈ (rec g off).2) ∧ ∀ x ∈ (rec g off).2, x ∈ off ∨ ∃ g', look x = some g' ∧ ∀ y ∈ nn g', y ∈ (rec g off).2) (g : Nat) :
    ∀ (ks off : List Nat), (∀ k ∈ ks, k < 4) → openR off ≤ n → (goL rec look g ks off).1 = none → (∀ k ∈ ks, k ∈ (goL rec look g ks off).2) ∧ ∀ x ∈ (goL rec look g ks off).2, x ∈ off ∨ ∃ g', look x = some g' ∧ ∀ y ∈ nn g', y ∈ (goL rec look g ks off).2
  | [], off, _, _, _ => ⟨(fun k hk => nomatch hk), fun x hx => .inl hx⟩
  | k :: ks, off, hk, hof, h => by
    have hk0 := hk k List.mem_cons_self
    have hk1 : ∀ k ∈ ks, k < 4 := fun x hx => hk x (List.mem_cons_of_mem _ hx)
    cases hc : off.contains k with
    | true =>
      rw [goL_skip hc] at h ⊢
      obtain ⟨h1, h2⟩ := goL_none hn hm ho hrec g ks off hk1 hof h
      refine ⟨fun x hx => ?_, h2⟩
      rcases List.mem_cons.mp hx with rfl | hx
      · exact goL_mono hm g ks off x (by simpa using hc)
      · exact h1 x hx
    | false =>
      have ho1 := openR_step hk0 hc
      cases hl : look k with
      | none => rw [goL_free hc hl] at h; cases h
      | some g' =>
        have h1 := hm g' (off ++ [k])
        have h2 := hrec g' (off ++ [k]) (by omega)
        have h3 := ho g' (off ++ [k])
        cases hq : rec g' (off ++ [k]) with | mk r o =>
        rw [hq] at h1 h2 h3
        cases r with
        | some ds' => rw [goL_win hc hl hq] at h; cases h
        | none =>
          rw [goL_fail hc hl hq] at h ⊢
          obtain ⟨a1, a2⟩ := h2 rfl
          obtain ⟨b1, b2⟩ := goL_none hn hm ho hrec g ks o hk1 (by simp only at h3; omega) h
          have b3 := goL_mono (look := look) hm g ks o
          refine ⟨fun x hx => ?_, fun x hx => ?_⟩
          · rcases List.mem_cons.mp hx with rfl | hx
            · exact b3 x (h1 x (List.mem_append_right _ (List.mem_singleton.mpr rfl)))
            · exact b1 x hx
          · rcases b2 x hx with q | q
            · rcases a2 x q with q | ⟨g2, e2, y2⟩
              · rcases List.mem_append.mp q with q | q
                · exact .inl q
                · rw [List.mem_singleton.mp q]; exact .inr ⟨g', hl, fun y hy => b3 y (a1 y hy)⟩
              · exact .inr ⟨g2, e2, fun y hy => b3 y (y2 y hy)⟩
            · exact .inr q
theorem seatN_none (hn : ∀ g, ∀ k ∈ nn g, k < 4) : ∀ (n g : Nat) (off : List Nat), openR off + 1 ≤ n → (seatN look nn n g off).1 = none → (∀ k ∈ nn g, k ∈ (seatN look nn n g off).2) ∧ ∀ x ∈ (seatN look nn n g off).2, x ∈ off ∨ ∃ g', look x = some g' ∧ ∀ y ∈ nn g', y ∈ (seatN look nn n g off).2
  | 0, _, _, h, _ => absurd h (Nat.not_succ_le_zero _)
  | n + 1, g, off, h, e => goL_none hn (seatN_mono n) (fun g off => (seatN_off hn n g off).2) (seatN_none hn n) g (nn g) off (hn g) (by omega) e
end
noncomputable def Cert (nn : Nat → List Nat) (tab : List (Nat × Nat)) (u : Nat) : Prop := ∃ R : Nat → Prop, Cl nn (lookT tab) R ∧ ∀ y ∈ nn u, R y
section
variable {nn : Nat → List Nat}
theorem find_filter_ne {tab : List (Nat × Nat)} {k x : Nat} (h : k ≠ x) : (tab.filter fun q => q.1 != k).find? (fun p => p.1 == x) = tab.find? (fun p => p.1 == x) := by
  induction tab with
  | nil => rfl
  | cons p t ih =>
    rw [List.filter_cons, List.find?_cons]
    cases hp : (p.1 == x) with
    | true =>
      have : p.1 = x := by simpa using hp
      rw [if_pos (by simp [this, h.symm]), List.find?_cons, hp]
    | false =>
      split
      · rw [List.find?_cons, hp]; exact ih
      · exact ih
theorem lookT_drop {tab : List (Nat × Nat)} {k x : Nat} (h : k ≠ x) : lookT (tab.filter fun q => q.1 != k) x = lookT tab x := by unfold lookT; rw [find_filter_ne h]
theorem lookT_set {tab : List (Nat × Nat)} {p : Nat × Nat} {x : Nat} (h : p.1 ≠ x) : lookT (setT tab p) x = lookT tab x := by
  unfold lookT setT
  rw [List.find?_append, find_filter_ne h]
  cases tab.find? (fun p => p.1 == x) with
  | some _ => rfl
  | none => rw [Option.none_or, List.find?_cons, show (p.1 == x) = false by simpa using h]; rfl
theorem lookT_fold {ds : List (Nat × Nat)} {x : Nat} : ∀ {tab : List (Nat × Nat)}, (∀ p ∈ ds, p.1 ≠ x) → lookT (ds.foldl setT tab) x = lookT tab x := by
  induction ds with
  | nil => intro tab _; rfl
  | cons p ds ih => intro tab h; rw [List.foldl_cons, ih fun q hq => h q (List.mem_cons_of_mem _ hq), lookT_set (h p List.mem_cons_self)]
theorem lookT_mem {tab : List (Nat × Nat)} {k g : Nat} (h : lookT tab k = some g) : (k, g) ∈ tab := by
  unfold lookT at h
  cases q : tab.find? (fun p => p.1 == k) with
  | none => rw [q] at h; cases h
  | some p =>
    rw [q] at h; cases h
    have h1 := List.mem_of_find?_eq_some q
    have h2 := List.find?_some q
    have : p.1 = k := by simpa using h2
    rw [← this]; exact h1
theorem lookT_none {tab : List (Nat × Nat)} {k : Nat} (h : lookT tab k = none) : ∀ p ∈ tab, p.1 ≠ k := by
  unfold lookT at h
  intro p hp q
  rw [Option.map_eq_none_iff, List.find?_eq_none] at h
  exact h p hp (by simpa using q)
theorem Mat.look {tab : List (Nat × Nat)} (M : Mat nn tab) {p : Nat × Nat} (hp : p ∈ tab) : lookT tab p.1 = some p.2 := by
  cases h : lookT tab p.1 with
  | none => exact absurd rfl (lookT_none h p hp)
  | some g =>
    have h1 := lookT_mem h
    have : ∀ {t : List (Nat × Nat)}, (t.map (·.1)).Nodup → p ∈ t → (p.1, g) ∈ t → g = p.2 := by
      intro t
      induction t with
      | nil => intro _ h _; cases h
      | cons a t ih =>
        intro hn h1 h2
        rw [List.map_cons, List.nodup_cons] at hn
        rcases List.mem_cons.mp h1 with rfl | h1
        · rcases List.mem_cons.mp h2 with h2 | h2
          · rw [← h2]
          · exact absurd (List.mem_map_of_mem (f := (·.1)) h2) hn.1
        · rcases List.mem_cons.mp h2 with h2 | h2
          · rw [← h2] at hn; exact absurd (List.mem_map_of_mem (f := (·.1)) h1) hn.1
          · exact ih hn.2 h1 h2
    rw [this M.k hp h1]
theorem Mat.drop {tab : List (Nat × Nat)} (M : Mat nn tab) (f : Nat × Nat → Bool) : Mat nn (tab.filter f) :=
  ⟨M.k.sublist (List.filter_sublist.map _), M.g.sublist (List.filter_sublist.map _), fun p hp => M.e p (List.mem_filter.mp hp).1⟩
theorem Mat.add {tab : List (Nat × Nat)} (M : Mat nn tab) {k g : Nat} (hk : k ∉ tab.map (·.1)) (hg : g ∉ tab.map (·.2)) (h4 : k < 4) (g4 : g < 4) (he : k ∈ nn g) : Mat nn (tab ++ [(k, g)]) := by
  refine ⟨?_, ?_, fun p hp => ?_⟩
  · rw [List.map_append]; exact nodup_snoc M.k (by simpa using hk)
  · rw [List.map_append]; exact nodup_snoc M.g (by simpa using hg)
  · rcases List.mem_append.mp hp with hp | hp
    · exact M.e p hp
    · rw [List.mem_singleton.mp hp]; exact ⟨h4, g4, he⟩
theorem not_key (tab : List (Nat × Nat)) (k : Nat) : k ∉ (tab.filter fun q => q.1 != k).map (·.1) := fun h => by
  obtain ⟨p, hp, e⟩ := List.mem_map.mp h
  have := (List.mem_filter.mp hp).2
  simp [e] at this
theorem perm_drop {k g : Nat} : ∀ {tab : List (Nat × Nat)}, (tab.map (·.1)).Nodup → (k, g) ∈ tab → (tab.map (·.2)).Perm (g :: (tab.filter fun q => q.1 != k).map (·.2))
  | [], _, h => nomatch h
  | p :: t, hn, h => by
    rw [List.map_cons, List.nodup_cons] at hn
    rcases List.mem_cons.mp h with h | h
    · have e : (t.filter fun q => q.1 != k) = t := by
        rw [List.filter_eq_self]; intro q hq
        have : q.1 ≠ k := fun e => hn.1 (by rw [← h]; show k ∈ _; rw [← e]; exact List.mem_map_of_mem hq)
        simpa using this
      rw [← h, List.filter_cons, if_neg (by simp), e]; exact .refl _
    · have hp : p.1 ≠ k := fun e => hn.1 (by rw [e]; exact List.mem_map_of_mem (f := (·.1)) h)
      rw [List.filter_cons, if_pos (by simpa using hp), List.map_cons, List.map_cons]
      exact ((perm_drop hn.2 h).cons _).trans (.swap _ _ _)
theorem foldl_filter {k : Nat} {ds : List (Nat × Nat)} : ∀ {tab : List (Nat × Nat)}, (∀ p ∈ ds, p.1 ≠ k) → (ds.foldl setT tab).filter (fun q => q.1 != k) = ds.foldl setT (tab.filter fun q => q.1 != k) := by
  induction ds with
  | nil => intro tab _; rfl
  | cons p ds ih =>
    intro tab h
    have hp := h p List.mem_cons_self
    rw [List.foldl_cons, List.foldl_cons, ih fun q hq => h q (List.mem_cons_of_mem _ hq)]
    congr 1
    unfold setT
    rw [List.filter_append, List.filter_filter, List.filter_filter]
    congr 1
    · congr 1; funext q; exact Bool.and_comm _ _
    · rw [List.filter_cons, if_pos (by simpa using hp)]; rfl
theorem filter_self {tab : List (Nat × Nat)} {k : Nat} (h : ∀ p ∈ tab, p.1 ≠ k) : (tab.filter fun q => q.1 != k) = tab := by
  rw [List.filter_eq_self]; intro q hq; simpa using h q hq
theorem aug (hn : ∀ g, ∀ k ∈ nn g, k < 4) {look : Nat → Option Nat} {g : Nat} {ds : List (Nat × Nat)} {off : List Nat} (P : Path nn look g ds off) : ∀ {tab : List (Nat × Nat)}, Mat nn tab → (∀ x, x ∉ off → look x = lookT tab x) → g < 4 → g ∉ tab.map (·.2) →
    Mat nn (ds.foldl setT tab) ∧ ((ds.foldl setT tab).map (·.2)).Perm (g :: tab.map (·.2)) := by
  induction P with
  | @one g k off h1 h2 h3 =>
    intro tab M hl g4 hg
    rw [hl _ h1] at h3
    have e := filter_self (lookT_none h3)
    show Mat nn (tab.filter (fun q => q.1 != k) ++ [(k, g)]) ∧ ((tab.filter (fun q => q.1 != k) ++ [(k, g)]).map (·.2)).Perm _
    have nk := not_key tab k
    rw [e] at nk ⊢
    exact ⟨M.add nk hg (hn _ _ h2) g4 h2, by rw [List.map_append]; exact List.perm_append_singleton _ _⟩
  | @more g k g' ds off h1 h2 h3 P ih =>
    intro tab M hl g4 hg
    rw [hl _ h1] at h3
    have hm := lookT_mem h3
    have hpd := perm_drop M.k hm
    have hout : ∀ p ∈ ds, p.1 ≠ k := fun p hp e => P.out p hp (List.mem_append_right _ (List.mem_singleton.mpr e))
    have hg' : g' ∉ (tab.filter fun q => q.1 != k).map (·.2) := (List.nodup_cons.mp (hpd.nodup_iff.mp M.g)).1
    obtain ⟨M2, P2⟩ := ih (tab := tab.filter fun q => q.1 != k) (M.drop _) (fun x hx => by
      rw [hl x fun q => hx (List.mem_append_left _ q)]
      exact (lookT_drop fun q => hx (List.mem_append_right _ (List.mem_singleton.mpr q.symm))).symm) (M.e _ hm).2.1 hg'
    rw [List.foldl_append]
    show Mat nn ((ds.foldl setT tab).filter (fun q => q.1 != k) ++ [(k, g)]) ∧ (((ds.foldl setT tab).filter (fun q => q.1 != k) ++ [(k, g)]).map (·.2)).Perm _
    have nk := not_key (ds.foldl setT tab) k
    have P3 := P2.trans hpd.symm
    rw [foldl_filter hout] at nk ⊢
    refine ⟨M2.add nk (fun q => hg (P3.mem_iff.mp q)) (hn _ _ h2) g4 h2, ?_⟩
    rw [List.map_append]
    exact (List.perm_append_singleton _ _).trans (P3.cons _)
theorem Cert.keep {tab : List (Nat × Nat)} {g u : Nat} {ds : List (Nat × Nat)} {off : List Nat} (P : Path nn (lookT tab) g ds off) (C : Cert nn tab u) : Cert nn (ds.foldl setT tab) u := by
  obtain ⟨R, h1, h2⟩ := C
  refine ⟨R, fun x hx => ?_, h2⟩
  rw [lookT_fold fun p hp e => P.avoid h1 p hp (e ▸ hx)]
  exact h1 x hx
theorem Cert.of_none (hn : ∀ g, ∀ k ∈ nn g, k < 4) {tab : List (Nat × Nat)} {g : Nat} (h : (seatN (lookT tab) nn 5 g []).1 = none) : Cert nn tab g := by
  obtain ⟨h1, h2⟩ := seatN_none hn 5 g [] (by decide) h
  refine ⟨fun x => x ∈ (seatN (lookT tab) nn 5 g []).2, fun x hx => ?_, h1⟩
  rcases h2 x hx with q | q
  · cases q
  · exact q
end

noncomputable def nb (nn : Nat → List Nat) (S : Nat → Bool) (k : Nat) : Bool := (List.range 4).any fun g => S g && (nn g).contains k
noncomputable def lackS (nn : Nat → List Nat) (S : Nat → Bool) : Int := (cnt S : Int) - (cnt (nb nn S) : Int)
section
variable {nn : Nat → List Nat} {tab : List (Nat × Nat)}
theorem nb_of {S : Nat → Bool} {g k : Nat} (hg : g < 4) (hs : S g = true) (hk : k ∈ nn g) : nb nn S k = true :=
  List.any_eq_true.mpr ⟨g, List.mem_range.mpr hg, by rw [hs, Bool.true_and]; simpa using hk⟩
theorem nb_at {S : Nat → Bool} {k : Nat} (h : nb nn S k = true) : ∃ g, g < 4 ∧ S g = true ∧ k ∈ nn g := by
  obtain ⟨g, h1, h2⟩ := List.any_eq_true.mp h
  rw [Bool.and_eq_true] at h2
  exact ⟨g, List.mem_range.mp h1, h2.1, by simpa using h2.2⟩
theorem nb_congr {S T : Nat → Bool} (h : ∀ g, g < 4 → S g = T g) (k : Nat) : nb nn S k = nb nn T k := by
  rw [Bool.eq_iff_iff]
  constructor
  · intro q; obtain ⟨g, a, b, c⟩ := nb_at q; exact nb_of a (h g a ▸ b) c
  · intro q; obtain ⟨g, a, b, c⟩ := nb_at q; exact nb_of a ((h g a).symm ▸ b) c
theorem lackS_congr {S T : Nat → Bool} (h : ∀ g, g < 4 → S g = T g) : lackS nn S = lackS nn T := by
  unfold lackS; rw [cnt_congr h, cnt_congr (p := nb nn S) (q := nb nn T) fun k _ => nb_congr h k]
theorem keysF (M : Mat nn tab) (S : Nat → Bool) : ((tab.filter fun p => S p.2).map (·.1)).Nodup ∧ ∀ x ∈ (tab.filter fun p => S p.2).map (·.1), x < 4 ∧ nb nn S x = true := by
  refine ⟨(M.drop _).k, fun x hx => ?_⟩
  obtain ⟨p, hp, rfl⟩ := List.mem_map.mp hx
  obtain ⟨h1, h2⟩ := List.mem_filter.mp hp
  obtain ⟨a, b, c⟩ := M.e p h1
  exact ⟨a, nb_of b h2 c⟩
theorem valsF (M : Mat nn tab) (S : Nat → Bool) : ((tab.filter fun p => S p.2).map (·.2)).Nodup ∧ ∀ x ∈ (tab.filter fun p => S p.2).map (·.2), x < 4 ∧ S x = true := by
  refine ⟨(M.drop _).g, fun x hx => ?_⟩
  obtain ⟨p, hp, rfl⟩ := List.mem_map.mp hx
  obtain ⟨h1, h2⟩ := List.mem_filter.mp hp
  exact ⟨(M.e p h1).2.1, h2⟩
theorem filter_two (tab : List (Nat × Nat)) (S : Nat → Bool) : tab.length = (tab.filter fun p => S p.2).length + (tab.filter fun p => !S p.2).length := by
  rw [← List.countP_eq_length_filter, ← List.countP_eq_length_filter]
  induction tab with
  | nil => rfl
  | cons p t ih => simp only [List.countP_cons, List.length_cons]; cases S p.2 <;> simp <;> omega
theorem hall (M : Mat nn tab) {D S : Nat → Bool} (hD : ∀ p ∈ tab, D p.2 = true) (hS : ∀ g, g < 4 → S g = true → D g = true) : (tab.length : Int) + lackS nn S ≤ cnt D := by
  have h1 := nodup_cnt (keysF M S).1 (keysF M S).2
  rw [List.length_map] at h1
  have h2 := nodup_cnt (q := fun x => D x && !S x) (valsF M fun x => !S x).1 (fun x hx => by
    obtain ⟨a, b⟩ := (valsF M fun x => !S x).2 x hx
    obtain ⟨p, hp, rfl⟩ := List.mem_map.mp hx
    exact ⟨a, by rw [hD p (List.mem_filter.mp hp).1, b]; rfl⟩)
  rw [List.length_map] at h2
  have h3 := cnt_split D S
  have h4 : cnt (fun x => D x && S x) = cnt S := cnt_congr fun x hx => by
    cases hs : S x with
    | true => rw [hS x hx hs]; rfl
    | false => cases D x <;> rfl
  have h5 := filter_two tab S
  unfold lackS
  omega
theorem cnt_all : cnt (fun _ => true) = 4 := rfl
theorem hall4 (M : Mat nn tab) (S : Nat → Bool) : (tab.length : Int) + lackS nn S ≤ 4 := hall M (D := fun _ => true) (fun _ _ => rfl) fun _ _ _ => rfl
theorem hall_eq (M : Mat nn tab) {S : Nat → Bool} (h : (tab.length : Int) + lackS nn S = 4) : (∀ u, u < 4 → u ∉ tab.map (·.2) → S u = true) ∧ ∀ g, g < 4 → S g = true → ∀ k ∈ nn g, k < 4 → ∀ q, lookT tab k = some q → S q = true := by
  have h1 := nodup_cnt (keysF M S).1 (keysF M S).2
  rw [List.length_map] at h1
  have h2 := nodup_cnt (valsF M fun x => !S x).1 (valsF M fun x => !S x).2
  rw [List.length_map] at h2
  have h3 := cnt_split (fun _ => true) S
  rw [cnt_all] at h3
  simp only [Bool.true_and] at h3
  change 4 = cnt S + cnt (fun x => !S x) at h3
  have h5 := filter_two tab S
  unfold lackS at h
  constructor
  · intro u hu hn
    cases hs : S u with
    | true => rfl
    | false =>
      have := nodup_full (valsF M fun x => !S x).1 (valsF M fun x => !S x).2 (by rw [List.length_map]; omega) hu (by rw [hs]; rfl)
      obtain ⟨p, hp, e⟩ := List.mem_map.mp this
      exact absurd (List.mem_map.mpr ⟨p, (List.mem_filter.mp hp).1, e⟩) hn
  · intro g hg hs k hk h4 q hq
    have := nodup_full (keysF M S).1 (keysF M S).2 (by rw [List.length_map]; omega) h4 (nb_of hg hs hk)
    obtain ⟨p, hp, e⟩ := List.mem_map.mp this
    obtain ⟨a, b⟩ := List.mem_filter.mp hp
    have := M.look a
    rw [e, hq] at this
    cases this; exact b
end
theorem countP_or (p q : Nat → Bool) (l : List Nat) : l.countP (fun x => p x || q x) ≤ l.countP p + l.countP q := by
  induction l with
  | nil => exact Nat.le_refl _
  | cons b t ih => simp only [List.countP_cons]; cases p b <;> cases q b <;> simp <;> omega
theorem cnt_mem (l : List Nat) : cnt (fun x => l.contains x) ≤ l.length := by
  have : ∀ n, (List.range n).countP (fun x => l.contains x) ≤ l.length := by
    intro n
    induction l with
    | nil => simp
    | cons a l ih =>
      have h1 := countP_or (fun x => x == a) (fun x => l.contains x) (List.range n)
      have h2 : (List.range n).countP (fun x => x == a) ≤ 1 := List.nodup_iff_count.mp List.nodup_range a
      have h3 : (List.range n).countP (fun x => (a :: l).contains x) = (List.range n).countP (fun x => x == a || l.contains x) := by simp only [List.contains_cons]
      rw [h3, List.length_cons]; omega
  exact this 4
structure WJ (look : Nat → Option Nat) (nn : Nat → List Nat) (wo : List Nat) (R X : Nat → Prop) (r w s : List Nat) : Prop where
  i1 : r.Nodup
  i2 : ∀ g ∈ r, g < 4 ∧ R g
  i3 : ∀ g ∈ w, g ∈ r
  i4 : ∀ g ∈ r, X g ∨ g ∈ w ∨ ∀ k ∈ nn g, k ∈ s
  i5 : ∀ k ∈ s, ∃ q, look k = some q ∧ q ∈ r
  i6 : ∀ S : Nat → Prop, (∀ g ∈ wo, S g) → (∀ g, g < 4 → S g → ∀ k ∈ nn g, ∀ q, look k = some q → S q) → ∀ g ∈ r, S g
  i7 : ∀ g ∈ wo, g ∈ r
section
variable {look : Nat → Option Nat} {nn : Nat → List Nat} {wo : List Nat} {R X : Nat → Prop}
theorem wIn_ok {g0 : Nat} : ∀ (ks : List Nat) {r w s : List Nat}, (∀ k ∈ ks, k ∈ nn g0 ∧ ∃ q, look k = some q ∧ q < 4 ∧ R q) → g0 ∈ r → WJ look nn wo R X r w s → Ex3 fun r' w' s' => Cj5 (wIn look ks (r, w, s) = (r', w', s')) (WJ look nn wo R X r' w' s') ((∀ k ∈ ks, k ∈ s')) ((∀ k ∈ s, k ∈ s')) (2 * (4 - r'.length) + w'.length ≤ 2 * (4 - r.length) + w.length)
  | [], r, w, s, _, _, J => ⟨r, w, s, rfl, J, (fun k hk => nomatch hk), fun _ h => h, Nat.le_refl _⟩
  | k :: ks, r, w, s, hk, hg, J => by
    have hk1 : ∀ k ∈ ks, k ∈ nn g0 ∧ ∃ q, look k = some q ∧ q < 4 ∧ R q := fun x hx => hk x (List.mem_cons_of_mem _ hx)
    obtain ⟨hkn, q, e, q4, qR⟩ := hk k List.mem_cons_self
    cases hs : s.contains k with
    | true =>
      obtain ⟨r', w', s', e1, J1, a, b, c⟩ := wIn_ok ks hk1 hg J
      refine ⟨r', w', s', by rw [wIn_skip hs, e1], J1, fun x hx => ?_, b, c⟩
      rcases List.mem_cons.mp hx with rfl | hx
      · exact b _ (by simpa using hs)
      · exact a x hx
    | false =>
      cases hr : r.contains q with
      | true =>
        have hr' : q ∈ r := by simpa using hr
        obtain ⟨r', w', s', e1, J1, a, b, c⟩ := wIn_ok ks hk1 hg (r := r) (w := w) (s := s ++ [k]) { J with
          i4 := fun g hg => (J.i4 g hg).imp id fun h => h.imp id fun h x hx => List.mem_append_left _ (h x hx)
          i5 := fun x hx => by
            rcases List.mem_append.mp hx with hx | hx
            · exact J.i5 x hx
            · rw [List.mem_singleton.mp hx]; exact ⟨q, e, hr'⟩ }
        refine ⟨r', w', s', by rw [wIn_old hs e hr, e1], J1, fun x hx => ?_, fun x hx => b x (List.mem_append_left _ hx), c⟩
        rcases List.mem_cons.mp hx with rfl | hx
        · exact b _ (List.mem_append_right _ (List.mem_singleton.mpr rfl))
        · exact a x hx
      | false =>
        have hnd := nodup_snoc J.i1 hr
        have h2 : ∀ g ∈ r ++ [q], g < 4 ∧ R g := fun g hg => by
          rcases List.mem_append.mp hg with hg | hg
          · exact J.i2 g hg
          · rw [List.mem_singleton.mp hg]; exact ⟨q4, qR⟩
        have hle := nodup4 hnd fun x hx => (h2 x hx).1
        obtain ⟨r', w', s', e1, J1, a, b, c⟩ := wIn_ok ks hk1 (List.mem_append_left _ hg) (r := r ++ [q]) (w := w ++ [q]) (s := s ++ [k]) {
          i1 := hnd
          i2 := h2
          i3 := fun g hg => by
            rcases List.mem_append.mp hg with hg | hg
            · exact List.mem_append_left _ (J.i3 g hg)
            · exact List.mem_append_right _ hg
          i4 := fun g hg => by
            rcases List.mem_append.mp hg with hg | hg
            · exact (J.i4 g hg).imp id fun h => h.imp (fun h => List.mem_append_left _ h) fun h x hx => List.mem_append_left _ (h x hx)
            · exact .inr (.inl (List.mem_append_right _ hg))
          i5 := fun x hx => by
            rcases List.mem_append.mp hx with hx | hx
            · obtain ⟨q2, a, b⟩ := J.i5 x hx; exact ⟨q2, a, List.mem_append_left _ b⟩
            · rw [List.mem_singleton.mp hx]; exact ⟨q, e, List.mem_append_right _ (List.mem_singleton.mpr rfl)⟩
          i6 := fun S s1 s2 g hg' => by
            rcases List.mem_append.mp hg' with hg' | hg'
            · exact J.i6 S s1 s2 g hg'
            · rw [List.mem_singleton.mp hg']; exact s2 g0 (J.i2 _ hg).1 (J.i6 S s1 s2 g0 hg) k hkn q e
          i7 := fun g hg => List.mem_append_left _ (J.i7 g hg) }
        refine ⟨r', w', s', by rw [wIn_new hs e hr, e1], J1, fun x hx => ?_, fun x hx => b x (List.mem_append_left _ hx), ?_⟩
        · rcases List.mem_cons.mp hx with rfl | hx
          · exact b _ (List.mem_append_right _ (List.mem_singleton.mpr rfl))
          · exact a x hx
        · simp only [List.length_append, List.length_singleton] at c hle; omega
theorem wN_ok (hR : ∀ g, R g → g < 4 → ∀ k ∈ nn g, ∃ q, look k = some q ∧ q < 4 ∧ R q) : ∀ (n : Nat) {r w s : List Nat}, WJ look nn wo R (fun _ => False) r w s → 2 * (4 - r.length) + w.length ≤ n → ∃ s', WJ look nn wo R (fun _ => False) (wN look nn n (r, w, s)) [] s'
  | 0, r, w, s, J, h => by
    have : w = [] := List.length_eq_zero_iff.mp (by omega)
    rw [this] at J; exact ⟨s, J⟩
  | n + 1, r, w, s, J, h => by
    rw [wN]
    by_cases hw : w = []
    · rw [if_pos hw]; rw [hw] at J; exact ⟨s, J⟩
    · rw [if_neg hw]
      obtain ⟨w0, g0, rfl⟩ : ∃ w0 g0, w = w0 ++ [g0] := ⟨w.dropLast, w.getLast hw, (List.dropLast_concat_getLast hw).symm⟩
      rw [show (w0 ++ [g0]).getLastD 0 = g0 by simp, show (w0 ++ [g0]).dropLast = w0 by simp]
      have hg0 : g0 ∈ r := J.i3 _ (List.mem_append_right _ (List.mem_singleton.mpr rfl))
      obtain ⟨r', w', s', e1, J1, a, b, c⟩ := wIn_ok (X := fun g => g = g0) (nn g0) (fun k hk => ⟨hk, hR g0 (J.i2 _ hg0).2 (J.i2 _ hg0).1 k hk⟩) hg0 (r := r) (w := w0) (s := s) { J with
        i3 := fun g hg => J.i3 g (List.mem_append_left _ hg)
        i4 := fun g hg => by
          rcases J.i4 g hg with q | q | q
          · cases q
          · rcases List.mem_append.mp q with q | q
            · exact .inr (.inl q)
            · exact .inl (List.mem_singleton.mp q)
          · exact .inr (.inr q) }
      rw [e1]
      refine wN_ok hR n { J1 with
        i4 := fun g hg => by
          rcases J1.i4 g hg with q | q | q
          · rw [q]; exact .inr (.inr a)
          · exact .inr (.inl q)
          · exact .inr (.inr q) } ?_
      simp only [List.length_append, List.length_singleton] at h; omega
end
noncomputable def bitc (c g : Nat) : Bool := c / 2 ^ g % 2 == 1
noncomputable def lackStep (nn : Nat → List Nat) (st : Int × Nat) (c : Nat) : Int × Nat := if lackS nn (bitc c) > st.1 then (lackS nn (bitc c), c) else if lackS nn (bitc c) = st.1 then (st.1, st.2 &&& c) else st
noncomputable def lackL (nn : Nat → List Nat) : Nat → Int × Nat
  | 0 => (0, 15)
  | i + 1 => lackStep nn (lackL nn i) i
theorem bitc_and : ∀ a, a < 16 → ∀ b, b < 16 → ∀ g, g < 4 → a &&& b < 16 ∧ bitc (a &&& b) g = (bitc a g && bitc b g) := by decide +kernel
theorem bitc15 : ∀ g, g < 4 → bitc 15 g = true := by decide
theorem code' : ∀ a b c d : Bool, ∃ n, n < 16 ∧ bitc n 0 = a ∧ bitc n 1 = b ∧ bitc n 2 = c ∧ bitc n 3 = d := by decide +kernel
theorem code (S : Nat → Bool) : ∃ n, n < 16 ∧ ∀ g, g < 4 → bitc n g = S g := by
  obtain ⟨n, h, a, b, c, d⟩ := code' (S 0) (S 1) (S 2) (S 3)
  refine ⟨n, h, fun g hg => ?_⟩
  match g, hg with
  | 0, _ => exact a
  | 1, _ => exact b
  | 2, _ => exact c
  | 3, _ => exact d
theorem lackL_ok (nn : Nat → List Nat) : ∀ i, i ≤ 16 → 0 ≤ (lackL nn i).1 ∧ (lackL nn i).2 < 16 ∧ (∀ j, j < i → lackS nn (bitc j) ≤ (lackL nn i).1) ∧ (∀ g, g < 4 → (bitc (lackL nn i).2 g = true ↔ ∀ j, j < i → lackS nn (bitc j) = (lackL nn i).1 → bitc j g = true)) ∧ ((lackL nn i).1 = 0 ∨ ∃ j, j < i ∧ lackS nn (bitc j) = (lackL nn i).1)
  | 0, _ => ⟨Int.le_refl _, (by decide : 15 < 16), fun j h => absurd h (Nat.not_lt_zero _), fun g hg => ⟨fun _ j h => absurd h (Nat.not_lt_zero _), fun _ => bitc15 g hg⟩, .inl rfl⟩
  | i + 1, hi => by
    obtain ⟨h1, h2, h3, h4, h5⟩ := lackL_ok nn i (by omega)
    rw [lackL]
    generalize lackL nn i = st at h1 h2 h3 h4 h5
    obtain ⟨m, c⟩ := st
    dsimp only at h1 h2 h3 h4 h5
    unfold lackStep
    dsimp only
    by_cases c1 : lackS nn (bitc i) > m
    · rw [if_pos c1]
      refine ⟨by dsimp only; omega, by dsimp only; omega, fun j hj => ?_, fun g hg => ⟨fun hb j hj e => ?_, fun h => h i (Nat.lt_succ_self _) rfl⟩, .inr ⟨i, Nat.lt_succ_self _, rfl⟩⟩
      · rcases Nat.lt_succ_iff_lt_or_eq.mp hj with q | q
        · have := h3 j q; dsimp only; omega
        · rw [q]; exact Int.le_refl _
      · rcases Nat.lt_succ_iff_lt_or_eq.mp hj with q | q
        · have := h3 j q; dsimp only at e; omega
        · rw [q]; exact hb
    · rw [if_neg c1]
      have hle : lackS nn (bitc i) ≤ m := by omega
      by_cases c2 : lackS nn (bitc i) = m
      · rw [if_pos c2]
        refine ⟨h1, (bitc_and c h2 i (by omega) 0 (by decide)).1, fun j hj => ?_, fun g hg => ?_, ?_⟩
        · rcases Nat.lt_succ_iff_lt_or_eq.mp hj with q | q
          · exact h3 j q
          · rw [q]; exact hle
        · dsimp only
          rw [(bitc_and c h2 i (by omega) g hg).2, Bool.and_eq_true, h4 g hg]
          constructor
          · rintro ⟨a, b⟩ j hj e
            rcases Nat.lt_succ_iff_lt_or_eq.mp hj with q | q
            · exact a j q e
            · rw [q]; exact b
          · exact fun h => ⟨fun j hj e => h j (Nat.lt_succ_of_lt hj) e, h i (Nat.lt_succ_self _) c2⟩
        · exact .inr ⟨i, Nat.lt_succ_self _, c2⟩
      · rw [if_neg c2]
        refine ⟨h1, h2, fun j hj => ?_, fun g hg => ?_, ?_⟩
        · rcases Nat.lt_succ_iff_lt_or_eq.mp hj with q | q
          · exact h3 j q
          · rw [q]; exact hle
        · rw [h4 g hg]
          constructor
          · intro a j hj e
            rcases Nat.lt_succ_iff_lt_or_eq.mp hj with q | q
            · exact a j q e
            · rw [q] at e; exact absurd e c2
          · exact fun h j hj e => h j (Nat.lt_succ_of_lt hj) e
        · exact h5.imp id fun ⟨j, a, b⟩ => ⟨j, Nat.lt_succ_of_lt a, b⟩

set_option hygiene false
noncomputable def LstAt (ht h : Heap) (a : Addr) (vs : List Value) : Prop := ∃ n, h.get? a = some (listOf vs.toArray n) ∧ ht.get? a = none
noncomputable def nums (ks : List Nat) : List Int := ks.map fun (k : Nat) => ((k : Nat) : Int)
noncomputable def NumsAre (vs : List Value) (ks : List Nat) : Prop := IntsAre vs (nums ks)
theorem NumsAre.item {vs : List Value} {ks : List Nat} (N : NumsAre vs ks) {i : Nat} {v : Value} (h : vs[i]? = some v) : Ex2 fun k t => Cj2 (v = .int (k : Nat) t) (ks[i]? = some k):= by
  obtain ⟨n, t, e, hn⟩ := IntsAre.at N i v h
  rw [nums, List.getElem?_map] at hn
  cases q : ks[i]? with
  | none => rw [q] at hn; cases hn
  | some k => rw [q] at hn; cases hn; exact ⟨k, t, e, rfl⟩
theorem NumsAre.snoc {vs : List Value} {ks : List Nat} (N : NumsAre vs ks) (k : Nat) (t : Tok) : NumsAre (vs ++ [.int (k : Nat) t]) (ks ++ [k]) := by
  unfold NumsAre nums; rw [List.map_append]; exact IntsAre.append N (.cons _ _ .nil)
theorem any_nums (ks : List Nat) (k : Nat) : (nums ks).any (· == (k : Int)) = ks.contains k := by
  induction ks with
  | nil => rfl
  | cons a ks ih => simp only [nums, List.map_cons, List.any_cons, List.contains_cons] at ih ⊢; rw [ih]; congr 1; rw [Bool.eq_iff_iff]; simp; omega
section
variable {prog : Program} {w : World} {A : Around} {E : Value → Shared → Prop} {s : Shared} {Q : Value → Shared → Prop}
theorem fig_shown : ∀ g, g < 4 → Str.ofString (toString ((g : Nat) : Int)) = fig g := by decide +kernel
theorem fig_read : ∀ g, g < 4 → PySem.intText? (fig g) = some ((g : Nat) : Int) := by decide +kernel
theorem fig_len : ∀ g, g < 4 → (fig g).length = 1 := by decide +kernel
theorem shown_small {g : Nat} (hg : g < 4) : ((g : Nat) : Int).natAbs.log2 < 1920 := by
  rw [Int.natAbs_natCast]
  match g, hg with
  | 0, _ => decide
  | 1, _ => decide
  | 2, _ => decide
  | 3, _ => decide
theorem str_guest {g : Nat} {t : Tok} (hg : g < 4) (h : Q (.str (fig g) s.toks) { s with toks := s.toks + 1 }) : wpAny (model prog w) A (call (.type "str") [.int (g : Nat) t]) Q E s :=
  P.str_of_int (shown_small hg) (by rw [← fig_shown g hg] at h; exact h)
theorem int_fig {g : Nat} {t : Tok} (hg : g < 4) (h : Q (.int (g : Nat) s.toks) { s with toks := s.toks + 1 }) : wpAny (model prog w) A (call (.type "int") [.str (fig g) t]) Q E s :=
  KIN.call_text (fig_read g hg) (by rw [fig_len g hg]; decide) h
theorem sub_list {value slice : PySem.Expr} {l : Addr} {vs : List Value} {i : Nat} {ti : Tok} {v : Value} (hl : s.heap.IsList l vs.toArray) (hv : vs[i]? = some v) (hi : i < 1000) (h : Q v s)
    (hs : subscripted slice false (.ref l) (.int (i : Nat) ti) = operate [.ref l, .int (i : Nat) ti] (getItem (.ref l) (.int (i : Nat) ti)) := by with_unfolding_all rfl) (ht : ∀ r, letTemporaryGo value (.ref l) r = pure () := by intro _; with_unfolding_all rfl) :
    wpAny (model prog w) A (subscriptTail value slice (.ref l) (.int (i : Nat) ti)) Q E s :=
  subscriptTail_builtin hl.typeIs slot_list_getitem.lookup (wpAny_getItem_list hl (by omega) (by omega) (by simpa using hv) h) hs ht
end
noncomputable def NearAt (h : Heap) (a : Addr) (nn : List (List Nat)) : Prop := ∃ (vs : List Value) (n : Nat), h.get? a = some (listOf vs.toArray n) ∧ vs.length = nn.length ∧ ∀ (i : Nat) (v : Value) (ks : List Nat), vs[i]? = some v → nn[i]? = some ks → ∃ (b : Addr) (ws : List Value) (n' : Nat), v = .ref b ∧ h.get? b = some (listOf ws.toArray n') ∧ NumsAre ws ks
noncomputable def RoomsAt (h : Heap) (a : Addr) : Prop := ∃ (vs : List Value) (n : Nat), h.get? a = some (listOf vs.toArray n) ∧ vs.length = 4 ∧ ∀ (k : Nat) (v : Value), vs[k]? = some v → ∃ x t, v = .str x t ∧ Txt.lower x = low k ∧ Txt.upper x = upp k ∧ x.length < 100
noncomputable def tokP (N : Nat) (t : Tok) : Prop := t ≠ 0 ∧ t < N
theorem c_getitemL {w : World} {loose : List Str} {mean : ExcName → Option Value} {mg mb : Str → Option Value} {ht : Heap} (X : (Mine.hd.heap_1 w.params).In ht) (T : Top Mine.hd.view_1 loose mean mg mb ht) {A : Around} (hA : A.handled = none) {s : Shared} (ek : ht.StaysIn s.heap) {Q E : Value → Shared → Prop} (hroom : A.depth + 1 < recursionLimit) {l : Addr} {ol : Obj} {nl : Nat} {vs : List Value} (hol : s.heap.get? l = some ol) (hoc : ol.cls = .type "list") (hod : ol.data = .seq vs.toArray nl) (i : Nat) (ti : Tok) (v : Value) (hv : vs[i]? = some v) (hi : i < 1000)
    (ret : ∀ h' tk', Ext [] s.heap h' → Q v { s with heap := h', toks := tk' }) :
    wpAny (model PySem.Challenge.rw_ti0061_01.prog w) A (call (.ref 80) [.ref l, .int (i : Nat) ti] []) Q E s := by
  ((revert X; k_fill; intro X; obtain ⟨hh, dp, fr, gd, un⟩ := A; cases hA; (dsimp only at hroom)))
  refine' callM [] ?k1 ?k2 ?k3 ?k4 ?k6 ?k7 ?k8 ?k9 ?kB ?_ ?c5 ?c2 ?c3 ?c4
  (case k4 => ((intro q h9; exact nomatch h9)))
  ((case k1 => assumption); (case k2 => assumption); (case k3 => assumption); (case k6 => k_is); (case k7 => k_is); (case k8 => ((try simp only [depth_under_make, depth_under_kw, depth_in1, depth_deeper]); (try dsimp only); omega)); (case k9 => first | exact BindsTo.of_eq rfl | exact binds_K (Frag.In.keeps (by assumption) (by assumption)) rfl (by k_is) rfl rfl rfl); (case kB => exact locs rfl); (case c5 => decide); (case c2 => exact rfl); (case c3 => exact rfl); (case c4 => exact rfl))
  intro g' L' h' F' N' X' T' G' st' l'
  (try dsimp only); (try k_fold)
  have gl : g'.get? l = some ol := G' _ _ hol (by simp)
  (repeat' (first | (k_unfold; (try dsimp only)) | (k_extra "mycall") | (k_extra "mystep") | (k_extra "no for"; k_extra "head")))
  ((with_reducible rename Fr _ _ _ _ => F9); (with_reducible rename News _ _ _ _ => N9))
  have hl : h'.IsList l vs.toArray := ⟨ol, F9.keep _ _ gl, hoc, nl, hod⟩
  refine sub_list hl hv hi ?_
  ((repeat' (first | k_unfold | dsimp only)))
  exact ret _ _ (ext_of G' F9)
theorem nl_of {h : Heap} {g : Heap} {L a b : Addr} {o o' : Obj} {nw : List (Addr × Obj)} (N : News g L h nw) (x : (a, o) ∈ nw) (y : (b, o') ∈ nw) (n : o.cls ≠ o'.cls) : a ≠ b := ne_cls (N _ x).1 (N _ y).1 n
theorem RoomsAt.mono {h h' : Heap} {a : Addr} (R : RoomsAt h a) (k : ∀ b o, h.get? b = some o → o.cls = .type "list" → h'.get? b = some o) : RoomsAt h' a :=
  let ⟨vs, n, e, r⟩ := R; ⟨vs, n, k _ _ e rfl, r⟩
theorem NearAt.mono {h h' : Heap} {a : Addr} {nn : List (List Nat)} (R : NearAt h a nn) (k : ∀ b o, h.get? b = some o → o.cls = .type "list" → h'.get? b = some o) : NearAt h' a nn :=
  let ⟨vs, n, e, hl, r⟩ := R; ⟨vs, n, k _ _ e rfl, hl, fun i v ks h1 h2 => let ⟨b, ws, n', e1, e2, e3⟩ := r i v ks h1 h2; ⟨b, ws, n', e1, k _ _ e2 rfl, e3⟩⟩
theorem hid_not {h : Heap} {xs : List Addr} {b : Addr} {o : Obj} (e : (hideAll h xs).get? b = some o) : b ∉ xs := fun q => by rw [hideAll_none _ q] at e; cases e

section
variable {nn : Nat → List Nat} {tab : List (Nat × Nat)}
theorem mem_wo {g : Nat} : g ∈ withoutT tab ↔ g < 4 ∧ g ∉ tab.map (·.2) := by
  unfold withoutT
  rw [List.mem_filter, List.mem_range, Bool.not_eq_true', Bool.eq_false_iff, Ne, List.any_eq_true, List.mem_map]
  refine and_congr_right fun _ => not_congr ⟨fun ⟨p, a, b⟩ => ⟨p, a, by simpa using b⟩, fun ⟨p, a, b⟩ => ⟨p, a, by simpa using b⟩⟩
theorem wo_nodup : (withoutT tab).Nodup := List.nodup_range.filter _
theorem len_vals (M : Mat nn tab) : cnt (fun x => (tab.map (·.2)).contains x) = tab.length := by
  refine Nat.le_antisymm (by have := cnt_mem (tab.map (·.2)); rwa [List.length_map] at this) ?_
  have := nodup_cnt (q := fun x => (tab.map (·.2)).contains x) M.g (fun x hx => by
    obtain ⟨p, hp, rfl⟩ := List.mem_map.mp hx
    exact ⟨(M.e p hp).2.1, List.contains_iff_mem.mpr hx⟩)
  rwa [List.length_map] at this
theorem wo_len (M : Mat nn tab) : (withoutT tab).length + tab.length = 4 := by
  have h1 := cnt_split (fun _ => true) (fun x => (tab.map (·.2)).contains x)
  simp only [Bool.true_and] at h1
  rw [len_vals M] at h1
  have h2 : (withoutT tab).length = cnt (fun x => !(tab.map (·.2)).contains x) := by
    unfold withoutT cnt
    rw [List.countP_eq_length_filter]
    congr 2
    funext g
    congr 1
    rw [Bool.eq_iff_iff, List.any_eq_true, List.contains_iff_mem, List.mem_map]
    exact ⟨fun ⟨p, a, b⟩ => ⟨p, a, by simpa using b⟩, fun ⟨p, a, b⟩ => ⟨p, a, by simpa using b⟩⟩
  have h3 : cnt (fun _ => true) = 4 := rfl
  omega
theorem cert_all (hC : ∀ u ∈ withoutT tab, Cert nn tab u) : ∃ R, Cl nn (lookT tab) R ∧ ∀ u ∈ withoutT tab, ∀ y ∈ nn u, R y := by
  refine ⟨fun y => ∃ R', Cl nn (lookT tab) R' ∧ R' y, fun x ⟨R', a, b⟩ => ?_, fun u hu y hy => ?_⟩
  · obtain ⟨g', e, h⟩ := a x b
    exact ⟨g', e, fun y hy => ⟨R', a, h y hy⟩⟩
  · obtain ⟨R', a, b⟩ := hC u hu
    exact ⟨R', a, b y hy⟩
noncomputable def RG (nn : Nat → List Nat) (tab : List (Nat × Nat)) (R : Nat → Prop) (g : Nat) : Prop := g ∈ withoutT tab ∨ ∃ k, R k ∧ lookT tab k = some g
theorem RG_in {R : Nat → Prop} (c : Cl nn (lookT tab) R) (d : ∀ u ∈ withoutT tab, ∀ y ∈ nn u, R y) {g : Nat} (h : RG nn tab R g) : ∀ k ∈ nn g, R k := by
  intro k hk
  rcases h with h | ⟨k0, a, b⟩
  · exact d g h k hk
  · obtain ⟨g', e, h⟩ := c k0 a
    rw [b] at e; cases e
    exact h k hk
theorem RG_step {R : Nat → Prop} (c : Cl nn (lookT tab) R) (d : ∀ u ∈ withoutT tab, ∀ y ∈ nn u, R y) {g : Nat} (h : RG nn tab R g) : ∀ k ∈ nn g, ∃ q, lookT tab k = some q ∧ RG nn tab R q := by
  intro k hk
  have r := RG_in c d h k hk
  obtain ⟨q, e, _⟩ := c k r
  exact ⟨q, e, .inr ⟨k, r, e⟩⟩
noncomputable abbrev wOf (nn : Nat → List Nat) (tab : List (Nat × Nat)) : List Nat := wN (lookT tab) nn 12 (withoutT tab, withoutT tab, [])
theorem walk_ok (M : Mat nn tab) {R : Nat → Prop} (c : Cl nn (lookT tab) R) (d : ∀ u ∈ withoutT tab, ∀ y ∈ nn u, R y) : ∃ s', WJ (lookT tab) nn (withoutT tab) (RG nn tab R) (fun _ => False) (wOf nn tab) [] s' := by
  have hl := wo_len M
  refine wN_ok (fun g hg h4 k hk => ?_) 12 ⟨wo_nodup, fun g hg => ⟨(mem_wo.mp hg).1, .inl hg⟩, fun g hg => hg, fun g hg => .inr (.inl hg), (fun k hk => nomatch hk), fun S s1 s2 g hg => s1 g hg, fun g hg => hg⟩ (by omega)
  obtain ⟨q, e, r⟩ := RG_step c d hg k hk
  exact ⟨q, e, (M.e _ (lookT_mem e)).2.1, r⟩
theorem walk_closed {wo W s' : List Nat} {R : Nat → Prop} {look : Nat → Option Nat} (J : WJ look nn wo R (fun _ => False) W [] s') : ∀ g ∈ W, ∀ k ∈ nn g, ∃ q, look k = some q ∧ q ∈ W := fun g hg k hk => by
  rcases J.i4 g hg with q | q | q
  · cases q
  · cases q
  · exact J.i5 k (q k hk)
theorem walk_lack (M : Mat nn tab) (hC : ∀ u ∈ withoutT tab, Cert nn tab u) : (tab.length : Int) + lackS nn (fun x => (wOf nn tab).contains x) = 4 := by
  obtain ⟨R, c, d⟩ := cert_all hC
  obtain ⟨s', J⟩ := walk_ok M c d
  have hcl := walk_closed J
  obtain ⟨W, hW⟩ : ∃ W, W = wOf nn tab := ⟨_, rfl⟩
  rw [← hW] at J hcl ⊢
  refine Int.le_antisymm (hall4 M _) ?_
  have h1 : cnt (nb nn fun x => W.contains x) ≤ (tab.filter fun p => W.contains p.2).length := by
    refine Nat.le_trans (cnt_le (q := fun x => ((tab.filter fun p => W.contains p.2).map (·.1)).contains x) fun x hx hq => ?_) (by have := cnt_mem ((tab.filter fun p => W.contains p.2).map (·.1)); rwa [List.length_map] at this)
    obtain ⟨g, g4, a, b⟩ := nb_at hq
    obtain ⟨q, e, hq⟩ := hcl g (List.contains_iff_mem.mp a) x b
    exact List.contains_iff_mem.mpr (List.mem_map.mpr ⟨(x, q), List.mem_filter.mpr ⟨lookT_mem e, List.contains_iff_mem.mpr hq⟩, rfl⟩)
  have h2 := nodup_cnt (q := fun x => W.contains x && (tab.map (·.2)).contains x) (valsF M fun x => W.contains x).1 (fun x hx => by
    obtain ⟨a, b⟩ := (valsF M fun x => W.contains x).2 x hx
    obtain ⟨p, hp, e⟩ := List.mem_map.mp hx
    exact ⟨a, by rw [b, Bool.true_and]; exact List.contains_iff_mem.mpr (List.mem_map.mpr ⟨p, (List.mem_filter.mp hp).1, e⟩)⟩)
  rw [List.length_map] at h2
  have h3 := nodup_cnt (q := fun x => W.contains x && !(tab.map (·.2)).contains x) wo_nodup (fun x hx => by
    obtain ⟨a, b⟩ := mem_wo.mp hx
    refine ⟨a, ?_⟩
    rw [List.contains_iff_mem.mpr (J.i7 x hx), Bool.true_and, Bool.not_eq_true', Bool.eq_false_iff]
    exact fun q => b (List.contains_iff_mem.mp q))
  have h4 := cnt_split (fun x => W.contains x) (fun x => (tab.map (·.2)).contains x)
  have h5 := wo_len M
  unfold lackS
  omega
theorem most_eq (M : Mat nn tab) (hC : ∀ u ∈ withoutT tab, Cert nn tab u) : (lackL nn 16).1 = 4 - (tab.length : Int) := by
  obtain ⟨h1, _, h3, _, h5⟩ := lackL_ok nn 16 (Nat.le_refl _)
  have hw := walk_lack M hC
  obtain ⟨n, n16, hn⟩ := code fun x => (wOf nn tab).contains x
  rw [← lackS_congr hn] at hw
  have := h3 n n16
  have hl := wo_len M
  rcases h5 with h5 | ⟨j, _, h5⟩
  · omega
  · have := hall4 M (bitc j); omega
theorem common_iff (M : Mat nn tab) (hn : ∀ g, ∀ k ∈ nn g, k < 4) (hC : ∀ u ∈ withoutT tab, Cert nn tab u) {g : Nat} (hg : g < 4) : bitc (lackL nn 16).2 g = true ↔ g ∈ wOf nn tab := by
  obtain ⟨_, _, _, h4, _⟩ := lackL_ok nn 16 (Nat.le_refl _)
  have hw := walk_lack M hC
  have hm := most_eq M hC
  obtain ⟨R, c, d⟩ := cert_all hC
  obtain ⟨s', J⟩ := walk_ok M c d
  rw [h4 g hg]
  constructor
  · intro h
    obtain ⟨n, n16, hn⟩ := code fun x => (wOf nn tab).contains x
    have := h n n16 (by rw [lackS_congr (T := fun x => (wOf nn tab).contains x) hn]; omega)
    rw [hn g hg] at this
    exact List.contains_iff_mem.mp this
  · intro h j hj e
    obtain ⟨a, b⟩ := hall_eq M (S := bitc j) (by omega)
    exact J.i6 (fun x => bitc j x = true) (fun u hu => a u (mem_wo.mp hu).1 (mem_wo.mp hu).2) (fun x x4 hx k hk q e => b x x4 hx k hk (hn x k hk) q e) g h
noncomputable def commonT (nn : Nat → List Nat) : List Nat := (List.range 4).filter (bitc (lackL nn 16).2)
theorem walk_eq (M : Mat nn tab) (hn : ∀ g, ∀ k ∈ nn g, k < 4) (hC : ∀ u ∈ withoutT tab, Cert nn tab u) {ns : List Int} (hp : ns.Perm (nums (wOf nn tab))) (hs : ns.Pairwise (· ≤ ·)) : ns = nums (commonT nn) := by
  obtain ⟨R, c, d⟩ := cert_all hC
  obtain ⟨s', J⟩ := walk_ok M c d
  have h1 : (wOf nn tab).Perm (commonT nn) := (List.perm_ext_iff_of_nodup J.i1 (List.nodup_range.filter _)).mpr fun g => by
    rw [List.mem_filter, List.mem_range]
    constructor
    · exact fun h => ⟨(J.i2 g h).1, (common_iff M hn hC (J.i2 g h).1).mpr h⟩
    · exact fun h => (common_iff M hn hC h.1).mp h.2
  refine List.Perm.eq_of_pairwise (le := (· ≤ ·)) (fun a b _ _ x y => Int.le_antisymm x y) hs ?_ (hp.trans (h1.map _))
  unfold nums commonT
  rw [List.pairwise_map]
  refine (List.Pairwise.filter _ List.pairwise_lt_range).imp ?_
  intro a b h
  exact Int.ofNat_le.mpr (Nat.le_of_lt h)
noncomputable def goT (nn : Nat → List Nat) (t : List (Nat × Nat)) (u : Nat) : List (Nat × Nat) := match (seatN (lookT t) nn 5 u []).1 with
  | some ds => ds.foldl setT t
  | none => t
noncomputable def goG (nn : Nat → List Nat) (g : Nat) (t : List (Nat × Nat)) (u : Nat) : List (Nat × Nat) := if u = g then t else goT nn t u
theorem seat_inv (hn : ∀ g, ∀ k ∈ nn g, k < 4) (M : Mat nn tab) {g : Nat} (g4 : g < 4) (hg : g ∉ tab.map (·.2)) :
    (∃ ds, (seatN (lookT tab) nn 5 g []).1 = some ds ∧ Mat nn (ds.foldl setT tab) ∧ ((ds.foldl setT tab).map (·.2)).Perm (g :: tab.map (·.2)) ∧ ∀ u, Cert nn tab u → Cert nn (ds.foldl setT tab) u) ∨ ((seatN (lookT tab) nn 5 g []).1 = none ∧ Cert nn tab g) := by
  cases h : (seatN (lookT tab) nn 5 g []).1 with
  | none => exact .inr ⟨rfl, Cert.of_none hn h⟩
  | some ds =>
    have P := seatN_path _ _ _ _ h
    obtain ⟨a, b⟩ := aug hn P M (fun _ _ => rfl) g4 hg
    exact .inl ⟨ds, rfl, a, b, fun u c => c.keep P⟩
theorem drop_len {g : Nat} (h : (tab.map (·.2)).Nodup) (hg : g ∈ tab.map (·.2)) : (tab.filter fun p => p.2 != g).length + 1 = tab.length := by
  induction tab with
  | nil => cases hg
  | cons p t ih =>
    rw [List.map_cons, List.nodup_cons] at h
    rw [List.filter_cons]
    rw [List.map_cons, List.mem_cons] at hg
    by_cases e : p.2 = g
    · rw [if_neg (by simpa using e)]
      rw [List.filter_eq_self.mpr fun q hq => ?_, List.length_cons]
      have : q.2 ≠ g := fun x => h.1 (by rw [e, ← x]; exact List.mem_map_of_mem hq)
      simpa using this
    · rw [if_pos (by simpa using e), List.length_cons, List.length_cons, ih h.2 (hg.resolve_left fun x => e x.symm)]
structure GI (nn : Nat → List Nat) (t0 : List (Nat × Nat)) (g : Nat) (us : List Nat) (t : List (Nat × Nat)) : Prop where
  m : Mat nn t
  n : g ∉ t.map (·.2)
  v : ∀ x ∈ t.map (·.2), x ∈ t0.map (·.2) ∨ x ∈ us
  c : (t = t0 ∧ ∀ u ∈ us, u ≠ g → Cert nn t0 u) ∨ t0.length + 1 ≤ t.length
theorem GI.step (hn : ∀ g, ∀ k ∈ nn g, k < 4) {t0 t : List (Nat × Nat)} {g u : Nat} {us : List Nat} (I : GI nn t0 g us t) (u4 : u < 4) (hu : u ∉ us) (hu0 : u ∉ t0.map (·.2)) : GI nn t0 g (us ++ [u]) (goG nn g t u) := by
  unfold goG
  have sub : ∀ {x : Nat}, x ∈ us → x ∈ us ++ [u] := fun h => List.mem_append_left _ h
  by_cases e : u = g
  · rw [if_pos e]
    refine ⟨I.m, I.n, fun x hx => (I.v x hx).imp id sub, I.c.imp (fun ⟨a, b⟩ => ⟨a, fun y hy hne => ?_⟩) id⟩
    rcases List.mem_append.mp hy with hy | hy
    · exact b y hy hne
    · exact absurd (e ▸ List.mem_singleton.mp hy) hne
  · rw [if_neg e]
    have hut : u ∉ t.map (·.2) := fun h => (I.v u h).elim hu0 hu
    unfold goT
    rcases seat_inv hn I.m u4 hut with ⟨ds, h, a, b, _⟩ | ⟨h, c⟩
    · rw [h]
      refine ⟨a, fun q => ?_, fun x hx => ?_, .inr ?_⟩
      · rcases List.mem_cons.mp (b.mem_iff.mp q) with q | q
        · exact e q.symm
        · exact I.n q
      · rcases List.mem_cons.mp (b.mem_iff.mp hx) with q | q
        · exact .inr (List.mem_append_right _ (List.mem_singleton.mpr q))
        · exact (I.v x q).imp id sub
      · have := b.length_eq
        simp only [List.length_map, List.length_cons] at this
        rcases I.c with ⟨q, _⟩ | q
        · have hl := congrArg List.length q; dsimp only; omega
        · dsimp only; omega
    · rw [h]
      refine ⟨I.m, I.n, fun x hx => (I.v x hx).imp id sub, I.c.imp (fun ⟨a, b⟩ => ⟨a, fun y hy hne => ?_⟩) id⟩
      rcases List.mem_append.mp hy with hy | hy
      · exact b y hy hne
      · rw [List.mem_singleton.mp hy, ← a]; exact c
theorem GI.all (hn : ∀ g, ∀ k ∈ nn g, k < 4) {t0 : List (Nat × Nat)} {g : Nat} : ∀ (vs us : List Nat) (t : List (Nat × Nat)), GI nn t0 g us t → (us ++ vs).Nodup → (∀ u ∈ vs, u < 4 ∧ u ∉ t0.map (·.2)) → GI nn t0 g (us ++ vs) (vs.foldl (goG nn g) t)
  | [], us, t, I, _, _ => by rw [List.append_nil]; exact I
  | u :: vs, us, t, I, h, hv => by
    rw [List.foldl_cons, show us ++ u :: vs = (us ++ [u]) ++ vs by simp]
    refine GI.all hn vs (us ++ [u]) _ (I.step hn (hv u List.mem_cons_self).1 (fun q => ?_) (hv u List.mem_cons_self).2) (by simpa using h) fun x hx => hv x (List.mem_cons_of_mem _ hx)
    rw [List.nodup_append] at h
    exact h.2.2 u q u List.mem_cons_self rfl
theorem goes_ok (hn : ∀ g, ∀ k ∈ nn g, k < 4) (M : Mat nn tab) (hC : ∀ u ∈ withoutT tab, Cert nn tab u) {g : Nat} (hg : g < 4) :
    ((((withoutT tab).foldl (goG nn g) (tab.filter fun p => p.2 != g)).length : Nat) : Int) = if bitc (lackL nn 16).2 g then 4 - (lackL nn 16).1 else 3 - (lackL nn 16).1 := by
  have M0 := M.drop fun p => p.2 != g
  have n0 : g ∉ (tab.filter fun p => p.2 != g).map (·.2) := fun h => by
    obtain ⟨p, hp, e⟩ := List.mem_map.mp h
    have := (List.mem_filter.mp hp).2
    simp [e] at this
  have sub0 : ∀ x ∈ (tab.filter fun p => p.2 != g).map (·.2), x ∈ tab.map (·.2) := fun x hx => by
    obtain ⟨p, hp, e⟩ := List.mem_map.mp hx
    exact List.mem_map.mpr ⟨p, (List.mem_filter.mp hp).1, e⟩
  have I := GI.all hn (withoutT tab) [] _ (GI.mk (t0 := tab.filter fun p => p.2 != g) M0 n0 (fun x h => .inl h) (.inl ⟨rfl, fun u h => nomatch h⟩)) (by simpa using wo_nodup) fun u hu => ⟨(mem_wo.mp hu).1, fun q => (mem_wo.mp hu).2 (sub0 u q)⟩
  rw [List.nil_append] at I
  obtain ⟨t, ht⟩ : ∃ t, t = (withoutT tab).foldl (goG nn g) (tab.filter fun p => p.2 != g) := ⟨_, rfl⟩
  rw [← ht] at I ⊢
  have hm := most_eq M hC
  have hci := common_iff M hn hC hg
  have hw := walk_lack M hC
  have hge : (tab.filter fun p => p.2 != g).length ≤ t.length := by
    rcases I.c with ⟨q, _⟩ | q
    · rw [q]; exact Nat.le_refl _
    · omega
  have hup := hall4 I.m (fun x => (wOf nn tab).contains x)
  obtain ⟨R, c, d⟩ := cert_all hC
  obtain ⟨s', J⟩ := walk_ok M c d
  by_cases hs : g ∈ tab.map (·.2)
  · have hdl := drop_len M.g hs
    by_cases hgw : g ∈ wOf nn tab
    · rw [if_pos (hci.mpr hgw)]
      rcases I.c with ⟨q, hc0⟩ | q
      · exfalso
        have hne : ∀ u ∈ withoutT tab, u ≠ g := fun u hu e => (mem_wo.mp hu).2 (e ▸ hs)
        have lk : ∀ {k q : Nat}, lookT (tab.filter fun p => p.2 != g) k = some q → lookT tab k = some q ∧ q ≠ g := fun {k q} e => by
          obtain ⟨a, b⟩ := List.mem_filter.mp (lookT_mem e)
          exact ⟨M.look a, by simpa using b⟩
        have := J.i6 (fun x => x ∈ withoutT tab ∨ ∃ R', Cl nn (lookT (tab.filter fun p => p.2 != g)) R' ∧ ∃ k, R' k ∧ lookT tab k = some x) (fun x hx => .inl hx) (fun x x4 hx k hk y e => by
          rcases hx with hx | ⟨R', a, k0, b, e0⟩
          · obtain ⟨R', a, b⟩ := hc0 x hx (hne x hx)
            exact .inr ⟨R', a, k, b k hk, e⟩
          · obtain ⟨g', e1, h1⟩ := a k0 b
            have := (lk e1).1
            rw [e0] at this; cases this
            exact .inr ⟨R', a, k, h1 k hk, e⟩) g hgw
        rcases this with h | ⟨R', a, k0, b, e0⟩
        · exact hne g h rfl
        · obtain ⟨g', e1, _⟩ := a k0 b
          have := lk e1
          rw [e0] at this
          exact this.2 (Option.some.inj this.1).symm
      · omega
    · rw [if_neg (fun q => hgw (hci.mp q))]
      have h3 := hall I.m (D := fun x => x != g) (S := fun x => (wOf nn tab).contains x) (fun p hp => by
        have : p.2 ≠ g := fun e => I.n (e ▸ List.mem_map_of_mem hp)
        simpa using this) (fun x _ hx => by
        have : x ≠ g := fun e => hgw (e ▸ List.contains_iff_mem.mp hx)
        simpa using this)
      have h4 : ∀ g, g < 4 → cnt (fun x => x != g) = 3 := by decide
      rw [h4 g hg] at h3
      omega
  · have hgw : g ∈ wOf nn tab := J.i7 g (mem_wo.mpr ⟨hg, hs⟩)
    rw [if_pos (hci.mpr hgw)]
    have : (tab.filter fun p => p.2 != g) = tab := List.filter_eq_self.mpr fun p hp => by
      have : p.2 ≠ g := fun e => hs (e ▸ List.mem_map_of_mem hp)
      simpa using this
    rw [this] at hge
    omega
structure PI (nn : Nat → List Nat) (gs : List Nat) (tab laid : List (Nat × Nat)) (oks : List Bool) : Prop where
  m : Mat nn tab
  l : tab = laid.foldl setT []
  v : ∀ x ∈ tab.map (·.2), x ∈ gs
  c : ∀ u ∈ gs, u ∉ tab.map (·.2) → Cert nn tab u
  o : oks.countP id = tab.length
  n : laid.length ≤ 5 * gs.length
  a : ∀ p ∈ laid, p.1 < 4 ∧ p.2 < 4
theorem PI.nil : PI nn [] [] [] [] := ⟨⟨List.nodup_nil, List.nodup_nil, fun p h => nomatch h⟩, rfl, (fun x h => nomatch h), (fun u h => nomatch h), rfl, Nat.le_refl _, fun p h => nomatch h⟩
theorem PI.good (hn : ∀ g, ∀ k ∈ nn g, k < 4) {gs : List Nat} {laid ds : List (Nat × Nat)} {oks : List Bool} (I : PI nn gs tab laid oks) {g : Nat} (g4 : g < 4) (hg : g ∉ gs) (h : (seatN (lookT tab) nn 5 g []).1 = some ds) : PI nn (gs ++ [g]) (ds.foldl setT tab) (laid ++ ds) (oks ++ [true]) := by
  have hgt : g ∉ tab.map (·.2) := fun q => hg (I.v g q)
  rcases seat_inv hn I.m g4 hgt with ⟨ds', h', a, b, c⟩ | ⟨h', _⟩
  · rw [h] at h'; cases h'
    have hlen := b.length_eq
    simp only [List.length_map, List.length_cons] at hlen
    refine ⟨a, by rw [List.foldl_append, ← I.l], fun x hx => ?_, fun u hu hnu => ?_, ?_, ?_, fun p hp => ?_⟩
    · rcases List.mem_cons.mp (b.mem_iff.mp hx) with q | q
      · exact List.mem_append_right _ (List.mem_singleton.mpr q)
      · exact List.mem_append_left _ (I.v x q)
    · rcases List.mem_append.mp hu with hu | hu
      · exact c u (I.c u hu fun q => hnu (b.mem_iff.mpr (List.mem_cons_of_mem _ q)))
      · exact absurd (b.mem_iff.mpr (List.mem_singleton.mp hu ▸ List.mem_cons_self)) hnu
    · rw [List.countP_append, I.o, hlen]; rfl
    · have := seatN_len _ _ _ _ h; have := I.n; simp only [List.length_append, List.length_singleton]; omega
    · rcases List.mem_append.mp hp with hp | hp
      · exact I.a p hp
      · exact seatN_ok (fun k g e => (I.m.e _ (lookT_mem e)).2.1) hn 5 g [] ds g4 h p hp
  · rw [h] at h'; cases h'
theorem PI.bad (hn : ∀ g, ∀ k ∈ nn g, k < 4) {gs : List Nat} {laid : List (Nat × Nat)} {oks : List Bool} (I : PI nn gs tab laid oks) {g : Nat} (h : (seatN (lookT tab) nn 5 g []).1 = none) : PI nn (gs ++ [g]) tab laid (oks ++ [false]) :=
  { I with
    v := fun x hx => List.mem_append_left _ (I.v x hx)
    c := fun u hu hnu => by
      rcases List.mem_append.mp hu with hu | hu
      · exact I.c u hu hnu
      · rw [List.mem_singleton.mp hu]; exact Cert.of_none hn h
    o := by rw [List.countP_append, I.o]; rfl
    n := by have := I.n; simp only [List.length_append, List.length_singleton]; omega }
end

theorem tok_intro {α : Type} {M : Model} {A : Around} {m : Sem α} {Q : α → Shared → Prop} {E : Value → Shared → Prop} {h : Heap} {gs : Array GenState} {dr : Drawn} {os : OsState} {t : Nat} (h0 : 1 ≤ t) (k : ∀ T, 1 ≤ T → wpAny M A m Q E ⟨h, gs, dr, T, os⟩) : wpAny M A m Q E ⟨h, gs, dr, t, os⟩ := k t h0
theorem news_one {g h h' : Heap} {L a : Addr} {o o' : Obj} {nw nw' : List (Addr × Obj)} (N : News g L h nw) (e : Ext [a] h h') (ha : (a, o) ∈ nw) (ho : h'.get? a = some o') (hn : ∀ p ∈ nw', p = (a, o') ∨ (p ∈ nw ∧ p.1 ≠ a)) : News g L h' nw' := fun p hp => by
  rcases hn p hp with rfl | ⟨hp, hne⟩
  · exact ⟨ho, (N _ ha).2⟩
  · exact ⟨e _ _ (N p hp).1 (by simpa using hne), (N p hp).2⟩
theorem with_upd {g h h' : Heap} {L a : Addr} {o o' : Obj} {nw nw' : List (Addr × Obj)} {R : Prop} (N : News g L h nw) (e : Ext [a] h h') (ho : h'.get? a = some o') (U : Upd a o o' nw nw') (k : News g L h' nw' → R) : R := by
  obtain ⟨pre, post, rfl, rfl, x, y⟩ := U.split
  refine k (news_one N e (List.mem_append_right _ (.head _)) ho fun p hp => ?_)
  rcases List.mem_append.mp hp with hp | hp
  · exact .inr ⟨List.mem_append_left _ hp, x p hp⟩
  rcases List.mem_cons.mp hp with rfl | hp
  · exact .inl rfl
  · exact .inr ⟨List.mem_append_right _ (.tail _ hp), y p hp⟩
inductive EndI (g : Heap) (L : Addr) (m : Str → Option Value) (nw : List (Addr × Obj)) (s : Shared) (P : Value → Prop) (v : Value) (s' : Shared) : Prop
  | in1 (h' : Heap) (tk' : Nat) (p : P v) (e : s' = { s with heap := h', toks := tk' }) (F : Fr g L h' m) (N : News g L h' nw) : EndI g L m nw s P v s'
inductive EndF (g : Heap) (L : Addr) (m : Str → Option Value) (nw : List (Addr × Obj)) (s : Shared) (v : Flow) (s' : Shared) : Prop
  | in1 (h' : Heap) (tk' : Nat) (p : v = .next) (e : s' = { s with heap := h', toks := tk' }) (F : Fr g L h' m) (N : News g L h' nw) : EndF g L m nw s v s'
inductive EndT (g : Heap) (L : Addr) (m : Str → Option Value) (s : Shared) (P : Bool → Heap → Nat → List (Addr × Obj) → Prop) (v : Bool) (s' : Shared) : Prop
  | in1 (h' : Heap) (tk' : Nat) (nw' : List (Addr × Obj)) (p : P v h' tk' nw') (e : s' = { s with heap := h', toks := tk' }) (F : Fr g L h' m) (N : News g L h' nw') : EndT g L m s P v s'
theorem joinI {M : Model} {A : Around} {t : Sem Value} {Q E : Value → Shared → Prop} {s s1 : Shared} {g L : _} {m : Str → Option Value} {nw : List (Addr × Obj)} (_F : Fr g L s1.heap m) (_N : News g L s1.heap nw) (P : Value → Prop)
    (h : wpAny M A t (EndI g L m nw s P) (fun _ _ => False) s1) (k : ∀ v h' tk', P v → Fr g L h' m → News g L h' nw → s1.toks ≤ tk' → Q v { s with heap := h', toks := tk' }) : wpAny M A t Q E s1 :=
  wpAny_toks (wpAny_mono h (fun v s' ⟨h', tk', hp, e, F, N⟩ => e ▸ fun ht => k v h' tk' hp F N ht) fun _ _ e => e.elim)
theorem joinJ {M : Model} {A : Around} {t : Sem Value} {Q E : Value → Shared → Prop} {s s1 : Shared} {g L : _} {m : Str → Option Value} {nw : List (Addr × Obj)} (_F : Fr g L s1.heap m) (_N : News g L s1.heap nw) (P : Value → Prop)
    (h : wpAny M A t (EndI g L m nw s P) (fun _ _ => False) s1) (k : ∀ v h' tk', P v → Fr g L h' m → News g L h' nw → Q v { s with heap := h', toks := tk' }) : wpAny M A t Q E s1 :=
  wpAny_mono h (fun v s' ⟨h', tk', hp, e, F, N⟩ => e ▸ k v h' tk' hp F N) fun _ _ e => e.elim
theorem joinF {M : Model} {A : Around} {t : Sem Flow} {Q : Flow → Shared → Prop} {E : Value → Shared → Prop} {s s1 : Shared} {g L : _} {m : Str → Option Value} {nw : List (Addr × Obj)} (_F : Fr g L s1.heap m) (_N : News g L s1.heap nw)
    (h : wpAny M A t (EndF g L m nw s) (fun _ _ => False) s1) (k : ∀ h' tk', Fr g L h' m → News g L h' nw → Q .next { s with heap := h', toks := tk' }) : wpAny M A t Q E s1 :=
  wpAny_mono h (fun v s' ⟨h', tk', hp, e, F, N⟩ => e ▸ hp ▸ k h' tk' F N) fun _ _ e => e.elim
theorem joinM {M : Model} {A : Around} {t : Sem Bool} {Q : Bool → Shared → Prop} {E : Value → Shared → Prop} {s s1 : Shared} {g L : _} {m : Str → Option Value} (_F : Fr g L s1.heap m) (P : Bool → Heap → Nat → List (Addr × Obj) → Prop)
    (h : wpAny M A t (EndT g L m s P) (fun _ _ => False) s1) (k : ∀ v h' tk' nw', P v h' tk' nw' → Fr g L h' m → News g L h' nw' → Q v { s with heap := h', toks := tk' }) : wpAny M A t Q E s1 :=
  wpAny_mono h (fun v s' ⟨h', tk', nw', hp, e, F, N⟩ => e ▸ k v h' tk' nw' hp F N) fun _ _ e => e.elim
theorem tok_from {α : Type} {M : Model} {A : Around} {m : Sem α} {Q : α → Shared → Prop} {E : Value → Shared → Prop} {h : Heap} {gs : Array GenState} {dr : Drawn} {os : OsState} {t n : Nat} (h0 : n ≤ t) (k : ∀ T, n ≤ T → wpAny M A m Q E ⟨h, gs, dr, T, os⟩) : wpAny M A m Q E ⟨h, gs, dr, t, os⟩ := k t h0
theorem nm3 {a x y z : Nat} (h1 : @Ne Nat x a) (h2 : @Ne Nat y a) (h3 : @Ne Nat z a) : a ∉ [x, y, z] := by simp [h1.symm, h2.symm, h3.symm]
theorem off_same {l l' : List (Addr × Obj)} {I : Addr} (h : l.map (·.1) = l'.map (·.1)) (off : ∀ p ∈ l, p.1 ≠ I) : ∀ p ∈ l', p.1 ≠ I := fun p hp => by
  have hm : p.1 ∈ l'.map (·.1) := List.mem_map_of_mem hp
  rw [← h] at hm
  obtain ⟨q, hq, e⟩ := List.mem_map.mp hm
  rw [← e]; exact off q hq
theorem joinP {α : Type} {M : Model} {A : Around} {t : Sem α} {Q : α → Shared → Prop} {E : Value → Shared → Prop} {s1 : Shared} (P : α → Shared → Prop) (h : wpAny M A t P (fun _ _ => False) s1) (k : ∀ a s', P a s' → Q a s') : wpAny M A t Q E s1 :=
  wpAny_mono h k fun _ _ e => e.elim
theorem absQ {α : Type} {M : Model} {A : Around} {t : Sem α} {Q : α → Shared → Prop} {E : Value → Shared → Prop} {s : Shared} (h : ∀ Q' : α → Shared → Prop, (∀ a s', Q a s' → Q' a s') → wpAny M A t Q' E s) : wpAny M A t Q E s := h Q fun _ _ h => h
theorem TurnEndM.mk {g h : Heap} {L : Addr} {J : (Str → Option Value) → List (Addr × Obj) → Prop} {I : Addr} {oI : Obj} {s : Shared} {Q : Flow → Shared → Prop} {tk : Nat} {m : Str → Option Value} {nw : List (Addr × Obj)} (F : Fr g L h m) (N : News g L h ((I, oI) :: nw)) (o : ∀ p ∈ nw, p.1 ≠ I) (j : J m nw) : TurnEndM g L J I oI s Q .next { s with heap := h, toks := tk } := ⟨_, _, _, _, rfl, F, N, o, j⟩
theorem EndM.mk {g h : Heap} {L : Addr} {m : Str → Option Value} {s : Shared} {own nw : List (Addr × Obj)} {ca : List Addr} {V : Nat → Value → List (Addr × Obj) → Prop} {y : Value} {tk : Nat} (F : Fr g L h m) (N : News g L h (own ++ nw)) (o : OffC ca nw) (v : V tk y nw) : EndM g L m s own ca V y { s with heap := h, toks := tk } := ⟨_, _, _, rfl, F, N, o, v⟩
theorem absT {α β : Type} {M : Model} {A : Around} {t : Sem α} {u : Sem β} {Q : β → Shared → Prop} {E E2 : Value → Shared → Prop} {s : Shared} (h : ∀ Q' : β → Shared → Prop, (∀ a s', Q a s' → Q' a s') → wpAny M A t (fun _ s2 => wpAny M A u Q' E2 s2) E s) : wpAny M A t (fun _ s2 => wpAny M A u Q E2 s2) E s := h Q fun _ _ h => h
set_option hygiene false
theorem wJN1 : True := by (k_with "mystep" => ((with_reducible show wpAny _ _ (call (Value.type "str") [Value.int _ _] _) _ _ _); k_dflt (refine' str_guest ?gz9 ?_; (case gz9 => assumption)))); exact True.intro
theorem wJN2 : True := by (k_with "mystep" => ((with_reducible show wpAny _ _ (call (Value.type "int") [Value.str _ _] _) _ _ _); k_dflt (refine' int_fig ?gz9 ?_; (case gz9 => assumption)))); exact True.intro







theorem lookV_ents {tab : List (Nat × Nat)} (ht : ∀ p ∈ tab, p.1 < 4 ∧ p.2 < 4) {k : Nat} (hk : k < 4) {nm : Str} (hl : Txt.lower nm = low k) {v : Value} (h : LookV (ents tab) nm v) :
    (lookT tab k = none → v = .none) ∧ ∀ g', lookT tab k = some g' → ∃ t, v = .str (fig g') t := by
  unfold LookV at h
  rw [hl, find_ents (fun p hp => (ht p hp).1) hk] at h
  unfold lookT
  cases q : tab.find? (fun p => p.1 == k) with
  | none => rw [q] at h; exact ⟨fun _ => h, (fun g' e => nomatch e)⟩
  | some p => rw [q] at h; exact ⟨(fun e => nomatch e), fun g' e => by cases e; exact h⟩
theorem isSome_ents {tab : List (Nat × Nat)} (ht : ∀ p ∈ tab, p.1 < 4 ∧ p.2 < 4) {k : Nat} (hk : k < 4) {nm : Str} (hl : Txt.lower nm = low k) : ((ents tab).find? (fun e => Txt.lower e.1 == Txt.lower nm)).isSome = (lookT tab k).isSome := by
  rw [hl, find_ents (fun p hp => (ht p hp).1) hk]; unfold lookT
  cases tab.find? (fun p => p.1 == k) <;> rfl
theorem ms3_pre {tb d hl : Addr} {hk : Int} {kt : Tok} {dn : Nat} {ol : Obj} {r : List (Addr × Obj)} {x : Addr × Obj} : ∀ q ∈ Mine.ms3 tb d hl hk kt dn ol, q ∈ x :: (tb, instObj 242 d) :: (d, dictOf [⟨hk, .str (Str.ofString "_headers") kt, .ref hl⟩] dn) :: (hl, ol) :: r :=
  fun q hq => List.mem_cons_of_mem _ (List.mem_append_left r hq)
theorem name_odd : ∀ g, g < 4 → ((g : Nat) : Int).fmod 2 = 1 → g % 2 = 1 := by decide
theorem name_even : ∀ g, g < 4 → ¬ ((g : Nat) : Int).fmod 2 = 1 → ¬ g % 2 = 1 := by decide
theorem nameOf_odd {g k : Nat} (hg : g < 4) (h : ((g : Nat) : Int).fmod 2 = 1) : nameOf g k = upp k := if_pos (name_odd g hg h)
theorem nameOf_even {g k : Nat} (hg : g < 4) (h : ¬ ((g : Nat) : Int).fmod 2 = 1) : nameOf g k = low k := if_neg (name_even g hg h)
theorem Tab.mono {P P' : Tok → Prop} {ht h : Heap} {tb d hl : Addr} {ol : Obj} {nl : Nat} {ts : List Addr} {es : List (Str × Str)} (t : Tab P ht h tb d hl ol nl ts es) (hp : ∀ k, P k → P' k) : Tab P' ht h tb d hl ol nl ts es :=
  { t with en := ⟨t.en.1, fun i a e h1 h2 => let ⟨k1, k2, hk, r⟩ := t.en.2 i a e h1 h2; ⟨k1, k2, hp _ hk, r⟩⟩ }
theorem Ents.mono {P P' : Tok → Prop} {h : Heap} {ts : List Addr} {es : List (Str × Str)} (t : Ents P h ts es) (hp : ∀ k, P k → P' k) : Ents P' h ts es :=
  ⟨t.1, fun i a e h1 h2 => let ⟨k1, k2, hk, r⟩ := t.2 i a e h1 h2; ⟨k1, k2, hp _ hk, r⟩⟩
theorem ents_set {tab : List (Nat × Nat)} (ht : ∀ p ∈ tab, p.1 < 4 ∧ p.2 < 4) {g k : Nat} (hk : k < 4) : (ents tab).filter (keepsName (nameOf g k)) ++ [(nameOf g k, fig g)] = ents (setT tab (k, g)) := by
  have h := ents_filter (fun p hp => (ht p hp).1) hk
  have e : keepsName (nameOf g k) = fun e => !(Txt.lower e.1 == low k) := by funext e; unfold keepsName; rw [low_name hk]
  rw [e, h]; unfold setT ents; rw [List.map_append]; rfl
theorem name_len {g k : Nat} (hk : k < 4) : (nameOf g k).length < 100 := by
  unfold nameOf; split
  · exact len_upp k hk
  · exact len_low k hk
theorem name_miss {g k : Nat} (hk : k < 4) : Misses 114 (nameOf g k) := by
  unfold nameOf; split
  · exact miss_upp k hk
  · exact miss_low k hk
theorem ents_snoc (laid : List (Nat × Nat)) (k g : Nat) : ents (laid ++ [(k, g)]) = ents laid ++ [(nameOf g k, fig g)] := by unfold ents; rw [List.map_append]; rfl
theorem refs_snoc (ts : List Addr) (t : Addr) : refs (ts ++ [t]) = refs ts ++ [.ref t] := by unfold refs; rw [List.map_append]; rfl
theorem tail_of {g h : Heap} {L : Addr} {m : Str → Option Value} {P P2 : Tok → Prop} {ts lts : List Addr} {es es2 : List (Str × Str)} (F : Fr g L h m) (E : Ents P h ts es) (E2 : Ents P2 h lts es2) :
    ∃ tl : List (Addr × Obj), News g L h tl ∧ (∀ p ∈ tl, p.2.cls = .type "tuple" ∧ ∃ vs n, p.2.data = .seq vs n) ∧ ∀ h2 : Heap, (∀ b o, g.get? b = some o → h2.get? b = some o) → News g L h2 tl → Ents P h2 ts es ∧ Ents P2 h2 lts es2 := by
  have key : ∀ (P : Tok → Prop) (ts : List Addr) (es : List (Str × Str)), Ents P h ts es → ∃ tl : List (Addr × Obj), News g L h tl ∧ (∀ p ∈ tl, p.2.cls = .type "tuple" ∧ ∃ vs n, p.2.data = .seq vs n) ∧ ∀ h2 : Heap, (∀ b o, g.get? b = some o → h2.get? b = some o) → News g L h2 tl → Ents P h2 ts es := by
    intro P ts es E
    refine ⟨ts.filterMap fun t => if (g.get? t).isSome then none else (h.get? t).map fun o => (t, o), fun p hp => ?_, fun p hp => ?_, fun h2 k N => E.keeps fun t ht o ho => ?_⟩
    · obtain ⟨t, ht, e⟩ := List.mem_filterMap.mp hp
      obtain ⟨i, hi⟩ := List.getElem?_of_mem ht
      have hlt : i < ts.length := (List.getElem?_eq_some_iff.mp hi).1
      refine absG fun G9 hG9 => ?_
      obtain ⟨k1, k2, _, o, ho, hc, n, hd⟩ := E.2 i t (es[i]'(E.1 ▸ hlt)) hi (List.getElem?_eq_getElem _)
      refine hG9 ?_; clear hG9
      cases hg : g.get? t with
      | some x => rw [hg] at e; cases e
      | none =>
        rw [hg, ho] at e; cases e
        refine ⟨ho, fun q => ?_, hg⟩
        refine absG fun G9 hG9 => ?_
        obtain ⟨oL, es, ep, e1, e2, _⟩ := F.ns
        have q : t = L := q
        refine hG9 ?_; clear hG9
        rw [← q, ho] at e1; cases e1
        rw [hd] at e2; cases e2
    · obtain ⟨t, ht, e⟩ := List.mem_filterMap.mp hp
      obtain ⟨i, hi⟩ := List.getElem?_of_mem ht
      have hlt : i < ts.length := (List.getElem?_eq_some_iff.mp hi).1
      refine absG fun G9 hG9 => ?_
      obtain ⟨k1, k2, _, o, ho, hc, n, hd⟩ := E.2 i t (es[i]'(E.1 ▸ hlt)) hi (List.getElem?_eq_getElem _)
      refine hG9 ?_; clear hG9
      cases hg : g.get? t with
      | some x => rw [hg] at e; cases e
      | none => rw [hg, ho] at e; cases e; exact ⟨hc, _, n, hd⟩
    · cases hg : g.get? t with
      | some x => have := F.keep _ _ hg; rw [ho] at this; cases this; exact k _ _ hg
      | none => exact (N (t, o) (List.mem_filterMap.mpr ⟨t, ht, by rw [hg, ho]; rfl⟩)).1
  refine absG fun G9 hG9 => ?_
  obtain ⟨l1, n1, c1, k1⟩ := key P ts es E
  obtain ⟨l2, n2, c2, k2⟩ := key P2 lts es2 E2
  refine hG9 ?_; clear hG9
  refine ⟨l1 ++ l2, fun p hp => ?_, fun p hp => ?_, fun h2 k N => ⟨k1 h2 k fun p hp => N p (List.mem_append_left _ hp), k2 h2 k fun p hp => N p (List.mem_append_right _ hp)⟩⟩
  · rcases List.mem_append.mp hp with hp | hp
    · exact n1 p hp
    · exact n2 p hp
  · rcases List.mem_append.mp hp with hp | hp
    · exact c1 p hp
    · exact c2 p hp
theorem tail_off {g h : Heap} {L : Addr} {tl : List (Addr × Obj)} {as : List Addr} (N : News g L h tl) (c : ∀ p ∈ tl, p.2.cls = .type "tuple") (ha : ∀ a ∈ as, ∃ o, h.get? a = some o ∧ o.cls ≠ .type "tuple") : OwnOff tl as :=
  fun p hp b hb => by
    refine absG fun G9 hG9 => ?_
    obtain ⟨o, ho, hc⟩ := ha b hb
    refine hG9 ?_; clear hG9
    exact ne_cls (N p hp).1 ho (c p hp ▸ hc.symm)
theorem foldl_snoc (ds tab : List (Nat × Nat)) (p : Nat × Nat) : (ds ++ [p]).foldl setT tab = setT (ds.foldl setT tab) p := by rw [List.foldl_append]; rfl
theorem ents_hel {tab : List (Nat × Nat)} (ht : ∀ p ∈ tab, p.1 < 4 ∧ p.2 < 4) : ∀ e ∈ ents tab, e.1.length < 100 := fun e he => by
  refine absG fun G9 hG9 => ?_
  obtain ⟨p, hp, rfl⟩ := List.mem_map.mp he
  refine hG9 ?_; clear hG9
  exact name_len (ht p hp).1
theorem Tab.in4 {P : Tok → Prop} {g h : Heap} {L : Addr} {news : List (Addr × Obj)} {tb d hl : Addr} {ol : Obj} {nl : Nat} {ts : List Addr} {es : List (Str × Str)} {hk : Int} {kt : Tok} {dn : Nat} (N : News g L h news)
    (hsub : ∀ q ∈ Mine.ms3 tb d hl hk kt dn ol, q ∈ news) (hoc : ol = listOf (refs ts).toArray nl) (en : Ents P h ts es) (hel : ∀ e ∈ es, e.1.length < 100) : Tab P g h tb d hl ol nl ts es :=
  { TabI.of_news N (hsub _ (.head _)) (hsub _ (.tail _ (.head _))) with hol := (N _ (hsub _ (mem_at 2 rfl))).1, hoc := hoc, en := en, hel := hel }
theorem fin_ents2 {g h : Heap} {L D : Addr} {o : Obj} {nw : List (Addr × Obj)} {lts : List Addr} {es : List (Str × Str)} {a b : Str} {k1 k2 : Tok} {n : Nat} (N : News g L h nw) (hm : (D, o) ∈ nw) (hc : o.cls = .type "tuple") (hd : o.data = .seq #[.str a k1, .str b k2] n) (E : Ents (fun _ => True) h lts es) :
    Ents (fun _ => True) h (lts ++ [D]) (es ++ [(a, b)]) := E.append (Ents.cons ⟨k1, k2, trivial, o, (N _ hm).1, hc, n, hd⟩ Ents.nil)
theorem refs_len (ts : List Addr) : (refs ts).length = ts.length := List.length_map ..
set_option hygiene false
theorem c_seat {w : World} {loose : List Str} {mean : ExcName → Option Value} {mg mb : Str → Option Value} {ht : Heap} (X : (Mine.hd.heap_1 w.params).In ht) (T : Top Mine.hd.view_1 loose mean mg mb ht) {A : Around} (hA : A.handled = none) {s : Shared} (ek : ht.StaysIn s.heap) {Q E : Value → Shared → Prop} (n : Nat) (hroom : A.depth + 6 * n + 10 < recursionLimit) {N₀ : Nat} {tb d hl ofl ldl rl nrl : Addr} {ol : Obj} {nl no nd : Nat} {ts lts : List Addr} {tab laid : List (Nat × Nat)} {nn : List (List Nat)} {offs : List Nat} {ofs : List Value}
    (TB : Tab (tokP N₀) ht s.heap tb d hl ol nl ts (ents tab)) (n3 : ht.get? hl = none) (lo1 : s.heap.get? ofl = some (listOf ofs.toArray no)) (lo2 : ht.get? ofl = none) (hofs : NumsAre ofs offs)
    (ld1 : s.heap.get? ldl = some (listOf (refs lts).toArray nd)) (ld2 : ht.get? ldl = none) (EL : Ents (fun _ => True) s.heap lts (ents laid))
    (hne : hl ≠ ofl ∧ hl ≠ ldl ∧ ofl ≠ ldl) (RR : RoomsAt (hideAll s.heap [hl, ofl, ldl]) rl) (NN : NearAt (hideAll s.heap [hl, ofl, ldl]) nrl nn) (hnn : nn.length = 4) (hnk : ∀ ks ∈ nn, ∀ k ∈ ks, k < 4)
    (htab : ∀ p ∈ tab, p.1 < 4 ∧ p.2 < 4) (hsz : tab.length + laid.length + offs.length + openR offs + n < 90) (hop : openR offs + 1 ≤ n)
    (g : Nat) (tg : Tok) (hg : g < 4) 
    (retF : ∀ (h' : Heap) (tk' : Nat) (ofs' : List Value) (no' : Nat), (seatN (lookT tab) (fun j => nn.getD j []) n g offs).1 = none → Ext [ofl] s.heap h' → h'.get? ofl = some (listOf ofs'.toArray no') → NumsAre ofs' (seatN (lookT tab) (fun j => nn.getD j []) n g offs).2 → s.toks ≤ tk' → Q (.bool false) { s with heap := h', toks := tk' })
    (retT : ∀ (h' : Heap) (tk' : Nat) (ol' : Obj) (nl' : Nat) (ts' : List Addr) (ofs' : List Value) (no' : Nat) (lts' : List Addr) (nd' : Nat) (ds : List (Nat × Nat)), (seatN (lookT tab) (fun j => nn.getD j []) n g offs).1 = some ds → Ext [hl, ofl, ldl] s.heap h' → Tab (tokP (max N₀ tk')) ht h' tb d hl ol' nl' ts' (ents (ds.foldl setT tab)) → h'.get? ofl = some (listOf ofs'.toArray no') → h'.get? ldl = some (listOf (refs lts').toArray nd') →
      Ents (fun _ => True) h' lts' (ents (laid ++ ds)) → s.toks ≤ tk' → Q (.bool true) { s with heap := h', toks := tk' }) :
    wpAny (model PySem.Challenge.rw_ti0061_01.prog w) A (call (.ref 284) [.ref tb, .ref rl, .ref nrl, .int (g : Nat) tg, .ref ofl, .ref ldl] []) Q E s := by
  induction n generalizing A s ht N₀ ol nl no nd ts lts tab laid offs ofs g tg Q E with
  | zero => omega
  | succ n ih =>
  ((revert X; k_fill; intro X; obtain ⟨hh, dp, fr, gd, un⟩ := A; cases hA; (dsimp only at hroom)))
  refine wpAny_toks ?_
  refine absG fun G9 hG9 => ?_
  obtain ⟨hk, kt, dn, hms3⟩ := Tab.ms3 TB n3
  have hms : ∀ q ∈ Mine.ms3 tb d hl hk kt dn ol ++ [(ofl, listOf ofs.toArray no), (ldl, listOf (refs lts).toArray nd)], s.heap.get? q.1 = some q.2 ∧ ht.get? q.1 = none := fun q hq => by
    rcases List.mem_append.mp hq with hq | hq
    · exact hms3 q hq
    rcases List.mem_cons.mp hq with rfl | hq
    · exact ⟨lo1, lo2⟩
    · rw [List.mem_singleton.mp hq]; exact ⟨ld1, ld2⟩
  refine hG9 ?_; clear hG9
  refine' callM (Mine.ms3 tb d hl hk kt dn ol ++ [(ofl, listOf ofs.toArray no), (ldl, listOf (refs lts).toArray nd)]) ?k1 ?k2 ?k3 ?k4 ?k6 ?k7 ?k8 ?k9 ?kB ?_ ?c5 ?c2 ?c3 ?c4
  (case k4 => exact hms)
  ((case k1 => assumption); (case k2 => assumption); (case k3 => assumption); (case k6 => k_is); (case k7 => k_is); (case k8 => ((try simp only [depth_under_make, depth_under_kw, depth_in1, depth_deeper]); (try dsimp only); omega)); (case k9 => first | exact BindsTo.of_eq rfl | exact binds_K (Frag.In.keeps (by assumption) (by assumption)) rfl (by k_is) rfl rfl rfl); (case kB => exact locs rfl); (case c5 => decide); (case c2 => exact rfl); (case c3 => exact rfl); (case c4 => exact rfl))
  intro g' L' h' F' N' X' T' G' st' l'
  clear l'
  (dsimp only [Mine.ms3, List.cons_append, List.nil_append] at N')
  (try dsimp only); (try k_fold)
  have gro : ∀ b o, (hideAll s.heap [hl, ofl, ldl]).get? b = some o → o.cls = .type "list" → g'.get? b = some o := fun b o e hc => by
    have e0 := of_hideAll _ e
    have n0 := hid_not e
    refine absG fun G9 hG9 => ?_
    obtain ⟨m1, m2, m3⟩ : b ≠ hl ∧ b ≠ ofl ∧ b ≠ ldl := by simpa using n0
    have m4 : b ≠ tb := ne_cls e0 TB.inst (hc ▸ type_ref)
    have m5 : b ≠ d := ne_cls e0 (hms3 _ (.tail _ (.head _))).1 (hc ▸ type_ne (by decide))
    refine hG9 ?_; clear hG9
    exact G' b o e0 (by simp [Mine.ms3, m1, m2, m3, m4, m5])
  have RR' := RR.mono gro
  have NN' := NN.mono gro
  have RRg := RR'
  have NNg := NN'
  refine absG fun G9 hG9 => ?_
  obtain ⟨rvs, rn, hr1, hr4, hrk⟩ := RR'
  obtain ⟨nvs, nnn, hn1, hn4, hnr⟩ := NN'
  have gts : Ents (tokP N₀) g' ts (ents tab) := TB.en.keeps2 fun t o ho hc => G' _ _ ho (by
    have m1 : t ≠ hl := ne_cls ho TB.hol (hc ▸ TB.cls ▸ type_ne (by decide))
    have m2 : t ≠ ofl := ne_cls ho lo1 (hc ▸ type_ne (by decide))
    have m3 : t ≠ ldl := ne_cls ho ld1 (hc ▸ type_ne (by decide))
    have m4 : t ≠ tb := ne_cls ho TB.inst (hc ▸ type_ref)
    have m5 : t ≠ d := ne_cls ho (hms3 _ (.tail _ (.head _))).1 (hc ▸ type_ne (by decide))
    simp [Mine.ms3, m1, m2, m3, m4, m5])
  have glts : Ents (fun _ => True) g' lts (ents laid) := EL.keeps2 fun t o ho hc => G' _ _ ho (by
    have m1 : t ≠ hl := ne_cls ho TB.hol (hc ▸ TB.cls ▸ type_ne (by decide))
    have m2 : t ≠ ofl := ne_cls ho lo1 (hc ▸ type_ne (by decide))
    have m3 : t ≠ ldl := ne_cls ho ld1 (hc ▸ type_ne (by decide))
    have m4 : t ≠ tb := ne_cls ho TB.inst (hc ▸ type_ref)
    have m5 : t ≠ d := ne_cls ho (hms3 _ (.tail _ (.head _))).1 (hc ▸ type_ne (by decide))
    simp [Mine.ms3, m1, m2, m3, m4, m5])
  obtain ⟨hne1, hne2, hne3⟩ : (@Ne Nat hl ofl) ∧ (@Ne Nat hl ldl) ∧ (@Ne Nat ofl ldl) := hne
  have a1 : @Ne Nat tb hl := nl_of N' (.head _) (mem_at 2 rfl) (TB.cls ▸ type_ref.symm)
  have a2 : @Ne Nat tb ofl := nl_of N' (.head _) (mem_at 3 rfl) type_ref.symm
  have a3 : @Ne Nat tb ldl := nl_of N' (.head _) (mem_at 4 rfl) type_ref.symm
  have a4 : @Ne Nat d hl := nl_of N' (.tail _ (.head _)) (mem_at 2 rfl) (TB.cls ▸ type_ne (by decide))
  have a5 : @Ne Nat d ofl := nl_of N' (.tail _ (.head _)) (mem_at 3 rfl) (type_ne (by decide))
  have a6 : @Ne Nat d ldl := nl_of N' (.tail _ (.head _)) (mem_at 4 rfl) (type_ne (by decide))
  have a7 : @Ne Nat tb d := nl_of N' (.head _) (.tail _ (.head _)) type_ref.symm
  have hgn : nn[g]? = some (nn.getD g []) := by rw [List.getD_eq_getElem?_getD, List.getElem?_eq_getElem (by omega)]; rfl
  obtain ⟨nb, nws, nbn, env1, hn2, hnums⟩ : Ex3 fun (b : Addr) (ws : List Value) (n' : Nat) => Cj3 (nvs[g]? = some (.ref b)) (g'.get? b = some (listOf ws.toArray n')) (NumsAre ws (nn.getD g [])):= by
    have hlt : g < nvs.length := by omega
    obtain ⟨b, ws, n', e1, e2, e3⟩ := hnr g _ _ (List.getElem?_eq_getElem hlt) hgn
    exact ⟨b, ws, n', by rw [List.getElem?_eq_getElem hlt, e1], e2, e3⟩
  have hks : ∀ k ∈ nn.getD g [], k < 4 := hnk _ (List.mem_of_getElem? hgn)
  have hnk2 : ∀ j, ∀ k ∈ (fun j => nn.getD j []) j, k < 4 := fun j k hk => by
    simp only [List.getD_eq_getElem?_getD] at hk
    cases e : nn[j]? with
    | none => rw [e] at hk; cases hk
    | some ks => rw [e] at hk; exact hnk ks (List.mem_of_getElem? e) k hk
  refine hG9 ?_; clear hG9
  (repeat' (first | (k_unfold; (try dsimp only)) | (k_extra "mycall") | (k_extra "mystep") | (k_extra "no for"; k_extra "head")))
  refine forL ?_
  (repeat' (first | (k_unfold; (try dsimp only)) | (k_extra "mycall") | (k_extra "mystep") | (k_extra "no for"; k_extra "head")))
  ((with_reducible rename Fr _ _ _ _ => F9); (with_reducible rename News _ _ _ _ => N9))
  refine' c_getitemL X' T' rfl ?e ?r (F9.keep _ _ hn1) rfl rfl g _ _ env1 (by omega) ?_
  (case e => exact F9.keep)
  (case r => k_extra "room")
  intro h2 tk2 e2
  have F2 := Mine.Fr.ext F9 e2
  have N2 := Mine.News.ext N9 e2
  clear F9 N9 e2
  refine ⟨g', nb, nws, fun i m nw => Ex3 fun ofs' no' offs' => Cj10 (nw = [(tb, instObj 242 d), (d, dictOf [⟨hk, .str (Str.ofString "_headers") kt, .ref hl⟩] dn), (hl, ol), (ofl, listOf ofs'.toArray no'), (ldl, listOf (refs lts).toArray nd)]) (NumsAre ofs' offs') ((offs'.length + openR offs' = offs.length + openR offs ∧ openR offs' ≤ openR offs)) (goL (seatN (lookT tab) (fun j => nn.getD j []) n) (lookT tab) g ((nn.getD g []).drop i) offs' = goL (seatN (lookT tab) (fun j => nn.getD j []) n) (lookT tab) g (nn.getD g []) offs) (m (Str.ofString "table") = some (.ref tb)) (m (Str.ofString "rooms") = some (.ref rl)) (m (Str.ofString "near") = some (.ref nrl)) (m (Str.ofString "guest") = some (.int (g : Nat) tg)) (m (Str.ofString "offered") = some (.ref ofl)) (m (Str.ofString "laid") = some (.ref ldl)), _, _, _, nbn, rfl, rfl, F2, N2, rfl, rfl, .inl hn2,
      ⟨ofs, no, offs, rfl, hofs, ⟨rfl, Nat.le_refl _⟩, rfl, rfl, rfl, rfl, rfl, rfl, rfl⟩, ?_, ?_⟩
  · intro i v m₁ news₁ h tk I oI hv hz9q hcI F₁ N₁ off
    refine absG fun G9 hG9 => ?_
    obtain ⟨ofs', no', offs', rfl, hofs', hop', hgo, m1, m2, m3, m4, m5, m6⟩ := hz9q
    obtain ⟨k, tkk, rfl, hki⟩ := hnums.item hv
    have hk4 : k < 4 := hks k (List.mem_of_getElem? hki)
    refine hG9 ?_; clear hG9
    clear F2 N2
    have hgo2 := hgo
    rw [drop_cons hki] at hgo2
    have b1 : @Ne Nat tb I := off _ (.head _)
    have b2 : @Ne Nat d I := off _ (.tail _ (.head _))
    have b3 : @Ne Nat hl I := off _ (mem_at 2 rfl)
    have b4 : @Ne Nat ofl I := off _ (mem_at 3 rfl)
    have b5 : @Ne Nat ldl I := off _ (mem_at 4 rfl)
    refine absT fun Q9 K9 => ?_
    (repeat' (first | (k_unfold; (try dsimp only)) | (k_extra "mycall") | (k_extra "mystep") | (k_extra "no for"; k_extra "head")))
    · ((with_reducible rename Fr _ _ _ _ => F9); (with_reducible rename News _ _ _ _ => N9))
      rename _ = true => hin
      rw [any_nums] at hin
      rw [goL_skip hin] at hgo2
      refine K9 _ _ ?_
      exact ⟨_, _, _, _, rfl, F9, N9, off, ofs', no', offs', rfl, hofs', hop', hgo2, m1, m2, m3, m4, m5, m6⟩
    · ((with_reducible rename Fr _ _ _ _ => F9); (with_reducible rename News _ _ _ _ => N9))
      rename _ = false => hin
      rw [any_nums] at hin
      have hstep := openR_step hk4 hin
      have hlo : ofs'.length = offs'.length := by have := IntsAre.length hofs'; simpa [nums] using this
      refine' append_K F9 N9 ?kU9 (fun h3 F3 N3 => ?_) ?kZ9
      (case kU9 => k_upd)
      (case kZ9 => rw [List.size_toArray, sizeLine_eq]; omega)
      clear F9 N9
      rw [List.push_toArray] at N3
      have hofs2 := hofs'.snoc k tkk
      refine absG fun G9 hG9 => ?_
      obtain ⟨rx, rt, hrv, hlow, hupp, hrlen⟩ : Ex2 fun x t => Cj4 (rvs[k]? = some (.str x t)) (Txt.lower x = low k) (Txt.upper x = upp k) (x.length < 100):= by
        have hlt : k < rvs.length := by omega
        obtain ⟨x, t, e1, e2, e3, e4⟩ := hrk k _ (List.getElem?_eq_getElem hlt)
        exact ⟨x, t, by rw [List.getElem?_eq_getElem hlt, e1], e2, e3, e4⟩
      have hll : Txt.lower (Txt.lower rx) = low k := by rw [hlow]; exact low_low k hk4
      have hlu : Txt.lower (Txt.upper rx) = low k := by rw [hupp]; exact low_upp k hk4
      have hel : ∀ e ∈ ents tab, e.1.length < 100 := TB.hel
      refine hG9 ?_; clear hG9
      (repeat' (first | (k_unfold; (try dsimp only)) | (k_extra "mycall") | (k_extra "mystep") | (k_extra "no for"; k_extra "head")))
      ((with_reducible rename Fr _ _ _ _ => F9); (with_reducible rename News _ _ _ _ => N9))
      refine sub_list ⟨_, F9.keep _ _ hr1, rfl, _, rfl⟩ hrv (by omega) ?_
      (repeat' (first | (k_unfold; (try dsimp only)) | (k_extra "mycall") | (k_extra "mystep") | (k_extra "no for"; k_extra "head")))
      ((with_reducible rename Fr _ _ _ _ => F9); (with_reducible rename News _ _ _ _ => N9))
      refine' c_getitemF X' T' rfl ?e ?r (Tab.in3 F9 N9 ms3_pre TB.hoc gts TB.hel) _ _ (by rw [hll]; exact miss_low k hk4) (by rw [hlow]; exact len_low k hk4) ?_
      (case e => exact F9.keep)
      (case r => k_extra "room")
      intro v9 h4 tk4 e4 hv9
      obtain ⟨hv0, hv1⟩ := lookV_ents htab hk4 hll hv9
      have F4 := Mine.Fr.ext F9 e4
      have N4 := Mine.News.ext N9 e4
      clear F9 N9 e4
      (repeat' (first | (k_unfold; (try dsimp only)) | (k_extra "mycall") | (k_extra "mystep") | (k_extra "no for"; k_extra "head")))
      ((with_reducible rename Fr _ _ _ _ => F9); (with_reducible rename News _ _ _ _ => N9))
      refine sub_list ⟨_, F9.keep _ _ hr1, rfl, _, rfl⟩ hrv (by omega) ?_
      (repeat' (first | (k_unfold; (try dsimp only)) | (k_extra "mycall") | (k_extra "mystep") | (k_extra "no for"; k_extra "head")))
      ((with_reducible rename Fr _ _ _ _ => F9); (with_reducible rename News _ _ _ _ => N9))
      have hb := isSome_ents htab hk4 hlu
      refine' c_containsF X' T' rfl ?e ?r (Tab.in3 F9 N9 ms3_pre TB.hoc gts TB.hel) _ _ (by rw [hlu]; exact miss_low k hk4) (by rw [hupp]; exact len_upp k hk4) ?_
      (case e => exact F9.keep)
      (case r => k_extra "room")
      intro h5 tk5 e5
      have F5 := Mine.Fr.ext F9 e5
      have N5 := Mine.News.ext N9 e5
      clear F9 N9 e5
      rw [hb]
      (repeat' (first | (k_unfold; (try dsimp only)) | (k_extra "mycall") | (k_extra "mystep") | (k_extra "no for"; (fail_if_success (with_reducible show wpAny _ _ (exec (Stmt.If _ _ _ _) _) _ _ _)); k_extra "head")))
      ((with_reducible rename Fr _ _ _ _ => F9); (with_reducible rename News _ _ _ _ => N9))
      refine joinF (s := s) F9 N9 ?_ fun h6 tk6 F6 N6 => ?_
      · revert F9
        cases hlk : lookT tab k with
        | none =>
          intro F9
          obtain rfl := hv0 hlk
          (dsimp only [Option.isSome] at F9 ⊢)
          (repeat' (first | (k_unfold; (try dsimp only)) | (k_extra "mycall") | (k_extra "mystep") | (k_extra "no for"; k_extra "head")))
          ((with_reducible rename Fr _ _ _ _ => F9); (with_reducible rename News _ _ _ _ => N9))
          refine' c_not X' T' rfl ?e ?r _ ?_
          (case e => exact F9.keep)
          (case r => k_extra "room")
          intro h6 tk6 e6
          have F6 := Mine.Fr.ext F9 e6
          have N6 := Mine.News.ext N9 e6
          clear F9 N9 e6
          (repeat' (first | (k_unfold; (try dsimp only)) | (k_extra "mycall") | (k_extra "mystep") | (k_extra "no for"; k_extra "head")))
          exact ⟨_, _, rfl, rfl, F6, N6⟩
        | some q =>
          intro F9
          obtain ⟨th, rfl⟩ := hv1 q hlk
          (dsimp only [Option.isSome] at F9 ⊢)
          (repeat' (first | (k_unfold; (try dsimp only)) | (k_extra "mycall") | (k_extra "mystep") | (k_extra "no for"; k_extra "head")))
          ((with_reducible rename Fr _ _ _ _ => F9); (with_reducible rename News _ _ _ _ => N9))
          refine' c_not X' T' rfl ?e ?r _ ?_
          (case e => exact F9.keep)
          (case r => k_extra "room")
          intro h6 tk6 e6
          have F6 := Mine.Fr.ext F9 e6
          have N6 := Mine.News.ext N9 e6
          clear F9 N9 e6
          (repeat' (first | (k_unfold; (try dsimp only)) | (k_extra "mycall") | (k_extra "mystep") | (k_extra "no for"; k_extra "head")))
          exact ⟨_, _, rfl, rfl, F6, N6⟩
      clear F9 N9
      (repeat' (first | (k_unfold; (try dsimp only)) | (k_extra "mycall") | (k_extra "mystep") | (k_extra "no for"; (fail_if_success (with_reducible show wpAny _ _ (PySem.isTrue (PySem.Expr.BoolOp _ _ _) _ _) _ _ _)); k_extra "head")))
      ((with_reducible rename Fr _ _ _ _ => F9); (with_reducible rename News _ _ _ _ => N9))
      refine joinM (s := s) F9 (fun v h6 tk6 nw6 => (v = false ∧ Ex3 fun ofs1 no1 offs1 => Cj4 (nw6 = [(I, oI), (tb, instObj 242 d), (d, dictOf [⟨hk, .str (Str.ofString "_headers") kt, .ref hl⟩] dn), (hl, ol), (ofl, listOf ofs1.toArray no1), (ldl, listOf (refs lts).toArray nd)]) (NumsAre ofs1 offs1) ((offs1.length + openR offs1 = offs.length + openR offs ∧ openR offs1 ≤ openR offs)) (goL (seatN (lookT tab) (fun j => nn.getD j []) n) (lookT tab) g ((nn.getD g []).drop (i + 1)) offs1 = goL (seatN (lookT tab) (fun j => nn.getD j []) n) (lookT tab) g (nn.getD g []) offs)) ∨ (v = true ∧ Ex10 fun (ol1 : Obj) (nl1 : Nat) (ts1 : List Addr) (ofs1 : List Value) (no1 : Nat) (offs1 : List Nat) (lts1 : List Addr) (nd1 : Nat) (ds : List (Nat × Nat)) (tl : List (Addr × Obj)) => Cj7 (nw6 = (I, oI) :: (tb, instObj 242 d) :: (d, dictOf [⟨hk, .str (Str.ofString "_headers") kt, .ref hl⟩] dn) :: (hl, ol1) :: (ofl, listOf ofs1.toArray no1) :: (ldl, listOf (refs lts1).toArray nd1) :: tl) (OwnOff tl [I, tb, d, hl, ofl, ldl]) (goL (seatN (lookT tab) (fun j => nn.getD j []) n) (lookT tab) g (nn.getD g []) offs = (some (ds ++ [(k, g)]), offs1)) (ol1 = listOf (refs ts1).toArray nl1) ((∀ p ∈ ds, p.1 < 4 ∧ p.2 < 4)) (ds.length ≤ n) (∀ h2 : Heap, (∀ b o, g'.get? b = some o → h2.get? b = some o) → News g' L' h2 tl → Ents (tokP (max N₀ tk6)) h2 ts1 (ents (ds.foldl setT tab)) ∧ Ents (fun _ => True) h2 lts1 (ents (laid ++ ds))))) ?_ fun v h7 tk7 nw7 hP F7 N7 => ?_
      · revert F9
        cases hlk : lookT tab k with
        | none =>
          intro F9
          (dsimp only [Option.isSome] at F9 ⊢)
          (repeat' (first | (k_unfold; (try dsimp only)) | (k_extra "mycall") | (k_extra "mystep") | (k_extra "no for"; k_extra "head")))
          ((with_reducible rename Fr _ _ _ _ => F9); (with_reducible rename News _ _ _ _ => N9))
          refine ⟨_, _, _, .inr ⟨rfl, ol, nl, ts, ofs' ++ [.int (k : Nat) tkk], no' + 1, offs' ++ [k], lts, nd, [], [], rfl, (fun p hp => nomatch hp), ?_, TB.hoc, (fun p hp => nomatch hp), Nat.zero_le _, fun h2 k2 _ => ⟨?_, ?_⟩⟩, rfl, F9, N9⟩
          · rw [← hgo2, goL_free hin hlk]; rfl
          · exact (gts.mono fun t ht => ⟨ht.1, Nat.lt_of_lt_of_le ht.2 (Nat.le_max_left _ _)⟩).keeps fun t _ o e => k2 t o e
          · rw [List.append_nil]; exact glts.keeps fun t _ o e => k2 t o e
        | some q =>
          intro F9
          obtain ⟨th, rfl⟩ := hv1 q hlk
          have hq4 := lookT_lt htab hlk
          (dsimp only [Option.isSome] at F9 ⊢)
          (repeat' (first | (k_unfold; (try dsimp only)) | (k_extra "mycall") | (k_extra "mystep") | (k_extra "no for"; k_extra "head")))
          ((with_reducible rename Fr _ _ _ _ => F9); (with_reducible rename News _ _ _ _ => N9))
          have nr1 := (N9 (hl, ol) (mem_at 3 rfl)).2.2
          have nr2 := (N9 _ (mem_at 4 rfl)).2.2
          have nr3 := (N9 _ (mem_at 5 rfl)).2.2
          have gro9 : ∀ b o, g'.get? b = some o → o.cls = .type "list" → (hideAll h6 [hl, ofl, ldl]).get? b = some o := fun b o e _ => hideAll_get _ (F9.keep _ _ e) fun hb => by
            rcases List.mem_cons.mp hb with rfl | hb
            · rw [nr1] at e; cases e
            rcases List.mem_cons.mp hb with rfl | hb
            · rw [nr2] at e; cases e
            · rw [List.mem_singleton.mp hb, nr3] at e; cases e
          refine' ih X' T' rfl ?e ?r ?t1 nr1 ?l1 nr2 hofs2 ?l3 nr3 ?el ?rr ?nn htab ?s1 ?s2 q _ hq4 ?_ ?_
          (case t1 => exact (Tab.in3 F9 N9 ms3_pre TB.hoc gts TB.hel))
          (case l1 => exact (N9 _ (mem_at 4 rfl)).1)
          (case l3 => exact (N9 _ (mem_at 5 rfl)).1)
          (case el => exact (glts.keeps fun t _ o e => F9.keep t o e))
          (case rr => exact (RRg.mono gro9))
          (case nn => exact (NNg.mono gro9))
          (case e => exact F9.keep)
          (case r => k_extra "room")
          (case s1 => rw [List.length_append, List.length_singleton]; omega)
          (case s2 => omega)
          · intro h8 tk8 ofs8 no8 hres8 e8 lo8 hn8 _
            refine' with_upd N9 e8 lo8 ?kU9 fun N8 => ?_
            (case kU9 => k_upd)
            have F8 := Mine.Fr.extx F9 e8 (fun x hx => by rw [List.mem_singleton.mp hx]; exact ⟨nr2, (N9 _ (mem_at 4 rfl)).2.1⟩)
            clear F9 N9
            (repeat' (first | (k_unfold; (try dsimp only)) | (k_extra "mycall") | (k_extra "mystep") | (k_extra "no for"; k_extra "head")))
            have hso := seatN_off (look := lookT tab) (nn := fun j => nn.getD j []) hnk2 n q (offs' ++ [k])
            rw [List.length_append, List.length_singleton] at hso
            refine ⟨_, _, _, .inl ⟨rfl, ofs8, no8, _, rfl, hn8, ⟨by omega, by omega⟩, ?_⟩, rfl, F8, N8⟩
            rw [← hgo2, goL_fail hin hlk (Prod.ext hres8 rfl)]
          · intro h8 tk8 ol8 nl8 ts8 ofs8 no8 lts8 nd8 ds hres8 e8 TB8 lo8 ld8 EL8 _
            have F8 := Mine.Fr.extx F9 e8 ((fa_cons (⟨nr1, (N9 (_, ol) (mem_at 3 rfl)).2.1⟩) (fa_cons (⟨nr2, (N9 _ (mem_at 4 rfl)).2.1⟩) (fa_one (⟨nr3, (N9 _ (mem_at 5 rfl)).2.1⟩)))))
            refine absG fun G9 hG9 => ?_
            obtain ⟨tl, tn, tcd, tke⟩ := tail_of F8 TB8.en EL8
            have tc := fun p hp => (tcd p hp).1
            have i8 := e8 _ _ (N9 _ (.head _)).1 (nm3 b3 b4 b5)
            have d8 := e8 _ _ (N9 _ (mem_at 2 rfl)).1 (nm3 a4.symm a5.symm a6.symm)
            have N8 : News g' L' h8 ((I, oI) :: (tb, instObj 242 d) :: (d, dictOf [⟨hk, .str (Str.ofString "_headers") kt, .ref hl⟩] dn) :: (hl, ol8) :: (ofl, listOf ofs8.toArray no8) :: (ldl, listOf (refs lts8).toArray nd8) :: tl) := (fa_cons (⟨i8, (N9 _ (.head _)).2⟩) (fa_cons (⟨TB8.inst, (N9 _ (.tail _ (.head _))).2⟩) (fa_cons (⟨d8, (N9 _ (mem_at 2 rfl)).2⟩) (fa_cons (⟨TB8.hol, (N9 (hl, ol) (mem_at 3 rfl)).2⟩) (fa_cons (⟨lo8, (N9 _ (mem_at 4 rfl)).2⟩) (fa_cons (⟨ld8, (N9 _ (mem_at 5 rfl)).2⟩) (fun p hp => tn p hp)))))))
            have toff : OwnOff tl [I, tb, d, hl, ofl, ldl] := tail_off tn tc (fa_cons (⟨_, i8, hcI ▸ type_ne (by decide)⟩) (fa_cons (⟨_, TB8.inst, type_ref.symm⟩) (fa_cons (⟨_, d8, type_ne (by decide)⟩) (fa_cons (⟨_, TB8.hol, TB8.cls ▸ type_ne (by decide)⟩) (fa_cons (⟨_, lo8, type_ne (by decide)⟩) (fa_one (⟨_, ld8, type_ne (by decide)⟩)))))))
            clear F9 N9
            refine hG9 ?_; clear hG9
            (repeat' (first | (k_unfold; (try dsimp only)) | (k_extra "mycall") | (k_extra "mystep") | (k_extra "no for"; k_extra "head")))
            refine ⟨_, _, _, .inr ⟨(by trivial), ol8, nl8, ts8, ofs8, no8, (seatN (lookT tab) (fun j => nn.getD j []) n q (offs' ++ [k])).2, lts8, nd8, ds, tl, rfl, toff, ?_, TB8.hoc, seatN_ok (fun k g h => lookT_lt htab h) hnk2 n q _ ds hq4 hres8, seatN_len n q _ ds hres8, tke⟩, rfl, F8, N8⟩
            rw [← hgo2, goL_win hin hlk (Prod.ext hres8 rfl)]
      clear F9 N9
      rcases hP with ⟨rfl, ofs1, no1, offs1, rfl, hofs1, hop1, hgo1⟩ | ⟨rfl, ol1, nl1, ts1, ofs1, no1, offs1, lts1, nd1, ds, tl, rfl, toff, hgo1, hoc1, hds, hdl, hts⟩
      · (repeat' (first | (k_unfold; (try dsimp only)) | (k_extra "mycall") | (k_extra "mystep") | (k_extra "no for"; k_extra "head")))
        ((with_reducible rename Fr _ _ _ _ => F9); (with_reducible rename News _ _ _ _ => N9))
        have off2 : ∀ p ∈ [(tb, instObj 242 d), (d, dictOf [⟨hk, .str (Str.ofString "_headers") kt, .ref hl⟩] dn), (hl, ol), (ofl, listOf ofs1.toArray no1), (ldl, listOf (refs lts).toArray nd)], p.1 ≠ I := off_same (by rfl) off
        refine K9 _ _ ?_
        exact ⟨_, _, _, _, rfl, F9, N9, off2, ofs1, no1, offs1, rfl, hofs1, hop1, hgo1, m1, m2, m3, m4, m5, m6⟩
      rw [if_pos rfl]
      refine wpAny_toks ?_
      (repeat' (first | (k_unfold; (try dsimp only)) | (k_extra "mycall") | (k_extra "mystep") | (k_extra "no for"; (fail_if_success (with_reducible show wpAny _ _ (eval (PySem.Expr.IfExp _ _ _ _) _) _ _ _)); k_extra "head")))
      ((with_reducible rename Fr _ _ _ _ => F9); (with_reducible rename News _ _ _ _ => N9))
      refine joinI (s := s) F9 N9 (fun v => ∃ t, v = .str (nameOf g k) t) ?_ fun v h7 tkA hv7 F7 N7 htkA => ?_
      · (repeat' (first | (k_unfold; (try dsimp only)) | (k_extra "mycall") | (k_extra "mystep") | (k_extra "no for"; k_extra "head")))
        all_goals ((with_reducible rename Fr _ _ _ _ => F9); (with_reducible rename News _ _ _ _ => N9))
        all_goals refine sub_list ⟨_, F9.keep _ _ hr1, rfl, _, rfl⟩ hrv (by omega) ?_
        all_goals (repeat' (first | (k_unfold; (try dsimp only)) | (k_extra "mycall") | (k_extra "mystep") | (k_extra "no for"; k_extra "head")))
        all_goals ((with_reducible rename Fr _ _ _ _ => F9); (with_reducible rename News _ _ _ _ => N9))
        · exact ⟨_, _, ⟨_, congrArg (fun x => Value.str x _) (hupp.trans (nameOf_odd hg (by assumption)).symm)⟩, rfl, F9, N9⟩
        · exact ⟨_, _, ⟨_, congrArg (fun x => Value.str x _) (hlow.trans (nameOf_even hg (by assumption)).symm)⟩, rfl, F9, N9⟩
      obtain ⟨t7, rfl⟩ := hv7
      clear F9 N9
      have E0 := hts _ F7.keep fun p hp => N7 p (mem_drop 6 hp)
      have hlts : lts1.length = laid.length + ds.length := by have := E0.2.1; simpa [ents] using this
      have htab1 := setAll_ok htab hds
      have htl1 := setAll_len ds tab
      (repeat' (first | (k_unfold; (try dsimp only)) | (k_extra "mycall") | (k_extra "mystep") | (k_extra "no for"; k_extra "head")))
      ((with_reducible rename Fr _ _ _ _ => F9); (with_reducible rename News _ _ _ _ => N9))
      refine' append_K F9 N9 ?kU9 (fun h8 F8 N8 => ?_) ?kZ9
      (case kU9 => k_upd)
      (case kZ9 => simp only [refs, List.size_toArray, List.length_map, sizeLine_eq]; omega)
      clear F9 N9
      rw [List.push_toArray] at N8
      refine tok_from (n := 1) (Nat.succ_le_succ (Nat.zero_le _)) fun T9 hT9 => ?_
      (repeat' (first | (k_unfold; (try dsimp only)) | (k_extra "mycall") | (k_extra "mystep") | (k_extra "no for"; k_extra "head")))
      ((with_reducible rename Fr _ _ _ _ => F9); (with_reducible rename News _ _ _ _ => N9))
      rename_i D9 _ _ _ _
      refine wpAny_toks ?_
      have E1 := hts _ F9.keep fun p hp => N9 p (mem_drop 7 hp)
      refine' c_setF (P := fun t => t ≠ 0 ∧ (t < max N₀ tk7 ∨ t < T9 + 1)) X' T' rfl ?e ?r (Tab.in4 N9 (fun q hq => .tail _ (ms3_pre q hq)) hoc1 (E1.1.mono fun t ht => ⟨ht.1, .inl ht.2⟩) (ents_hel htab1)) (N9 (hl, ol1) (mem_at 4 rfl)).2.2 _ _ _ _ ⟨Nat.pos_iff_ne_zero.mp hT9, .inr (Nat.lt_succ_self _)⟩ (by rw [low_name hk4]; exact miss_low k hk4) (name_miss hk4) (miss_fig g hg) (name_len hk4) (by simp only [ents, List.length_map]; omega) ?_
      (case e => exact F9.keep)
      (case r => k_extra "room")
      intro h9 tk9 n9 ts9 e9 TB9 htk9
      refine' with_upd N9 e9 TB9.hol ?kU9 fun N10 => ?_
      (case kU9 => k_upd)
      have F10 := Mine.Fr.extx F9 e9 (fun x hx => by rw [List.mem_singleton.mp hx]; exact ⟨(N9 (hl, ol1) (mem_at 4 rfl)).2.2, (N9 (hl, ol1) (mem_at 4 rfl)).2.1⟩)
      clear F9 N9 e9
      (repeat' (first | (k_unfold; (try dsimp only)) | (k_extra "mycall") | (k_extra "mystep") | (k_extra "no for"; k_extra "head")))
      ((with_reducible rename Fr _ _ _ _ => F9); (with_reducible rename News _ _ _ _ => N9))
      intro htk7
      refine K9 _ _ ?_
      show s.toks ≤ tk9 → Q (.bool true) { s with heap := h9, toks := tk9 }
      intro hs9
      have E2 := hts _ F9.keep fun p hp => N9 p (mem_drop 7 hp)
      have hE := fin_ents2 N9 (.head _) rfl rfl E2.2
      have hL := (N9 _ (mem_at 6 rfl)).1
      rw [← refs_snoc] at hL
      rw [← ents_snoc, List.append_assoc] at hE
      have hset := ents_set htab1 hk4 (g := g)
      have TBX := Mine.Tab.mono (P' := tokP (max N₀ tk9)) TB9 (fun t ht => ⟨ht.1, ht.2.elim (fun h => Nat.lt_of_lt_of_le h (Nat.max_le.mpr ⟨Nat.le_max_left _ _, Nat.le_trans htk7 (Nat.le_max_right _ _)⟩)) (fun h => Nat.lt_of_lt_of_le h (Nat.le_trans htk9 (Nat.le_max_right _ _)))⟩)
      rw [hset, ← foldl_snoc] at TBX
      refine retT h9 tk9 _ n9 ts9 ofs1 no1 _ (nd1 + 1) (ds ++ [(k, g)]) (congrArg Prod.fst hgo1) (ext_ms (fun q hq => (hms q hq).1) G' F9 N9 fun q hq => ?_)
        { TBX with new1 := TB.new1, new2 := TB.new2 } (N9 _ (mem_at 5 rfl)).1 hL hE hs9
      rcases List.mem_cons.mp hq with rfl | hq
      · exact .inl (mem_at 2 rfl)
      rcases List.mem_cons.mp hq with rfl | hq
      · exact .inl (mem_at 3 rfl)
      exact .inr (by
        rcases List.mem_cons.mp hq with rfl | hq
        · exact .head _
        rcases List.mem_cons.mp hq with rfl | hq
        · exact .tail _ (.head _)
        · rw [List.mem_singleton.mp hq]; exact .tail _ (.tail _ (.head _)))
  · intro m₁ news₁ h tk hz4q F₁ N₁
    refine absG fun G9 hG9 => ?_
    obtain ⟨ofs', no', offs', rfl, hofs', hop', hgo, m1, m2, m3, m4, m5, m6⟩ := hz4q
    refine hG9 ?_; clear hG9
    clear F2 N2
    (repeat' (first | (k_unfold; (try dsimp only)) | (k_extra "mycall") | (k_extra "mystep") | (k_extra "no for"; k_extra "head")))
    ((with_reducible rename Fr _ _ _ _ => F9); (with_reducible rename News _ _ _ _ => N9))
    ((repeat' (first | k_unfold | dsimp only)))
    have hnl : nws.length = (nn.getD g []).length := by have := IntsAre.length hnums; simpa [nums] using this
    rw [hnl, List.drop_length] at hgo
    intro htk
    have hres : seatN (lookT tab) (fun j => nn.getD j []) (n + 1) g offs = (none, offs') := hgo.symm
    refine retF _ _ ofs' no' (by rw [hres]) (ext_ms (fun q hq => (hms q hq).1) G' F9 N9 fun q hq => ?_) (N9 _ (mem_at 3 rfl)).1 (by rw [hres]; exact hofs') htk
    rcases List.mem_append.mp hq with hq | hq
    · exact .inl (List.mem_append_left _ hq)
    rcases List.mem_cons.mp hq with rfl | hq
    · exact .inr (.head _)
    · rw [List.mem_singleton.mp hq]; exact .inl (mem_at 4 rfl)

theorem c_sub {w : World} {loose : List Str} {mean : ExcName → Option Value} {mg mb : Str → Option Value} {ht : Heap} (X : (Mine.hd.heap_1 w.params).In ht) (T : Top Mine.hd.view_1 loose mean mg mb ht) {A : Around} (hA : A.handled = none) {s : Shared} (ek : ht.StaysIn s.heap) {Q E : Value → Shared → Prop} (hroom : A.depth + 1 < recursionLimit)
    (x y : Str) (tx ty : Tok) (hx : x.length < 100) (hy : y.length < 100)
    (ret : ∀ t h' tk', Ext [] s.heap h' → Q (.int (if x == y then 0 else if Txt.lower x == Txt.lower y then 1 else 2) t) { s with heap := h', toks := tk' }) :
    wpAny (model PySem.Challenge.rw_ti0061_01.prog w) A (call (.ref 102) [.str x tx, .str y ty] []) Q E s := by
  ((revert X; k_fill; intro X; obtain ⟨hh, dp, fr, gd, un⟩ := A; cases hA; (dsimp only at hroom)))
  refine' callM [] ?k1 ?k2 ?k3 ?k4 ?k6 ?k7 ?k8 ?k9 ?kB ?_ ?c5 ?c2 ?c3 ?c4
  (case k4 => ((intro q h9; exact nomatch h9)))
  ((case k1 => assumption); (case k2 => assumption); (case k3 => assumption); (case k6 => k_is); (case k7 => k_is); (case k8 => ((try simp only [depth_under_make, depth_under_kw, depth_in1, depth_deeper]); (try dsimp only); omega)); (case k9 => first | exact BindsTo.of_eq rfl | exact binds_K (Frag.In.keeps (by assumption) (by assumption)) rfl (by k_is) rfl rfl rfl); (case kB => exact locs rfl); (case c5 => decide); (case c2 => exact rfl); (case c3 => exact rfl); (case c4 => exact rfl))
  intro g' L' h' F' N' X' T' G' st' l'
  (try dsimp only); (try k_fold)
  (repeat' (first | (k_unfold; (try dsimp only)) | (k_extra "mycall") | (k_extra "mystep") | (k_extra "no for"; k_extra "head")))
  all_goals ((with_reducible rename Fr _ _ _ _ => F9); (with_reducible rename News _ _ _ _ => N9))
  all_goals ((repeat' (first | k_unfold | dsimp only)))
  all_goals (have hb1 := ‹(x == y) = _›; (try have hb2 := ‹(Txt.lower x == Txt.lower y) = _›); (try simp only [hb1, hb2, if_true, Bool.false_eq_true, if_false] at ret); (try simp only [hb1, if_true] at ret); exact ret _ _ _ (ext_of G' F9))

noncomputable def S (l : List Nat) : Str := ⟨l.toArray⟩
theorem S_len (l : List Nat) : (S l).length = l.length := by simp [S, Str.length]
theorem S_beq (a b : List Nat) : (S a == S b) = (a == b) := by
  rw [Bool.eq_iff_iff, beq_iff_eq, beq_iff_eq]
  exact ⟨fun h => by have := congrArg (fun x : Str => x.cps.toList) h; simpa [S] using this, fun h => h ▸ rfl⟩
theorem S_nil : Str.ofString "" = S [] := by decide +kernel
theorem S_item (l : List Nat) (i : Nat) (c : Nat) (h : l[i]? = some c) : Txt.item (S l) (i : Int) = S [c] := by
  have hi : i < l.length := (List.getElem?_eq_some_iff.mp h).1
  have e : (PySem.seqIndex? (i : Int) (S l).length).bind ((S l).cps[·]?) = some c := by
    unfold PySem.seqIndex?
    rw [S_len]
    have h1 : ¬ ((i : Int) < 0) := by omega
    have h2 : (decide ((0 : Int) ≤ (i : Int)) && decide ((i : Int) < (l.length : Int))) = true := by simp; omega
    simp only [h1, if_false, h2, if_true, Int.toNat_natCast, Option.bind_some]
    simpa [S] using h
  unfold Txt.item Txt.charAt
  rw [e]; rfl
theorem S_itemN (l : List Nat) (j : Nat) (c : Nat) (hj : 0 < j) (hl : j ≤ l.length) (h : l[l.length - j]? = some c) : Txt.item (S l) (-(j : Int)) = S [c] := by
  have e : (PySem.seqIndex? (-(j : Int)) (S l).length).bind ((S l).cps[·]?) = some c := by
    have := PySem.StrLaws.at_neg (x := S l) (i := -(j : Int)) (n := c) (by omega) (by rw [S_len]; omega) (by
      have : ((-(j : Int)) + (S l).length).toNat = l.length - j := by rw [S_len]; omega
      rw [this]; simpa [S] using h)
    exact this
  unfold Txt.item Txt.charAt
  rw [e]; rfl
theorem S_from (l : List Nat) (i : Nat) (h : i ≤ l.length) : Txt.slice (S l) (some (i : Int)) none = S (l.drop i) := by
  have := PySem.StrLaws.sliceText_from (x := S l) (i := (i : Int)) ⟨by omega, by simp [S]; omega⟩
  refine Eq.trans this ?_
  simp only [S, List.toList_toArray, Int.toNat_natCast, Str.mk.injEq]
  congr 1
  exact List.take_of_length_le (by rw [List.length_drop]; omega)
theorem S_toN (l : List Nat) (j : Nat) (hj : 0 < j) (h : j ≤ l.length) : Txt.slice (S l) none (some (-(j : Int))) = S (l.take (l.length - j)) := by
  have := PySem.StrLaws.sliceText_to_neg (x := S l) (j := -(j : Int)) (by omega) (by rw [S_len]; omega)
  refine Eq.trans this ?_
  rw [S_len]
  simp only [S, List.toList_toArray, List.drop_zero, Str.mk.injEq]
  congr 2
  omega
theorem S_all (l : List Nat) : Txt.slice (S l) none none = S l := by
  unfold Txt.slice
  rw [if_pos]
  have h : (if 0 < (S l).length then ((S l).length : Int) else 0).toNat = (S l).length := by split <;> omega
  simp [PySem.Builtin.Str.strSliceIndices, PySem.sliceRange]
  exact h

theorem isl {g h : Heap} {L l : Addr} {m : Str → Option Value} {items : Array Value} (F : Fr g L h m) (x : g.IsList l items) : h.IsList l items := let ⟨o, ho, r⟩ := x; ⟨o, F.keep _ _ ho, r⟩
theorem c_draw {w : World} {loose : List Str} {mean : ExcName → Option Value} {mg mb : Str → Option Value} {ht : Heap} (X : (Mine.hd.heap_1 w.params).In ht) (T : Top Mine.hd.view_1 loose mean mg mb ht) {A : Around} (hA : A.handled = none) {s : Shared} (ek : ht.StaysIn s.heap) {Q E : Value → Shared → Prop} (hroom : A.depth + 2 < recursionLimit) {sl : Addr} {vs : List Value} {ks : List Int} (hol : s.heap.IsList sl vs.toArray) (hks : IntsAre vs ks) (hlen : ks.length < 64) (k : Nat) (tk : Tok) (hk : k < 6)
    (ret : ∀ t h' tk', Ext [] s.heap h' → Q (.int (if k < ks.length then ks.getD k 0 else ([25, 40, 37, 98, 12, 0] : List Int).getD k 0) t) { s with heap := h', toks := tk' }) :
    wpAny (model PySem.Challenge.rw_ti0061_01.prog w) A (call (.ref 253) [.ref sl, .int (k : Nat) tk] []) Q E s := by
  ((revert X; k_fill; intro X; obtain ⟨hh, dp, fr, gd, un⟩ := A; cases hA; (dsimp only at hroom)))
  refine' callM [] ?k1 ?k2 ?k3 ?k4 ?k6 ?k7 ?k8 ?k9 ?kB ?_ ?c5 ?c2 ?c3 ?c4
  (case k4 => ((intro q h9; exact nomatch h9)))
  ((case k1 => assumption); (case k2 => assumption); (case k3 => assumption); (case k6 => k_is); (case k7 => k_is); (case k8 => ((try simp only [depth_under_make, depth_under_kw, depth_in1, depth_deeper]); (try dsimp only); omega)); (case k9 => first | exact BindsTo.of_eq rfl | exact binds_K (Frag.In.keeps (by assumption) (by assumption)) rfl (by k_is) rfl rfl rfl); (case kB => exact locs rfl); (case c5 => decide); (case c2 => exact rfl); (case c3 => exact rfl); (case c4 => exact rfl))
  intro g' L' h' F' N' X' T' G' st' l'
  clear l'
  (try dsimp only); (try k_fold)
  have hl9 : g'.IsList sl vs.toArray := let ⟨o, ho, r⟩ := hol; ⟨o, G' _ _ ho (by simp), r⟩
  have hlen9 : vs.length = ks.length := IntsAre.length hks
  (repeat' (first | (k_unfold; (try dsimp only)) | (k_extra "mycall") | (k_extra "mystep") | (k_extra "no for"; k_extra "head")))
  all_goals ((repeat' (first | k_unfold | dsimp only)))
  · have hk1 : k < ks.length := by have h := ‹((k : Nat) : Int) < _›; rw [List.size_toArray] at h; omega
    rw [if_pos hk1] at ret
    exact ret _ _ _ (ext_of G' (by assumption))
  · have hk1 : ¬ k < ks.length := by have h := ‹¬ ((k : Nat) : Int) < _›; rw [List.size_toArray] at h; omega
    rw [if_neg hk1] at ret
    exact ret _ _ _ (ext_of G' (by assumption))
section
variable {prog : Program} {w : World} {A : Around} {E : Value → Shared → Prop} {s : Shared} {value slice : PySem.Expr} {t u : Tok} {h₀ : Heap} {L : Addr} {m : Str → Option Value} {news : List (Addr × Obj)} {Q : Value → Shared → Prop}
theorem item_S {l : List Nat} {i c : Nat} (h : l[i]? = some c) (hs0 : l.length < 1000) (k : Q (.str (S [c]) s.toks) { s with toks := s.toks + 1 })
    (hs : subscripted slice false (.str (S l) t) (.int (i : Nat) u) = operate [.str (S l) t, .int (i : Nat) u] (getItem (.str (S l) t) (.int (i : Nat) u)) := by with_unfolding_all rfl)
    (ht : ∀ r, letTemporaryGo value (.str (S l) t) r = pure () := by intro _; with_unfolding_all rfl) :
    wpAny (model prog w) A (subscriptTail value slice (.str (S l) t) (.int (i : Nat) u)) Q E s := by
  have hi : i < l.length := (List.getElem?_eq_some_iff.mp h).1
  refine item_str (fitsSsize_of (N := 9223372036854775808) (by omega) (by omega) (Int.le_refl _)) (by rw [S_len]; omega) (by rw [S_len]; omega) (fun _ => ?_) hs ht
  rw [S_item l i c h]; exact k
theorem itemN_S {l : List Nat} {j c : Nat} (hj : 0 < j) (hl : j ≤ l.length) (h : l[l.length - j]? = some c) (hs0 : l.length < 1000) (k : Q (.str (S [c]) s.toks) { s with toks := s.toks + 1 })
    (hs : subscripted slice false (.str (S l) t) (.int (-(j : Int)) u) = operate [.str (S l) t, .int (-(j : Int)) u] (getItem (.str (S l) t) (.int (-(j : Int)) u)) := by with_unfolding_all rfl)
    (ht : ∀ r, letTemporaryGo value (.str (S l) t) r = pure () := by intro _; with_unfolding_all rfl) :
    wpAny (model prog w) A (subscriptTail value slice (.str (S l) t) (.int (-(j : Int)) u)) Q E s := by
  refine item_str (fitsSsize_of (N := 9223372036854775808) (by omega) (by omega) (Int.le_refl _)) (by rw [S_len]; omega) (by rw [S_len]; omega) (fun _ => ?_) hs ht
  rw [S_itemN l j c hj hl h]; exact k
theorem from_S {l : List Nat} {i : Nat} (F : Fr h₀ L s.heap m) (N : News h₀ L s.heap news) (h : i ≤ l.length) (hs0 : l.length < 1000) {ui : Tok} (k : ∀ h' t' tk', Fr h₀ L h' m → News h₀ L h' news → Q (.str (S (l.drop i)) t') { s with heap := h', toks := tk' })
    (hs : subscripted slice false (.str (S l) t) (.ref s.heap.objs.size) = operate [.ref s.heap.objs.size, .str (S l) t] (getItem (.str (S l) t) (.ref s.heap.objs.size)) := by with_unfolding_all rfl)
    (ht : ∀ r, letTemporaryGo value (.str (S l) t) r = pure () := by intro _; with_unfolding_all rfl) :
    wpAny (model prog w) A (subscriptTail value slice (.str (S l) t) (.ref s.heap.objs.size)) Q E { s with heap := s.heap.push { cls := .type "slice", data := .fields #[.int (i : Nat) ui, .none, .none] } } :=
  slice_strN_sn (hsz := by rw [S_len, sizeLine_eq]; omega) F N (fun h' t' tk' F' N' => S_from l i h ▸ k h' t' tk' F' N') hs ht
theorem toN_S {l : List Nat} {j : Nat} (F : Fr h₀ L s.heap m) (N : News h₀ L s.heap news) (hj : 0 < j) (h : j ≤ l.length) (hs0 : l.length < 1000) {ui : Tok} (k : ∀ h' t' tk', Fr h₀ L h' m → News h₀ L h' news → Q (.str (S (l.take (l.length - j))) t') { s with heap := h', toks := tk' })
    (hs : subscripted slice false (.str (S l) t) (.ref s.heap.objs.size) = operate [.ref s.heap.objs.size, .str (S l) t] (getItem (.str (S l) t) (.ref s.heap.objs.size)) := by with_unfolding_all rfl)
    (ht : ∀ r, letTemporaryGo value (.str (S l) t) r = pure () := by intro _; with_unfolding_all rfl) :
    wpAny (model prog w) A (subscriptTail value slice (.str (S l) t) (.ref s.heap.objs.size)) Q E { s with heap := s.heap.push { cls := .type "slice", data := .fields #[.none, .int (-(j : Int)) ui, .none] } } :=
  slice_strN_ns (hsz := by rw [S_len, sizeLine_eq]; omega) F N (fun h' t' tk' F' N' => S_toN l j hj h ▸ k h' t' tk' F' N') hs ht
theorem all_S {l : List Nat} (F : Fr h₀ L s.heap m) (N : News h₀ L s.heap news) (hs0 : l.length < 1000) (k : ∀ h' t' tk', Fr h₀ L h' m → News h₀ L h' news → Q (.str (S l) t') { s with heap := h', toks := tk' })
    (hs : subscripted slice false (.str (S l) t) (.ref s.heap.objs.size) = operate [.ref s.heap.objs.size, .str (S l) t] (getItem (.str (S l) t) (.ref s.heap.objs.size)) := by with_unfolding_all rfl)
    (ht : ∀ r, letTemporaryGo value (.str (S l) t) r = pure () := by intro _; with_unfolding_all rfl) :
    wpAny (model prog w) A (subscriptTail value slice (.str (S l) t) (.ref s.heap.objs.size)) Q E { s with heap := s.heap.push { cls := .type "slice", data := .fields #[.none, .none, .none] } } :=
  slice_strN_nn (hsz := by rw [S_len, sizeLine_eq]; omega) F N (fun h' t' tk' F' N' => (S_all l).symm ▸ k h' t' tk' F' N') hs ht
theorem from_S1 {a : Nat} {l : List Nat} (F : Fr h₀ L s.heap m) (N : News h₀ L s.heap news) (hs0 : (a :: l).length < 1000) {ui : Tok} (k : ∀ h' t' tk', Fr h₀ L h' m → News h₀ L h' news → Q (.str (S l) t') { s with heap := h', toks := tk' })
    (hs : subscripted slice false (.str (S (a :: l)) t) (.ref s.heap.objs.size) = operate [.ref s.heap.objs.size, .str (S (a :: l)) t] (getItem (.str (S (a :: l)) t) (.ref s.heap.objs.size)) := by with_unfolding_all rfl)
    (ht : ∀ r, letTemporaryGo value (.str (S (a :: l)) t) r = pure () := by intro _; with_unfolding_all rfl) :
    wpAny (model prog w) A (subscriptTail value slice (.str (S (a :: l)) t) (.ref s.heap.objs.size)) Q E { s with heap := s.heap.push { cls := .type "slice", data := .fields #[.int 1 ui, .none, .none] } } :=
  from_S (i := 1) F N (by simp) hs0 k hs ht
end
noncomputable def cost (a b : Nat) : Int := if S [a] == S [b] then 0 else if Txt.lower (S [a]) == Txt.lower (S [b]) then 1 else 2
noncomputable def price : List Nat → List Nat → Int
  | l, [] => 2 * (l.length : Int)
  | [], _ :: _ => 0
  | a :: l, b :: r => if l.length > r.length then min (cost a b + price l r) (2 + price l (b :: r)) else cost a b + price l r
theorem cost0 {a b : Nat} (h : (S [a] == S [b]) = true) : cost a b = 0 := by unfold cost; rw [if_pos h]
theorem cost1 {a b : Nat} (h : (S [a] == S [b]) = false) (h2 : (Txt.lower (S [a]) == Txt.lower (S [b])) = true) : cost a b = 1 := by unfold cost; rw [if_neg (by rw [h]; decide), if_pos h2]
theorem cost2 {a b : Nat} (h : (S [a] == S [b]) = false) (h2 : (Txt.lower (S [a]) == Txt.lower (S [b])) = false) : cost a b = 2 := by unfold cost; rw [if_neg (by rw [h]; decide), if_neg (by rw [h2]; decide)]
theorem S_short (a : Nat) : (S [a]).length < 100 := by rw [S_len]; exact Nat.lt_of_le_of_lt (Nat.le_refl 1) (by decide)
theorem min_if (a b : Int) : (if b < a then b else a) = min a b := by rw [Int.min_def]; split <;> split <;> omega
theorem S_cons (b : Nat) (r : List Nat) : (S (b :: r) == Str.ofString "") = false := by rw [S_nil, S_beq]; rfl
set_option hygiene false
theorem wC161 : True := by (k_with "mystep" => ((with_reducible show wpAny _ _ (subscriptTail _ _ (Value.str (S (_ :: _)) _) (Value.int 0 _)) _ _ _); k_dflt (refine' item_S (i := 0) ?iz9 ?jz9 ?_; (case iz9 => rfl); (case jz9 => first | assumption | omega | (simp only [List.length_cons]; omega))))); exact True.intro
theorem wC162 : True := by (k_with "mystep" => ((with_reducible show wpAny _ _ (subscriptTail _ (PySem.Expr.Slice (some (PySem.Expr.Constant _ _ _)) none none _) (Value.str (S (_ :: _)) _) (Value.ref _)) _ _ _); ((with_reducible rename Fr _ _ _ _ => F9); (with_reducible rename News _ _ _ _ => N9)); k_dflt (refine' from_S1 (s := ⟨_, _, _, _, _⟩) F9 N9 ?jz9 ?_; (case jz9 => first | assumption | omega | (simp only [List.length_cons]; omega))); clear F9 N9; intro h' t' tk' F' N')); exact True.intro


theorem c_price {w : World} {loose : List Str} {mean : ExcName → Option Value} {mg mb : Str → Option Value} {ht : Heap} (X : (Mine.hd.heap_1 w.params).In ht) (T : Top Mine.hd.view_1 loose mean mg mb ht) {A : Around} (hA : A.handled = none) {s : Shared} (ek : ht.StaysIn s.heap) {Q E : Value → Shared → Prop} (x y : List Nat) (tx ty : Tok) (hroom : A.depth + 3 * x.length + 4 < recursionLimit) (hx : x.length < 50) (hy : y.length ≤ x.length)
    (ret : ∀ t h' tk', Ext [] s.heap h' → Q (.int (price x y) t) { s with heap := h', toks := tk' }) :
    wpAny (model PySem.Challenge.rw_ti0061_01.prog w) A (call (.ref 265) [.str (S x) tx, .str (S y) ty] []) Q E s := by
  induction x generalizing A s ht y tx ty Q E with
  | nil =>
    ((revert X; k_fill; intro X; obtain ⟨hh, dp, fr, gd, un⟩ := A; cases hA; (dsimp only at hroom)))
    refine' callM [] ?k1 ?k2 ?k3 ?k4 ?k6 ?k7 ?k8 ?k9 ?kB ?_ ?c5 ?c2 ?c3 ?c4
    (case k4 => ((intro q h9; exact nomatch h9)))
    ((case k1 => assumption); (case k2 => assumption); (case k3 => assumption); (case k6 => k_is); (case k7 => k_is); (case k8 => ((try simp only [depth_under_make, depth_under_kw, depth_in1, depth_deeper]); (try dsimp only); omega)); (case k9 => first | exact BindsTo.of_eq rfl | exact binds_K (Frag.In.keeps (by assumption) (by assumption)) rfl (by k_is) rfl rfl rfl); (case kB => exact locs rfl); (case c5 => decide); (case c2 => exact rfl); (case c3 => exact rfl); (case c4 => exact rfl))
    intro g' L' h' F' N' X' T' G' st' l'
    clear l'
    (try dsimp only); (try k_fold)
    obtain rfl : y = [] := List.length_eq_zero_iff.mp (by simpa using hy)
    have hy1 : (S [] == Str.ofString "") = true := by rw [S_nil]; rfl
    have hr := S_len []
    (repeat' (first | (k_unfold; (try dsimp only)) | (k_extra "mycall") | (k_extra "mystep") | (k_extra "no for"; k_extra "head")))
    all_goals ((with_reducible rename Fr _ _ _ _ => F9); (with_reducible rename News _ _ _ _ => N9))
    exact ret _ _ _ (ext_of G' F9)
  | cons a l ih =>
    cases y with
    | nil =>
      ((revert X; k_fill; intro X; obtain ⟨hh, dp, fr, gd, un⟩ := A; cases hA; (dsimp only at hroom)))
      refine' callM [] ?k1 ?k2 ?k3 ?k4 ?k6 ?k7 ?k8 ?k9 ?kB ?_ ?c5 ?c2 ?c3 ?c4
      (case k4 => ((intro q h9; exact nomatch h9)))
      ((case k1 => assumption); (case k2 => assumption); (case k3 => assumption); (case k6 => k_is); (case k7 => k_is); (case k8 => ((try simp only [depth_under_make, depth_under_kw, depth_in1, depth_deeper]); (try dsimp only); omega)); (case k9 => first | exact BindsTo.of_eq rfl | exact binds_K (Frag.In.keeps (by assumption) (by assumption)) rfl (by k_is) rfl rfl rfl); (case kB => exact locs rfl); (case c5 => decide); (case c2 => exact rfl); (case c3 => exact rfl); (case c4 => exact rfl))
      intro g' L' h' F' N' X' T' G' st' l'
      clear l'
      (try dsimp only); (try k_fold)
      have hy1 : (S [] == Str.ofString "") = true := by rw [S_nil]; rfl
      have hr := S_len (a :: l)
      (repeat' (first | (k_unfold; (try dsimp only)) | (k_extra "mycall") | (k_extra "mystep") | (k_extra "no for"; k_extra "head")))
      all_goals ((with_reducible rename Fr _ _ _ _ => F9); (with_reducible rename News _ _ _ _ => N9))
      have hr2 : price (a :: l) [] = 2 * ((S (a :: l)).length : Int) := by rw [hr]; unfold price; rfl
      rw [hr2] at ret
      exact ret _ _ _ (ext_of G' F9)
    | cons b r =>
      ((revert X; k_fill; intro X; obtain ⟨hh, dp, fr, gd, un⟩ := A; cases hA; (dsimp only at hroom)))
      refine' callM [] ?k1 ?k2 ?k3 ?k4 ?k6 ?k7 ?k8 ?k9 ?kB ?_ ?c5 ?c2 ?c3 ?c4
      (case k4 => ((intro q h9; exact nomatch h9)))
      ((case k1 => assumption); (case k2 => assumption); (case k3 => assumption); (case k6 => k_is); (case k7 => k_is); (case k8 => ((try simp only [depth_under_make, depth_under_kw, depth_in1, depth_deeper]); (try dsimp only); omega)); (case k9 => first | exact BindsTo.of_eq rfl | exact binds_K (Frag.In.keeps (by assumption) (by assumption)) rfl (by k_is) rfl rfl rfl); (case kB => exact locs rfl); (case c5 => decide); (case c2 => exact rfl); (case c3 => exact rfl); (case c4 => exact rfl))
      intro g' L' h' F' N' X' T' G' st' l'
      clear l'
      (try dsimp only); (try k_fold)
      have hy1 := S_cons b r
      have hrx := S_len (a :: l)
      have hry := S_len (b :: r)
      (repeat' (first | (k_unfold; (try dsimp only)) | (k_extra "mycall") | (k_extra "mystep") | (k_extra "no for"; (fail_if_success (with_reducible show wpAny _ _ (eval (PySem.Expr.IfExp _ _ _ _) _) _ _ _)); (fail_if_success (with_reducible show wpAny _ _ (call (Value.ref 265) _ _) _ _ _)); k_extra "head")))
      ((with_reducible rename Fr _ _ _ _ => F9); (with_reducible rename News _ _ _ _ => N9))
      refine joinJ (s := s) F9 N9 (fun v => ∃ t, v = .int (cost a b) t) ?_ fun v h7 tk7 hv7 F7 N7 => ?_
      · have ha := S_short a
        have hb := S_short b
        (repeat' (first | (k_unfold; (try dsimp only)) | (k_extra "mycall") | (k_extra "mystep") | (k_extra "no for"; k_extra "head")))
        all_goals ((with_reducible rename Fr _ _ _ _ => F9); (with_reducible rename News _ _ _ _ => N9))
        · exact ⟨_, _, ⟨_, congrArg (fun x => Value.int x _) (cost0 (by assumption)).symm⟩, rfl, F9, N9⟩
        · exact ⟨_, _, ⟨_, congrArg (fun x => Value.int x _) (cost1 (by assumption) (by assumption)).symm⟩, rfl, F9, N9⟩
        · exact ⟨_, _, ⟨_, congrArg (fun x => Value.int x _) (cost2 (by assumption) (by assumption)).symm⟩, rfl, F9, N9⟩
      obtain ⟨t7, rfl⟩ := hv7
      clear F9 N9
      (repeat' (first | (k_unfold; (try dsimp only)) | (k_extra "mycall") | (k_extra "mystep") | (k_extra "no for"; (fail_if_success (with_reducible show wpAny _ _ (eval (PySem.Expr.IfExp _ _ _ _) _) _ _ _)); (fail_if_success (with_reducible show wpAny _ _ (call (Value.ref 265) _ _) _ _ _)); k_extra "head")))
      ((with_reducible rename Fr _ _ _ _ => F9); (with_reducible rename News _ _ _ _ => N9))
      simp only [List.length_cons] at hroom hx hy hrx hry
      refine' ih X' T' rfl ?e r _ _ ?r (by omega) (by omega) ?_
      (case e => exact F9.keep)
      (case r => k_extra "room")
      intro t8 h8 tk8 e8
      have F8 := Mine.Fr.ext F9 e8
      have N8 := Mine.News.ext N9 e8
      clear F9 N9
      (repeat' (first | (k_unfold; (try dsimp only)) | (k_extra "mycall") | (k_extra "mystep") | (k_extra "no for"; (fail_if_success (with_reducible show wpAny _ _ (eval (PySem.Expr.IfExp _ _ _ _) _) _ _ _)); (fail_if_success (with_reducible show wpAny _ _ (call (Value.ref 265) _ _) _ _ _)); k_extra "head")))
      · ((with_reducible rename Fr _ _ _ _ => F9); (with_reducible rename News _ _ _ _ => N9))
        have hc : ((S (a :: l)).length : Int) > ((S (b :: r)).length : Int) := by assumption
        have hp : price (a :: l) (b :: r) = min (cost a b + price l r) (2 + price l (b :: r)) := by
          conv => lhs; unfold price
          exact if_pos (by omega)
        refine' ih X' T' rfl ?e (b :: r) _ _ ?r (by omega) (by simp only [List.length_cons]; omega) ?_
        (case e => exact F9.keep)
        (case r => k_extra "room")
        intro t9 h9 tk9 e9
        have F8 := Mine.Fr.ext F9 e9
        have N8 := Mine.News.ext N9 e9
        clear F9 N9
        (repeat' (first | (k_unfold; (try dsimp only)) | (k_extra "mycall") | (k_extra "mystep") | (k_extra "no for"; (fail_if_success (with_reducible show wpAny _ _ (eval (PySem.Expr.IfExp _ _ _ _) _) _ _ _)); (fail_if_success (with_reducible show wpAny _ _ (call (Value.ref 265) _ _) _ _ _)); k_extra "head")))
        all_goals ((with_reducible rename Fr _ _ _ _ => F9); (with_reducible rename News _ _ _ _ => N9))
        rw [hp, ← min_if] at ret
        exact ret _ _ _ (ext_of G' F9)
      · have hc : ¬ ((S (a :: l)).length : Int) > ((S (b :: r)).length : Int) := by assumption
        have hp : price (a :: l) (b :: r) = cost a b + price l r := by
          conv => lhs; unfold price
          exact if_neg (by omega)
        rw [hp] at ret
        (repeat' (first | (k_unfold; (try dsimp only)) | (k_extra "mycall") | (k_extra "mystep") | (k_extra "no for"; (fail_if_success (with_reducible show wpAny _ _ (eval (PySem.Expr.IfExp _ _ _ _) _) _ _ _)); (fail_if_success (with_reducible show wpAny _ _ (call (Value.ref 265) _ _) _ _ _)); k_extra "head")))
        all_goals ((with_reducible rename Fr _ _ _ _ => F9); (with_reducible rename News _ _ _ _ => N9))
        exact ret _ _ _ (ext_of G' F9)

noncomputable def preL : List Nat → List Nat → Nat
  | a :: l, b :: r => if a == b then preL l r + 1 else 0
  | _, _ => 0
theorem preL_le : ∀ (a b : List Nat), preL a b ≤ a.length ∧ preL a b ≤ b.length
  | [], _ => by simp [preL]
  | _ :: _, [] => by simp [preL]
  | a :: l, b :: r => by
    have := preL_le l r
    unfold preL; split <;> simp <;> omega
theorem preL_lt : ∀ {a b : List Nat} {p : Nat}, p < preL a b → ∃ c, a[p]? = some c ∧ b[p]? = some c
  | [], _, _, h => by simp [preL] at h
  | _ :: _, [], _, h => by simp [preL] at h
  | a :: l, b :: r, p, h => by
    unfold preL at h
    split at h
    · rename_i e
      cases p with
      | zero => exact ⟨a, rfl, by rw [beq_iff_eq] at e; simp [e]⟩
      | succ p => simpa using preL_lt (a := l) (b := r) (p := p) (by omega)
    · omega
theorem preL_end : ∀ {a b : List Nat} {c d : Nat}, a[preL a b]? = some c → b[preL a b]? = some d → (c == d) = false
  | [], _, _, _, h, _ => by simp [preL] at h
  | _ :: _, [], _, _, _, h => by simp [preL] at h
  | a :: l, b :: r, c, d, h1, h2 => by
    unfold preL at h1 h2
    split at h1
    · rename_i e
      rw [if_pos e] at h2
      exact preL_end (a := l) (b := r) (by simpa using h1) (by simpa using h2)
    · rename_i e
      rw [if_neg e] at h2
      simp at h1 h2; subst h1; subst h2; simpa using e
theorem getD_of {l : List Nat} {i c : Nat} (h : l[i]? = some c) : l.getD i 0 = c := by rw [List.getD_eq_getElem?_getD, h]; rfl
theorem getD_some {l : List Nat} {i : Nat} (h : i < l.length) : l[i]? = some (l.getD i 0) := by rw [List.getD_eq_getElem?_getD, List.getElem?_eq_getElem h]; rfl
theorem preL_stop {a b : List Nat} {p : Nat} (hp : p ≤ preL a b) (h : a.length ≤ p ∨ b.length ≤ p ∨ (S [a.getD p 0] == S [b.getD p 0]) = false) : p = preL a b := by
  rcases Nat.lt_or_ge p (preL a b) with hlt | hge
  · obtain ⟨c, h1, h2⟩ := preL_lt hlt
    have l1 := (List.getElem?_eq_some_iff.mp h1).1
    have l2 := (List.getElem?_eq_some_iff.mp h2).1
    rcases h with h | h | h
    · omega
    · omega
    · rw [getD_of h1, getD_of h2] at h; simp at h
  · omega
theorem preL_go {a b : List Nat} {p : Nat} (hp : p ≤ preL a b) (ha : p < a.length) (hb : p < b.length) (h : (S [a.getD p 0] == S [b.getD p 0]) = true) : p < preL a b := by
  rcases Nat.lt_or_ge p (preL a b) with hlt | hge
  · exact hlt
  · have e : p = preL a b := by omega
    subst e
    have := preL_end (getD_some ha) (getD_some hb)
    rw [S_beq] at h
    simp at h this; exact absurd h this
theorem rev_getD (l : List Nat) (q : Nat) (h : q < l.length) : l.getD (l.length - (q + 1)) 0 = l.reverse.getD q 0 := by
  rw [List.getD_eq_getElem?_getD, List.getD_eq_getElem?_getD, List.getElem?_reverse h]; congr 2; omega
section
variable {prog : Program} {w : World} {A : Around} {E : Value → Shared → Prop} {s : Shared} {value slice : PySem.Expr} {t u : Tok} {h₀ : Heap} {L : Addr} {m : Str → Option Value} {news : List (Addr × Obj)} {Q : Value → Shared → Prop}
theorem item_G {l : List Nat} {i : Nat} (h : i < l.length) (hs0 : l.length < 1000) (k : Q (.str (S [l.getD i 0]) s.toks) { s with toks := s.toks + 1 })
    (hs : subscripted slice false (.str (S l) t) (.int (i : Nat) u) = operate [.str (S l) t, .int (i : Nat) u] (getItem (.str (S l) t) (.int (i : Nat) u)) := by with_unfolding_all rfl)
    (ht : ∀ r, letTemporaryGo value (.str (S l) t) r = pure () := by intro _; with_unfolding_all rfl) :
    wpAny (model prog w) A (subscriptTail value slice (.str (S l) t) (.int (i : Nat) u)) Q E s := item_S (getD_some h) hs0 k hs ht
theorem item_Z {l : List Nat} {z : Int} (h0 : z < 0) (h : -z ≤ (l.length : Int)) (hs0 : l.length < 1000) (k : Q (.str (S [l.getD (l.length - (-z).toNat) 0]) s.toks) { s with toks := s.toks + 1 })
    (hs : subscripted slice false (.str (S l) t) (.int z u) = operate [.str (S l) t, .int z u] (getItem (.str (S l) t) (.int z u)) := by with_unfolding_all rfl)
    (ht : ∀ r, letTemporaryGo value (.str (S l) t) r = pure () := by intro _; with_unfolding_all rfl) :
    wpAny (model prog w) A (subscriptTail value slice (.str (S l) t) (.int z u)) Q E s := by
  obtain ⟨j, rfl⟩ : ∃ j : Nat, z = -(j : Int):= ⟨(-z).toNat, by omega⟩
  have e : (-(-(j : Int))).toNat = j := by omega
  rw [e] at k
  exact itemN_S (by omega) (by omega) (getD_some (by omega)) hs0 k hs ht
theorem to_Z {l : List Nat} {z : Int} (F : Fr h₀ L s.heap m) (N : News h₀ L s.heap news) (h0 : z < 0) (h : -z ≤ (l.length : Int)) (hs0 : l.length < 1000) {ui : Tok} (k : ∀ h' t' tk', Fr h₀ L h' m → News h₀ L h' news → Q (.str (S (l.take (l.length - (-z).toNat))) t') { s with heap := h', toks := tk' })
    (hs : subscripted slice false (.str (S l) t) (.ref s.heap.objs.size) = operate [.ref s.heap.objs.size, .str (S l) t] (getItem (.str (S l) t) (.ref s.heap.objs.size)) := by with_unfolding_all rfl)
    (ht : ∀ r, letTemporaryGo value (.str (S l) t) r = pure () := by intro _; with_unfolding_all rfl) :
    wpAny (model prog w) A (subscriptTail value slice (.str (S l) t) (.ref s.heap.objs.size)) Q E { s with heap := s.heap.push { cls := .type "slice", data := .fields #[.none, .int z ui, .none] } } := by
  obtain ⟨j, rfl⟩ : ∃ j : Nat, z = -(j : Int):= ⟨(-z).toNat, by omega⟩
  have e : (-(-(j : Int))).toNat = j := by omega
  rw [e] at k
  exact toN_S F N (by omega) (by omega) hs0 k hs ht
theorem truthy_S {Q : Bool → Shared → Prop} {l : List Nat} (hs0 : l.length < 1000) (h1 : 0 < l.length → ∀ k, Q true { s with toks := k }) (h0 : l.length = 0 → ∀ k, Q false { s with toks := k }) : wpAny (model prog w) A (PySem.truthy (.str (S l) t)) Q E s := by
  refine PySem.P.truthy_str (by rw [S_len]; omega) ?_
  rw [S_len]
  rcases Nat.eq_zero_or_pos l.length with h | h
  · have := h0 h (s.toks + 1 + 1); rw [h]; exact this
  · have := h1 h (s.toks + 1 + 1)
    have e : (((l.length : Nat) : Int) != 0) = true := by simp; intro h'; rw [h'] at h; exact absurd h (by decide)
    rw [e]; exact this
theorem len_S {l : List Nat} (hs0 : l.length < 1000) (k : Q (.int (l.length : Nat) (s.toks + 1)) { s with toks := s.toks + 1 + 1 }) : wpAny (model prog w) A (call (.builtin "len") [.str (S l) t]) Q E s :=
  SBL.len (by rw [S_len]; omega) (by rw [S_len]; exact k)
end
noncomputable def inn (bc : Nat) : List Nat → List Int → Int → Int → Int → List Int × Int × Int
  | c :: a, d :: row, dist, res, mn =>
    let r := min (min res d + 2) (dist + cost bc c)
    let x := inn bc a row d r (if r < mn then r else mn)
    (r :: x.1, x.2.1, x.2.2)
  | _, row, _, res, mn => (row, res, mn)
noncomputable def outL (mx : Int) (a : List Nat) : List Nat → Nat → List Int → Int → Int
  | [], _, _, res => res
  | bc :: b, k, row, _ =>
    let x := inn bc a row (2 * (k : Int)) (2 * (k : Int)) 9223372036854775807
    if x.2.2 > mx then mx + 1 else outL mx a b (k + 1) x.1 x.2.1
noncomputable def row0 (n : Nat) : List Int := (List.range n).map fun (i : Nat) => 2 + 2 * (i : Int)
noncomputable def lev3 (a b : List Nat) (mx : Int) : Int := if ((b.length : Int) - a.length) * 2 > mx then mx + 1 else outL mx a b 0 (row0 a.length) 0
noncomputable def lev2 (a b : List Nat) (mx : Int) : Int := if a.length = 0 ∨ b.length = 0 then 2 * ((a.length : Int) + b.length) else if b.length < a.length then lev3 b a mx else lev3 a b mx
noncomputable def lev (a b : List Nat) (mx : Int) : Int :=
  if (a == b) = true then 0 else
  let p := preL a b
  let a1 := a.drop p
  let b1 := b.drop p
  let q := preL a1.reverse b1.reverse
  lev2 (a1.take (a1.length - q)) (b1.take (b1.length - q)) mx
theorem two_size {n : Nat} (hn : 0 < n) : Builtin.Range.rangeSize 2 (2 * ((n : Int) + 1)) 2 = (n : Int) := by
  unfold Builtin.Range.rangeSize
  rw [if_pos (by decide), if_pos (by omega)]; omega
theorem two_small' : ∀ n, n < 20 → Builtin.Range.small 2 (2 * ((n : Nat) + 1 : Int)) 2 = true := by decide +kernel
theorem two_small {n : Nat} (hn : n < 20) : Builtin.Range.small 2 (2 * ((n : Int) + 1)) 2 = true := two_small' n hn
theorem one_small' : ∀ n, n < 20 → Builtin.Range.small 0 (n : Nat) 1 = true := by decide +kernel
theorem one_size (n : Nat) : Builtin.Range.rangeSize 0 (n : Int) 1 = (n : Int) := by
  unfold Builtin.Range.rangeSize
  rw [if_pos (by decide)]; split <;> omega
theorem inn_step {bc c : Nat} {a : List Nat} {d : Int} {row : List Int} {dist res mn : Int} :
    inn bc (c :: a) (d :: row) dist res mn = (min (min res d + 2) (dist + cost bc c) :: (inn bc a row d (min (min res d + 2) (dist + cost bc c)) (if min (min res d + 2) (dist + cost bc c) < mn then min (min res d + 2) (dist + cost bc c) else mn)).1, (inn bc a row d (min (min res d + 2) (dist + cost bc c)) (if min (min res d + 2) (dist + cost bc c) < mn then min (min res d + 2) (dist + cost bc c) else mn)).2) := rfl
noncomputable def Hid (p : Prop) : Prop := p
noncomputable def InnAt (bc : Nat) (a : List Nat) (row : List Int) (d0 : Int) (i : Nat) (now : List Int) (dist res mn : Int) : Prop :=
  ∃ done rest, now = done ++ rest ∧ done.length = i ∧ rest.length + i = a.length ∧
    inn bc a row d0 d0 9223372036854775807 = (done ++ (inn bc (a.drop i) rest dist res mn).1, (inn bc (a.drop i) rest dist res mn).2)
theorem InnAt.start {bc : Nat} {a : List Nat} {row : List Int} {d0 : Int} (h : row.length = a.length) : InnAt bc a row d0 0 row d0 d0 9223372036854775807 :=
  ⟨[], row, rfl, rfl, h, rfl⟩
theorem InnAt.next {bc : Nat} {a : List Nat} {row now : List Int} {d0 : Int} {i : Nat} {dist res mn : Int} (h : InnAt bc a row d0 i now dist res mn) (hi : i < a.length) {r : Int} (hr : r = min (min res (now.getD i 0) + 2) (dist + cost bc (a.getD i 0))) {mn' : Int} (hm : mn' = if r < mn then r else mn) :
    InnAt bc a row d0 (i + 1) (now.set i r) (now.getD i 0) r mn' := by
  refine absG fun G9 hG9 => ?_
  obtain ⟨done, rest, rfl, hd, hl, he⟩ := h
  refine hG9 ?_; clear hG9
  cases rest with
  | nil => simp at hl; omega
  | cons d rest =>
    have e1 : (done ++ d :: rest).getD i 0 = d := by rw [List.getD_eq_getElem?_getD, List.getElem?_append_right (by omega), hd]; simp
    have e2 : (done ++ d :: rest).set i r = (done ++ [r]) ++ rest := by
      rw [List.set_append_right _ _ (by omega), hd]; simp
    have e3 : a.drop i = a.getD i 0 :: a.drop (i + 1) := by
      rw [List.drop_eq_getElem_cons hi, List.getD_eq_getElem?_getD, List.getElem?_eq_getElem hi]; rfl
    rw [e1] at hr ⊢
    refine ⟨done ++ [r], rest, e2, by simp [hd], by simp at hl; omega, ?_⟩
    rw [he, e3, inn_step, ← hr, ← hm]
    simp
theorem InnAt.done {bc : Nat} {a : List Nat} {row now : List Int} {d0 : Int} {dist res mn : Int} (h : InnAt bc a row d0 a.length now dist res mn) : inn bc a row d0 d0 9223372036854775807 = (now, res, mn) := by
  refine absG fun G9 hG9 => ?_
  obtain ⟨done, rest, rfl, hd, hl, he⟩ := h
  refine hG9 ?_; clear hG9
  obtain rfl : rest = [] := List.length_eq_zero_iff.mp (by omega)
  rw [he, List.drop_length]; rfl
theorem InnAt.len {bc : Nat} {a : List Nat} {row now : List Int} {d0 : Int} {i : Nat} {dist res mn : Int} (h : InnAt bc a row d0 i now dist res mn) : now.length = a.length := by
  refine absG fun G9 hG9 => ?_
  obtain ⟨done, rest, rfl, hd, hl, he⟩ := h
  refine hG9 ?_; clear hG9
  rw [List.length_append]; omega
theorem outL_stop {mx : Int} {a : List Nat} {bc : Nat} {b : List Nat} {k : Nat} {row now : List Int} {res r mn : Int} (h : inn bc a row (2 * (k : Int)) (2 * (k : Int)) 9223372036854775807 = (now, r, mn)) (hm : mx < mn) : outL mx a (bc :: b) k row res = mx + 1 := by
  unfold outL; rw [h]; exact if_pos hm
theorem outL_go {mx : Int} {a : List Nat} {bc : Nat} {b : List Nat} {k : Nat} {row now : List Int} {res r mn : Int} (h : inn bc a row (2 * (k : Int)) (2 * (k : Int)) 9223372036854775807 = (now, r, mn)) (hm : ¬ mx < mn) : outL mx a (bc :: b) k row res = outL mx a b (k + 1) now r := by
  conv => lhs; unfold outL
  rw [h]; exact if_neg hm
theorem list_rangeN {prog : Program} {w : World} {A : Around} {E : Value → Shared → Prop} {s : Shared} {h₀ : Heap} {L : Addr} {m : Str → Option Value} {Q : Value → Shared → Prop} {r : Addr} {a b c : Int} {t u v : Tok} {n : Nat} {news : List (Addr × Obj)} (hh : A.handled = none) (Fh : Fr h₀ L s.heap m) (N : News h₀ L s.heap news)
    (hr : IsRange s.heap r a b c t u v) (hsmall : Builtin.Range.small a b c = true) (hn : Builtin.Range.rangeSize a b c = (n : Int)) (hlen : n ≤ 2 ^ 24)
    (hQ : ∀ (rl : Addr) h' tk (ys : List Value) o n', Fr h₀ L h' m → News h₀ L h' ((rl, o) :: news) → o.cls = .type "list" → o.data = .seq ys.toArray n' → IntsAre ys (rangeInts a c n) → (∀ p ∈ news, p.1 < rl) → Q (.ref rl) { s with heap := h', toks := tk }) :
    wpAny (model prog w) A (call (.type "list") [.ref r]) Q E s := by
  refine list_rangeD hh Fh N hr hsmall hn hlen fun h5 tk5 ys F5 N5 hk5 hn5 hl5 _ hys => ?_
  have hys := CarriedAll.intsOf hys
  refine absG fun G9 hG9 => ?_
  obtain ⟨o, ho, hc, n', hd⟩ := hl5
  refine hG9 ?_; clear hG9
  refine hQ _ h5 tk5 ys o n' F5 (fun p hp => ?_) hc hd (by simpa using hys) fun p hp => Heap.lt_size (N p hp).1
  rcases List.mem_cons.mp hp with rfl | hp
  · exact ⟨ho, fun e => absurd Fh.ns.lt (e ▸ Nat.lt_irrefl _), hn5⟩
  · exact N5 p hp
theorem IntsAre.setAt : ∀ {vs : List Value} {ns : List Int} (_ : IntsAre vs ns) (i : Nat) (r : Int) (t : Tok), IntsAre (vs.set i (.int r t)) (ns.set i r)
  | _, _, .nil, _, _, _ => .nil
  | _, _, .cons n u rest, 0, r, t => .cons r t rest
  | _, _, .cons n u rest, i + 1, r, t => .cons n u (IntsAre.setAt rest i r t)
theorem ints_get {vs : List Value} {ns : List Int} (h : IntsAre vs ns) {i : Nat} (hi : i < ns.length) : ∃ t, vs[i]? = some (.int (ns.getD i 0) t) := by
  have hl : i < vs.length := by rw [IntsAre.length h]; exact hi
  refine absG fun G9 hG9 => ?_
  obtain ⟨n, t, e, hn⟩ := IntsAre.at h i _ (List.getElem?_eq_getElem hl)
  refine hG9 ?_; clear hG9
  refine ⟨t, ?_⟩
  rw [List.getElem?_eq_getElem hl, e, List.getD_eq_getElem?_getD, hn]; rfl
theorem suf_go {a1 b1 : List Nat} {q : Nat} {z : Int} {v : Bool} (h : (S [a1.getD (a1.length - (-z).toNat) 0] == S [b1.getD (b1.length - (-z).toNat) 0]) = v) (hz : z = -(q : Int) - 1) (ha : q < a1.length) (hb : q < b1.length) : (S [a1.reverse.getD q 0] == S [b1.reverse.getD q 0]) = v := by
  have e : (-z).toNat = q + 1 := by omega
  rw [e, rev_getD _ _ ha, rev_getD _ _ hb] at h
  exact h
set_option hygiene false
theorem wC171 : True := by (k_with "slen" => ((try simp only [List.length_drop, List.length_take, List.length_reverse]); omega)); exact True.intro
theorem wC172 : True := by (k_with "mystep" => ((with_reducible show wpAny _ _ (subscriptTail _ (PySem.Expr.Slice (some (PySem.Expr.Name _ _)) none none _) (Value.str (S _) _) (Value.ref _)) _ _ _); ((with_reducible rename Fr _ _ _ _ => F9); (with_reducible rename News _ _ _ _ => N9)); k_dflt (refine' from_S (s := ⟨_, _, _, _, _⟩) F9 N9 ?iz9 ?jz9 ?_; (case iz9 => k_extra "slen"); (case jz9 => k_extra "slen")); clear F9 N9; intro h' t' tk' F' N')); exact True.intro
theorem wC173 : True := by (k_with "mystep" => ((with_reducible show wpAny _ _ (subscriptTail _ (PySem.Expr.Slice none (some _) none _) (Value.str (S _) _) (Value.ref _)) _ _ _); ((with_reducible rename Fr _ _ _ _ => F9); (with_reducible rename News _ _ _ _ => N9)); (first | (k_dflt (refine' all_S (s := ⟨_, _, _, _, _⟩) F9 N9 ?jz9 ?_; (case jz9 => k_extra "slen"))) | (k_dflt (refine' to_Z (s := ⟨_, _, _, _, _⟩) F9 N9 ?iz9 ?kz9 ?jz9 ?_; (case iz9 => k_extra "slen"); (case kz9 => k_extra "slen"); (case jz9 => k_extra "slen")))); clear F9 N9; intro h' t' tk' F' N')); exact True.intro
theorem wC174 : True := by (k_with "mystep" => ((with_reducible show wpAny _ _ (truthy (Value.str (S _) _)) _ _ _); k_dflt (refine' truthy_S ?jz9 ?_ ?_; (case jz9 => k_extra "slen")); all_goals (intro he9 tk9; (try simp only [List.length_drop, List.length_take] at he9)))); exact True.intro
theorem wC175 : True := by (k_with "mystep" => ((with_reducible show wpAny _ _ (subscriptTail _ _ (Value.str (S _) _) (Value.int (Nat.cast _) _)) _ _ _); k_dflt (refine' item_G ?iz9 ?jz9 ?_; (case iz9 => k_extra "slen"); (case jz9 => k_extra "slen")))); exact True.intro
theorem wC176 : True := by (k_with "mystep" => ((with_reducible show wpAny _ _ (subscriptTail _ _ (Value.str (S _) _) (Value.int (HSub.hSub _ _) _)) _ _ _); k_dflt (refine' item_Z ?iz9 ?kz9 ?jz9 ?_; (case iz9 => k_extra "slen"); (case kz9 => k_extra "slen"); (case jz9 => k_extra "slen")))); exact True.intro




theorem wC177 : True := by (k_with "mystep" => ((with_reducible show wpAny _ _ (call (Value.builtin "len") [Value.str (S _) _] _) _ _ _); k_dflt (refine' len_S ?jz9 ?_; (case jz9 => omega)))); exact True.intro







theorem c_lev {w : World} {loose : List Str} {mean : ExcName → Option Value} {mg mb : Str → Option Value} {ht : Heap} (X : (Mine.hd.heap_1 w.params).In ht) (T : Top Mine.hd.view_1 loose mean mg mb ht) {A : Around} (hA : A.handled = none) {s : Shared} (ek : ht.StaysIn s.heap) {Q E : Value → Shared → Prop} (a b : List Nat) (mx : Int) (ta tb tm : Tok) (hroom : A.depth + 4 < recursionLimit) (ha : a.length < 20) (hb : b.length < 20)
    (ret : ∀ t h' tk', Ext [] s.heap h' → Q (.int (lev a b mx) t) { s with heap := h', toks := tk' }) :
    wpAny (model PySem.Challenge.rw_ti0061_01.prog w) A (call (.ref 109) [.str (S a) ta, .str (S b) tb, .int mx tm] []) Q E s := by
  ((revert X; k_fill; intro X; obtain ⟨hh, dp, fr, gd, un⟩ := A; cases hA; (dsimp only at hroom)))
  refine' callM [] ?k1 ?k2 ?k3 ?k4 ?k6 ?k7 ?k8 ?k9 ?kB ?_ ?c5 ?c2 ?c3 ?c4
  (case k4 => ((intro q h9; exact nomatch h9)))
  ((case k1 => assumption); (case k2 => assumption); (case k3 => assumption); (case k6 => k_is); (case k7 => k_is); (case k8 => ((try simp only [depth_under_make, depth_under_kw, depth_in1, depth_deeper]); (try dsimp only); omega)); (case k9 => first | exact BindsTo.of_eq rfl | exact binds_K (Frag.In.keeps (by assumption) (by assumption)) rfl (by k_is) rfl rfl rfl); (case kB => exact locs rfl); (case c5 => decide); (case c2 => exact rfl); (case c3 => exact rfl); (case c4 => exact rfl))
  intro g' L' h' F' N' X' T' G' st' l'
  clear l'
  (try dsimp only); (try k_fold)
  cases hab : (S a == S b) with
  | true =>
    (repeat' (first | (k_unfold; (try dsimp only)) | (k_extra "mycall") | (k_extra "mystep") | (k_extra "no for"; (fail_if_success (with_reducible show wpAny _ _ (exec (Stmt.While _ _ _ _) _) _ _ _)); k_extra "head")))
    ((with_reducible rename Fr _ _ _ _ => F9); (with_reducible rename News _ _ _ _ => N9))
    ((repeat' (first | k_unfold | dsimp only)))
    have hl0 : lev a b mx = 0 := by unfold lev; rw [if_pos (by rw [← S_beq, hab])]
    rw [hl0] at ret
    exact ret _ _ _ (ext_of G' F9)
  | false =>
    (repeat' (first | (k_unfold; (try dsimp only)) | (k_extra "mycall") | (k_extra "mystep") | (k_extra "no for"; (fail_if_success (with_reducible show wpAny _ _ (exec (Stmt.While _ _ _ _) _) _ _ _)); k_extra "head")))
    ((with_reducible rename Fr _ _ _ _ => F9); (with_reducible rename News _ _ _ _ => N9))
    have hle := preL_le a b
    refine joinP (fun fl s' => fl = .next ∧ Ex4 fun h tk m tp => Cj7 (s' = { s with heap := h, toks := tk }) (Fr g' L' h m) (News g' L' h []) (m (Str.ofString "a") = some (.str (S a) ta)) (m (Str.ofString "b") = some (.str (S b) tb)) (m (Str.ofString "max_cost") = some (.int mx tm)) (m (Str.ofString "pre") = some (.int (preL a b : Nat) tp))) ?_ ?_
    · refine While_inv (n₀ := preL a b) (fun n m nw => nw = [] ∧ Ex2 fun p tp => Cj5 (n + p = preL a b) (m (Str.ofString "a") = some (.str (S a) ta)) (m (Str.ofString "b") = some (.str (S b) tb)) (m (Str.ofString "max_cost") = some (.int mx tm)) (m (Str.ofString "pre") = some (.int (p : Nat) tp))) F9 N9 ⟨rfl, 0, _, by rw [Nat.add_zero], rfl, rfl, rfl, rfl⟩ ?_
      intro n m₁ news₁ h₁ tk₁ F₁ N₁ hz7q
      refine absG fun G9 hG9 => ?_
      obtain ⟨rfl, p, tp, hp, m1, m2, m3, m4⟩ := hz7q
      clear F9 N9
      refine hG9 ?_; clear hG9
      refine joinP (fun b0 s' => Ex2 fun h tk => Cj4 (s' = { s with heap := h, toks := tk }) (Fr g' L' h m₁) (News g' L' h []) ((if b0 = true then p < preL a b else p = preL a b))) ?_ ?_
      · (repeat' (first | (k_unfold; (try dsimp only)) | (k_extra "mycall") | (k_extra "mystep") | (k_extra "no for"; (fail_if_success (with_reducible show wpAny _ _ (exec (Stmt.While _ _ _ _) _) _ _ _)); k_extra "head")))
        all_goals ((with_reducible rename Fr _ _ _ _ => F9); (with_reducible rename News _ _ _ _ => N9))
        all_goals (refine ⟨_, _, rfl, F9, N9, ?_⟩)
        all_goals (first | (rw [if_pos (by first | rfl | assumption)]; exact preL_go (by omega) (by omega) (by omega) (by assumption)) | (rw [if_neg (by decide)]; exact preL_stop (by omega) (by first | (left; omega) | (right; left; omega) | (right; right; assumption))))
      · intro b0 s' hz2q
        refine absG fun G9 hG9 => ?_
        obtain ⟨h2, tk2, rfl, F2, N2, hb⟩ := hz2q
        refine hG9 ?_; clear hG9
        cases b0 with
        | true =>
          rw [if_pos rfl] at hb ⊢
          (repeat' (first | (k_unfold; (try dsimp only)) | (k_extra "mycall") | (k_extra "mystep") | (k_extra "no for"; (fail_if_success (with_reducible show wpAny _ _ (exec (Stmt.While _ _ _ _) _) _ _ _)); k_extra "head")))
          all_goals ((with_reducible rename Fr _ _ _ _ => F9); (with_reducible rename News _ _ _ _ => N9))
          refine WhileStep.intro (n' := n - 1) F9 N9 (by omega) ⟨rfl, p + 1, _, by omega, m1, m2, m3, rfl⟩
        | false =>
          rw [if_neg (by decide)] at hb ⊢
          subst hb
          exact ⟨rfl, h2, tk2, m₁, tp, rfl, F2, N2, m1, m2, m3, m4⟩
    · intro fl s' hz2q
      refine absG fun G9 hG9 => ?_
      obtain ⟨rfl, h2, tk2, m, tp, rfl, F2, N2, m1, m2, m3, m4⟩ := hz2q
      clear F9 N9
      refine gen (a.drop (preL a b)) fun a1 ha1 => ?_
      refine gen (b.drop (preL a b)) fun b1 hb1 => ?_
      have la1 : a1.length < 20 := by rw [ha1, List.length_drop]; omega
      have lb1 : b1.length < 20 := by rw [hb1, List.length_drop]; omega
      refine gen (preL a1.reverse b1.reverse) fun q0 hq0 => ?_
      have hle2 := preL_le a1.reverse b1.reverse
      refine hG9 ?_; clear hG9
      rw [← hq0, List.length_reverse, List.length_reverse] at hle2
      (repeat' (first | (k_unfold; (try dsimp only)) | (k_extra "mycall") | (k_extra "mystep") | (k_extra "no for"; (fail_if_success (with_reducible show wpAny _ _ (exec (Stmt.While _ _ _ _) _) _ _ _)); k_extra "head")))
      ((with_reducible rename Fr _ _ _ _ => F9); (with_reducible rename News _ _ _ _ => N9))
      rw [← ha1, ← hb1] at F9
      (try clear hle); (try clear ha); (try clear hb); (try clear l')
      refine joinP (fun fl s' => fl = .next ∧ Ex6 fun h tk m tp ta tb => Cj7 (s' = { s with heap := h, toks := tk }) (Fr g' L' h m) (News g' L' h []) (m (Str.ofString "a") = some (.str (S a1) ta)) (m (Str.ofString "b") = some (.str (S b1) tb)) (m (Str.ofString "max_cost") = some (.int mx tm)) (m (Str.ofString "post") = some (.int (-(q0 : Int)) tp))) ?_ ?_
      · refine While_inv (n₀ := q0) (fun n m nw => nw = [] ∧ Ex4 fun (q : Nat) (tp : Tok) (ta : Tok) (tb : Tok) => Cj5 (n + q = q0) (m (Str.ofString "a") = some (.str (S a1) ta)) (m (Str.ofString "b") = some (.str (S b1) tb)) (m (Str.ofString "max_cost") = some (.int mx tm)) (m (Str.ofString "post") = some (.int (-(q : Int)) tp))) F9 N9 ⟨rfl, 0, _, _, _, by rw [Nat.add_zero], rfl, rfl, m3, rfl⟩ ?_
        intro n m₁ news₁ h₁ tk₁ F₁ N₁ hz7q
        refine absG fun G9 hG9 => ?_
        obtain ⟨rfl, q, tp, ta2, tb2, hp, m1, m2, m3, m4⟩ := hz7q
        clear F9 N9
        refine hG9 ?_; clear hG9
        refine joinP (fun b0 s' => Ex2 fun h tk => Cj4 (s' = { s with heap := h, toks := tk }) (Fr g' L' h m₁) (News g' L' h []) ((if b0 = true then q < q0 else q = q0))) ?_ ?_
        · cases q with
          | zero =>
            have m4 : m₁ (Str.ofString "post") = some (.int 0 tp) := m4
            (repeat' (first | (k_unfold; (try dsimp only)) | (k_extra "mycall") | (k_extra "mystep") | (k_extra "no for"; (fail_if_success (with_reducible show wpAny _ _ (exec (Stmt.While _ _ _ _) _) _ _ _)); k_extra "head")))
            all_goals ((with_reducible rename Fr _ _ _ _ => F9); (with_reducible rename News _ _ _ _ => N9))
            all_goals (refine ⟨_, _, rfl, F9, N9, ?_⟩)
            all_goals (first | (rw [if_pos (by first | rfl | assumption), hq0]; exact preL_go (by omega) (by rw [List.length_reverse]; omega) (by rw [List.length_reverse]; omega) (suf_go (by assumption) (by omega) (by omega) (by omega))) | (rw [if_neg (by decide), hq0]; exact preL_stop (by omega) (by first | (left; rw [List.length_reverse]; omega) | (right; left; rw [List.length_reverse]; omega) | (right; right; exact suf_go (by assumption) (by omega) (by omega) (by omega)))))
          | succ q =>
            have hz : ((-((q + 1 : Nat) : Int)) != 0) = true := by simp; omega
            (repeat' (first | (k_unfold; (try dsimp only)) | (k_extra "mycall") | (k_extra "mystep") | (k_extra "no for"; (fail_if_success (with_reducible show wpAny _ _ (exec (Stmt.While _ _ _ _) _) _ _ _)); k_extra "head")))
            all_goals ((with_reducible rename Fr _ _ _ _ => F9); (with_reducible rename News _ _ _ _ => N9))
            all_goals (refine ⟨_, _, rfl, F9, N9, ?_⟩)
            all_goals (first | (rw [if_pos (by first | rfl | assumption), hq0]; exact preL_go (by omega) (by rw [List.length_reverse]; omega) (by rw [List.length_reverse]; omega) (suf_go (by assumption) (by omega) (by omega) (by omega))) | (rw [if_neg (by decide), hq0]; exact preL_stop (by omega) (by first | (left; rw [List.length_reverse]; omega) | (right; left; rw [List.length_reverse]; omega) | (right; right; exact suf_go (by assumption) (by omega) (by omega) (by omega)))))
        · intro b0 s' hz2q
          refine absG fun G9 hG9 => ?_
          obtain ⟨h2, tk2, rfl, F2, N2, hb⟩ := hz2q
          refine hG9 ?_; clear hG9
          cases b0 with
          | true =>
            rw [if_pos rfl] at hb ⊢
            (repeat' (first | (k_unfold; (try dsimp only)) | (k_extra "mycall") | (k_extra "mystep") | (k_extra "no for"; (fail_if_success (with_reducible show wpAny _ _ (exec (Stmt.While _ _ _ _) _) _ _ _)); k_extra "head")))
            all_goals ((with_reducible rename Fr _ _ _ _ => F9); (with_reducible rename News _ _ _ _ => N9))
            exact WhileStep.intro (n' := n - 1) F9 N9 (by omega) ⟨rfl, q + 1, _, _, _, by omega, m1, m2, m3, congrArg (fun z => some (Value.int z _)) (by omega)⟩
          | false =>
            rw [if_neg (by decide)] at hb ⊢
            subst hb
            exact ⟨rfl, h2, tk2, m₁, tp, ta2, tb2, rfl, F2, N2, m1, m2, m3, m4⟩
      · intro fl s' hz2q
        refine absG fun G9 hG9 => ?_
        obtain ⟨rfl, h2, tk2, m, tp, ta3, tb3, rfl, F2, N2, m1, m2, m3, m4⟩ := hz2q
        clear F9 N9
        refine gen (a1.take (a1.length - q0)) fun a2 ha2 => ?_
        refine gen (b1.take (b1.length - q0)) fun b2 hb2 => ?_
        have la2 : a2.length < 20 := by rw [ha2, List.length_take]; omega
        have lb2 : b2.length < 20 := by rw [hb2, List.length_take]; omega
        have key : ∀ (l l2 : List Nat), l.length < 20 → q0 ≤ l.length → l2 = l.take (l.length - q0) → (q0 = 0 → l2 = l) ∧ (∀ z : Int, z = -(q0 : Int) → l.take (l.length - (-z).toNat) = l2) := fun l l2 _ h1 h2 => ⟨fun h => by rw [h2, h, Nat.sub_zero, List.take_length], fun z hz => by rw [h2, hz]; congr 2; omega⟩
        refine hG9 ?_; clear hG9
        (repeat' (first | (k_unfold; (try dsimp only)) | (k_extra "mycall") | (k_extra "mystep") | (k_extra "no for"; (fail_if_success (with_reducible show wpAny _ _ (eval (PySem.Expr.Subscript _ _ _) _) _ _ _)); k_extra "head")))
        ((with_reducible rename Fr _ _ _ _ => F9); (with_reducible rename News _ _ _ _ => N9))
        refine joinJ (s := s) F9 N9 (fun v => ∃ t, v = .str (S a2) t) ?_ fun v h3 tk3 hv3 F3 N3 => ?_
        · rcases Nat.eq_zero_or_pos q0 with hq | hq
          · have m4' : m (Str.ofString "post") = some (.int 0 tp) := by rw [m4, hq]; rfl
            clear m4
            (repeat' (first | (k_unfold; (try dsimp only)) | (k_extra "mycall") | (k_extra "mystep") | (k_extra "no for"; (fail_if_success (with_reducible show wpAny _ _ (exec (Stmt.While _ _ _ _) _) _ _ _)); k_extra "head")))
            ((with_reducible rename Fr _ _ _ _ => F9); (with_reducible rename News _ _ _ _ => N9))
            exact ⟨_, _, ⟨_, by rw [(key a1 a2 la1 hle2.1 ha2).1 hq]⟩, rfl, F9, N9⟩
          · have hz : ((-(q0 : Int)) != 0) = true := by simp; omega
            (repeat' (first | (k_unfold; (try dsimp only)) | (k_extra "mycall") | (k_extra "mystep") | (k_extra "no for"; (fail_if_success (with_reducible show wpAny _ _ (exec (Stmt.While _ _ _ _) _) _ _ _)); k_extra "head")))
            ((with_reducible rename Fr _ _ _ _ => F9); (with_reducible rename News _ _ _ _ => N9))
            exact ⟨_, _, ⟨_, by rw [(key a1 a2 la1 hle2.1 ha2).2 _ rfl]⟩, rfl, F9, N9⟩
        obtain ⟨t3, rfl⟩ := hv3
        clear F9 N9
        (repeat' (first | (k_unfold; (try dsimp only)) | (k_extra "mycall") | (k_extra "mystep") | (k_extra "no for"; (fail_if_success (with_reducible show wpAny _ _ (eval (PySem.Expr.Subscript _ _ _) _) _ _ _)); k_extra "head")))
        ((with_reducible rename Fr _ _ _ _ => F9); (with_reducible rename News _ _ _ _ => N9))
        refine joinJ (s := s) F9 N9 (fun v => ∃ t, v = .str (S b2) t) ?_ fun v h3 tk3 hv3 F3 N3 => ?_
        · rcases Nat.eq_zero_or_pos q0 with hq | hq
          · have m4' : m (Str.ofString "post") = some (.int 0 tp) := by rw [m4, hq]; rfl
            clear m4
            (repeat' (first | (k_unfold; (try dsimp only)) | (k_extra "mycall") | (k_extra "mystep") | (k_extra "no for"; (fail_if_success (with_reducible show wpAny _ _ (exec (Stmt.While _ _ _ _) _) _ _ _)); k_extra "head")))
            ((with_reducible rename Fr _ _ _ _ => F9); (with_reducible rename News _ _ _ _ => N9))
            exact ⟨_, _, ⟨_, by rw [(key b1 b2 lb1 hle2.2 hb2).1 hq]⟩, rfl, F9, N9⟩
          · have hz : ((-(q0 : Int)) != 0) = true := by simp; omega
            (repeat' (first | (k_unfold; (try dsimp only)) | (k_extra "mycall") | (k_extra "mystep") | (k_extra "no for"; (fail_if_success (with_reducible show wpAny _ _ (exec (Stmt.While _ _ _ _) _) _ _ _)); k_extra "head")))
            ((with_reducible rename Fr _ _ _ _ => F9); (with_reducible rename News _ _ _ _ => N9))
            exact ⟨_, _, ⟨_, by rw [(key b1 b2 lb1 hle2.2 hb2).2 _ rfl]⟩, rfl, F9, N9⟩
        obtain ⟨t4, rfl⟩ := hv3
        clear F9 N9
        have hlv : lev a b mx = lev2 a2 b2 mx := by unfold lev; rw [if_neg (by rw [← S_beq, hab]; decide)]; dsimp only; rw [← ha1, ← hb1, ← hq0, ← ha2, ← hb2]
        rw [hlv] at ret
        (repeat' (first | (k_unfold; (try dsimp only)) | (k_extra "mycall") | (k_extra "mystep") | (k_extra "no for"; (fail_if_success (with_reducible show wpAny _ _ (exec (Stmt.If _ [Stmt.Assign _ _ _] [] _) _) _ _ _)); k_extra "head")))
        all_goals ((with_reducible rename Fr _ _ _ _ => F9); (with_reducible rename News _ _ _ _ => N9))
        rotate_left
        · have e : lev2 a2 b2 mx = 2 * ((a2.length : Int) + b2.length) := if_pos (.inr he9)
          rw [e] at ret
          exact ret _ _ _ (ext_of G' F9)
        · have e : lev2 a2 b2 mx = 2 * ((a2.length : Int) + b2.length) := if_pos (.inl he9)
          rw [e] at ret
          exact ret _ _ _ (ext_of G' F9)
        refine joinP (fun fl s' => fl = .next ∧ Ex7 fun h tk m a3 b3 ta tb => Cj8 (s' = { s with heap := h, toks := tk }) (Fr g' L' h m) (News g' L' h []) (m (Str.ofString "a") = some (.str (S a3) ta)) (m (Str.ofString "b") = some (.str (S b3) tb)) (m (Str.ofString "max_cost") = some (.int mx tm)) (lev2 a2 b2 mx = lev3 a3 b3 mx) ((0 < a3.length ∧ a3.length < 20 ∧ 0 < b3.length ∧ b3.length < 20 ∧ a3.length ≤ b3.length))) ?_ ?_
        · have e : ¬ (a2.length = 0 ∨ b2.length = 0) := by omega
          (repeat' (first | (k_unfold; (try dsimp only)) | (k_extra "mycall") | (k_extra "mystep") | (k_extra "no for"; (fail_if_success (with_reducible show wpAny _ _ (exec (Stmt.While _ _ _ _) _) _ _ _)); k_extra "head")))
          all_goals ((with_reducible rename Fr _ _ _ _ => F9); (with_reducible rename News _ _ _ _ => N9))
          all_goals (try exact rfl)
          · have hc := ‹((_ : Nat) : Int) < _›
            exact ⟨_, _, _, b2, a2, _, _, rfl, F9, News.nil, rfl, rfl, m3, by unfold lev2; rw [if_neg e, if_pos (by omega)], by omega⟩
          · have hc := ‹¬ ((_ : Nat) : Int) < _›
            exact ⟨_, _, _, a2, b2, _, _, rfl, F9, News.nil, rfl, rfl, m3, by unfold lev2; rw [if_neg e, if_neg (by omega)], by omega⟩
        · intro fl s' hz2q
          refine absG fun G9 hG9 => ?_
          obtain ⟨rfl, h4, tk4, m4, a3, b3, ta4, tb4, rfl, F4, N4, m41, m42, m43, hlv2, hl3⟩ := hz2q
          refine hG9 ?_; clear hG9
          rw [hlv2] at ret
          clear F9 N9
          (try clear hlv); (try clear hlv2); (try clear key); (try clear hle2); (try clear la2); (try clear lb2); (try clear la1); (try clear lb1); (try clear ha2); (try clear hb2); (try clear hq0); (try clear ha1); (try clear hb1); (try clear hle); (try clear ha); (try clear hb); (try clear hab)
          (repeat' (first | (k_unfold; (try dsimp only)) | (k_extra "mycall") | (k_extra "mystep") | (k_extra "no for"; (fail_if_success (with_reducible show wpAny _ _ (exec (Stmt.While _ _ _ _) _) _ _ _)); k_extra "head")))
          · ((with_reducible rename Fr _ _ _ _ => F9); (with_reducible rename News _ _ _ _ => N9))
            ((repeat' (first | k_unfold | dsimp only)))
            have hc := ‹mx < _›
            have e : lev3 a3 b3 mx = mx + 1 := if_pos hc
            rw [e] at ret
            exact ret _ _ _ (ext_of G' F9)
          have hc := ‹¬ mx < _›
          have e : lev3 a3 b3 mx = outL mx a3 b3 0 (row0 a3.length) 0 := if_neg hc
          rw [e] at ret
          ((with_reducible rename Fr _ _ _ _ => F9); (with_reducible rename News _ _ _ _ => N9))
          rename IsRange _ _ _ _ _ _ _ _ => hrg
          refine list_rangeN (n := a3.length) rfl F9 N9 hrg (two_small (by omega)) (two_size (by omega)) (by omega) fun rl h5 tk5 ys orow nr F5 N5 hoc5 hod5 hys _ => ?_
          have hrow : (rangeInts 2 2 a3.length) = row0 a3.length := by unfold rangeInts row0; exact List.map_congr_left fun i _ => by omega
          rw [hrow] at hys
          clear F9 N9
          (repeat' (first | (k_unfold; (try dsimp only)) | (k_extra "mycall") | (k_extra "mystep") | (k_extra "no for"; (fail_if_success (with_reducible show wpAny _ _ (exec (Stmt.While _ _ _ _) _) _ _ _)); k_extra "head")))
          ((with_reducible rename Fr _ _ _ _ => F9); (with_reducible rename News _ _ _ _ => N9))
          refine forR ?_
          (repeat' (first | (k_unfold; (try dsimp only)) | (k_extra "mycall") | (k_extra "mystep") | (k_extra "no for"; (fail_if_success (with_reducible show wpAny _ _ (exec (Stmt.While _ _ _ _) _) _ _ _)); k_extra "head")))
          ((with_reducible rename Fr _ _ _ _ => F9); (with_reducible rename News _ _ _ _ => N9))
          rename IsRange _ _ _ _ _ _ _ _ => hrg2
          refine ⟨g', _, 0, (b3.length : Int), _, _, _, b3.length, fun k m nw => Ex5 fun orow ys nr row tr => Cj10 (nw = [(rl, orow)]) (orow.cls = .type "list") (orow.data = .seq ys.toArray nr) (IntsAre ys row) (row.length = a3.length) (m (Str.ofString "a") = some (.str (S a3) ta4)) (m (Str.ofString "b") = some (.str (S b3) tb4)) (m (Str.ofString "max_cost") = some (.int mx tm)) (m (Str.ofString "row") = some (.ref rl)) (∃ res, Cj2 (m (Str.ofString "result") = some (.int res tr)) (outL mx a3 b3 0 (row0 a3.length) 0 = outL mx a3 (b3.drop k) k row res)), _, _, rfl, rfl, F9, N9, hrg2, one_small' _ (by omega), one_size _, ⟨orow, ys, nr, _, _, rfl, hoc5, hod5, hys, by simp [row0], m41, m42, m43, rfl, 0, rfl, rfl⟩, ?_, ?_⟩
          · intro k tv m₁ news₁ h tk I oI hk hz9q hcI F₁ N₁ off
            refine absG fun G9 hG9 => ?_
            obtain ⟨orow, ys, nr, row, tr, rfl, hoc, hod, hri, hrlen, m1, m2, m3, m4, res, m5, hout⟩ := hz9q
            clear F9 N9
            refine hG9 ?_; clear hG9
            rw [Int.zero_add]
            have b1 : @Ne Nat rl I := off _ (.head _)
            refine absT fun Q9 K9 => ?_
            (repeat' (first | (k_unfold; (try dsimp only)) | (k_extra "mycall") | (k_extra "mystep") | (k_extra "no for"; (fail_if_success (with_reducible show wpAny _ _ (exec (Stmt.While _ _ _ _) _) _ _ _)); k_extra "head")))
            ((with_reducible rename Fr _ _ _ _ => F9); (with_reducible rename News _ _ _ _ => N9))
            clear F₁ N₁
            refine forR ?_
            (repeat' (first | (k_unfold; (try dsimp only)) | (k_extra "mycall") | (k_extra "mystep") | (k_extra "no for"; (fail_if_success (with_reducible show wpAny _ _ (exec (Stmt.While _ _ _ _) _) _ _ _)); k_extra "head")))
            ((with_reducible rename Fr _ _ _ _ => F9); (with_reducible rename News _ _ _ _ => N9))
            clear hrg2
            rename IsRange _ _ _ _ _ _ _ _ => hrg2
            refine ⟨g', _, 0, (a3.length : Int), _, _, _, a3.length, fun i m nw => Ex10 fun orow ys nr now tr td tn tc res dist => ∃ mn, Cj12 (nw = [(I, oI), (rl, orow)]) (orow.cls = .type "list") (orow.data = .seq ys.toArray nr) (IntsAre ys now) (InnAt (b3.getD k 0) a3 row (2 * (k : Int)) i now dist res mn) (m (Str.ofString "a") = some (.str (S a3) ta4)) (m (Str.ofString "b") = some (.str (S b3) tb4)) (m (Str.ofString "max_cost") = some (.int mx tm)) (m (Str.ofString "row") = some (.ref rl)) (m (Str.ofString "bchar") = some (.str (S [b3.getD k 0]) tc)) (m (Str.ofString "result") = some (.int res tr)) (Cj2 (m (Str.ofString "distance") = some (.int dist td)) (m (Str.ofString "minimum") = some (.int mn tn))), _, _, rfl, rfl, F9, N9, hrg2, one_small' _ (by omega), one_size _, ⟨orow, ys, nr, row, _, _, _, _, 2 * (k : Int), 2 * (k : Int), _, rfl, hoc, hod, hri, InnAt.start hrlen, m1, m2, m3, m4, rfl, congrArg (fun z => some (Value.int z _)) (Int.mul_comm _ _), congrArg (fun z => some (Value.int z _)) (Int.mul_comm _ _), rfl⟩, ?_, ?_⟩
            · intro i tv2 m₁ news₁ h tk2 I2 oI2 hi hz9q hcI2 F₁ N₁ off2
              refine absG fun G9 hG9 => ?_
              obtain ⟨orow, ys, nr, now, tr, td, tn, tc, res, dist, mn, rfl, hoc, hod, hri, hinn, m1, m2, m3, m4, m5, m6, m7, m8⟩ := hz9q
              clear F9 N9
              refine hG9 ?_; clear hG9
              rw [Int.zero_add]
              have c1 : @Ne Nat rl I2 := off2 _ (.tail _ (.head _))
              have c2 : @Ne Nat I I2 := off2 _ (.head _)
              have hnl := hinn.len
              refine absT fun Q8 K8 => ?_
              (repeat' (first | (k_unfold; (try dsimp only)) | (k_extra "mycall") | (k_extra "mystep") | (k_extra "no for"; (fail_if_success (with_reducible show wpAny _ _ (call (Value.builtin "min") _ _) _ _ _)); (fail_if_success (with_reducible show wpAny _ _ (call (Value.ref 102) _ _) _ _ _)); (fail_if_success (with_reducible show wpAny _ _ (setItem _ _ _) _ _ _)); (fail_if_success (with_reducible show wpAny _ _ (subscriptTail _ _ (Value.ref _) _) _ _ _)); k_extra "head")))
              ((with_reducible rename Fr _ _ _ _ => F9); (with_reducible rename News _ _ _ _ => N9))
              have hsa := S_short (b3.getD k 0)
              have hsb := S_short (a3.getD i 0)
              refine' c_sub X' T' rfl ?e ?r _ _ _ _ hsa hsb ?_
              (case e => exact F9.keep)
              (case r => k_extra "room")
              intro t7 h7 tk7 e7
              rw [show (if S [b3.getD k 0] == S [a3.getD i 0] then (0 : Int) else if Txt.lower (S [b3.getD k 0]) == Txt.lower (S [a3.getD i 0]) then 1 else 2) = cost (b3.getD k 0) (a3.getD i 0) from rfl]
              have F7 := Mine.Fr.ext F9 e7
              have N7 := Mine.News.ext N9 e7
              clear F9 N9
              (repeat' (first | (k_unfold; (try dsimp only)) | (k_extra "mycall") | (k_extra "mystep") | (k_extra "no for"; (fail_if_success (with_reducible show wpAny _ _ (call (Value.builtin "min") _ _) _ _ _)); (fail_if_success (with_reducible show wpAny _ _ (call (Value.ref 102) _ _) _ _ _)); (fail_if_success (with_reducible show wpAny _ _ (setItem _ _ _) _ _ _)); (fail_if_success (with_reducible show wpAny _ _ (subscriptTail _ _ (Value.ref _) _) _ _ _)); k_extra "head")))
              ((with_reducible rename Fr _ _ _ _ => F9); (with_reducible rename News _ _ _ _ => N9))
              obtain ⟨t8, hy8⟩ := ints_get hri (i := i) (by omega)
              have hor := (N9 (rl, orow) (mem_at 2 rfl)).1
              refine sub_list ⟨_, hor, hoc, _, hod⟩ hy8 (by omega) ?_
              (repeat' (first | (k_unfold; (try dsimp only)) | (k_extra "mycall") | (k_extra "mystep") | (k_extra "no for"; (fail_if_success (with_reducible show wpAny _ _ (call (Value.builtin "min") _ _) _ _ _)); (fail_if_success (with_reducible show wpAny _ _ (call (Value.ref 102) _ _) _ _ _)); (fail_if_success (with_reducible show wpAny _ _ (setItem _ _ _) _ _ _)); (fail_if_success (with_reducible show wpAny _ _ (subscriptTail _ _ (Value.ref _) _) _ _ _)); k_extra "head")))
              ((with_reducible rename Fr _ _ _ _ => F9); (with_reducible rename News _ _ _ _ => N9))
              refine joinJ (s := s) F9 N9 (fun v => ∃ t, v = .int (min res (now.getD i 0)) t) ?_ fun v h9 tk9 hv9 F8 N8 => ?_
              · (repeat' (first | (k_unfold; (try dsimp only)) | (k_extra "mycall") | (k_extra "mystep") | (k_extra "no for"; (fail_if_success (with_reducible show wpAny _ _ (exec (Stmt.While _ _ _ _) _) _ _ _)); k_extra "head")))
                ((with_reducible rename Fr _ _ _ _ => F9); (with_reducible rename News _ _ _ _ => N9))
                exact ⟨_, _, ⟨_, congrArg (fun z => Value.int z _) (min_if _ _)⟩, rfl, F9, N9⟩
              obtain ⟨t9, rfl⟩ := hv9
              clear F9 N9
              obtain ⟨r, hr⟩ : ∃ r, Hid (r = min (min res (now.getD i 0) + 2) (dist + cost (b3.getD k 0) (a3.getD i 0))):= ⟨_, rfl⟩
              (repeat' (first | (k_unfold; (try dsimp only)) | (k_extra "mycall") | (k_extra "mystep") | (k_extra "no for"; (fail_if_success (with_reducible show wpAny _ _ (call (Value.builtin "min") _ _) _ _ _)); (fail_if_success (with_reducible show wpAny _ _ (call (Value.ref 102) _ _) _ _ _)); (fail_if_success (with_reducible show wpAny _ _ (setItem _ _ _) _ _ _)); (fail_if_success (with_reducible show wpAny _ _ (subscriptTail _ _ (Value.ref _) _) _ _ _)); k_extra "head")))
              ((with_reducible rename Fr _ _ _ _ => F9); (with_reducible rename News _ _ _ _ => N9))
              refine joinJ (s := s) F9 N9 (fun v => ∃ t, v = .int r t) ?_ fun v h9 tk9 hv9 F8 N8 => ?_
              · (repeat' (first | (k_unfold; (try dsimp only)) | (k_extra "mycall") | (k_extra "mystep") | (k_extra "no for"; (fail_if_success (with_reducible show wpAny _ _ (exec (Stmt.While _ _ _ _) _) _ _ _)); k_extra "head")))
                ((with_reducible rename Fr _ _ _ _ => F9); (with_reducible rename News _ _ _ _ => N9))
                exact ⟨_, _, ⟨_, congrArg (fun z => Value.int z _) ((min_if _ _).trans (Eq.symm hr))⟩, rfl, F9, N9⟩
              obtain ⟨t10, rfl⟩ := hv9
              clear F9 N9
              (repeat' (first | (k_unfold; (try dsimp only)) | (k_extra "mycall") | (k_extra "mystep") | (k_extra "no for"; (fail_if_success (with_reducible show wpAny _ _ (call (Value.builtin "min") _ _) _ _ _)); (fail_if_success (with_reducible show wpAny _ _ (call (Value.ref 102) _ _) _ _ _)); (fail_if_success (with_reducible show wpAny _ _ (setItem _ _ _) _ _ _)); (fail_if_success (with_reducible show wpAny _ _ (subscriptTail _ _ (Value.ref _) _) _ _ _)); k_extra "head")))
              ((with_reducible rename Fr _ _ _ _ => F9); (with_reducible rename News _ _ _ _ => N9))
              have hrl9 := N9 (rl, orow) (mem_at 2 rfl)
              have q1 : (0 : Int) ≤ (i : Int) := Int.natCast_nonneg _
              have q2 : (i : Int) < 2 ^ 63 := Int.lt_of_lt_of_le (Int.ofNat_lt.mpr (Nat.lt_trans hi hl3.2.1)) (by decide)
              have q3 : (i : Int) < (ys.toArray.size : Int) := by rw [List.size_toArray, IntsAre.length hri, hnl]; exact Int.ofNat_lt.mpr hi
              refine wpAny_setItem_list ⟨orow, hrl9.1, hoc, _, hod⟩ q1 q2 q3 fun h8 hl8 hs8 => ?_
              refine absG fun G9 hG9 => ?_
              obtain ⟨o8, ho8, hc8, n8, hd8⟩ := hl8
              refine hG9 ?_; clear hG9
              rw [Int.toNat_natCast, List.setIfInBounds_toArray] at hd8
              have e8 : Ext [rl] _ h8 := fun b o e n => (hs8.2 b (by simpa using n)).trans e
              refine' with_upd N9 e8 ho8 ?kU9 fun N8 => ?_
              (case kU9 => k_upd)
              have F8 := Mine.Fr.extx F9 e8 (fun x hx => by rw [List.mem_singleton.mp hx]; exact ⟨hrl9.2.2, hrl9.2.1⟩)
              clear F9 N9
              have off3 : ∀ p ∈ [(I, oI), (rl, o8)], p.1 ≠ I2 := off_same (by rfl) off2
              (repeat' (first | (k_unfold; (try dsimp only)) | (k_extra "mycall") | (k_extra "mystep") | (k_extra "no for"; (fail_if_success (with_reducible show wpAny _ _ (exec (Stmt.While _ _ _ _) _) _ _ _)); k_extra "head")))
              · ((with_reducible rename Fr _ _ _ _ => F9); (with_reducible rename News _ _ _ _ => N9))
                have hc := ‹r < mn›
                refine K8 _ _ ?_
                exact ⟨_, _, _, _, rfl, F9, N9, off3, o8, _, n8, _, _, _, _, tc, _, _, _, rfl, hc8, hd8, IntsAre.setAt hri i _ _, hinn.next hi hr (if_pos hc).symm, m1, m2, m3, m4, m5, rfl, rfl, rfl⟩
              · ((with_reducible rename Fr _ _ _ _ => F9); (with_reducible rename News _ _ _ _ => N9))
                have hc := ‹¬ r < mn›
                refine K8 _ _ ?_
                exact ⟨_, _, _, _, rfl, F9, N9, off3, o8, _, n8, _, _, _, tn, tc, _, _, mn, rfl, hc8, hd8, IntsAre.setAt hri i _ _, hinn.next hi hr (if_neg hc).symm, m1, m2, m3, m4, m5, rfl, rfl, m8⟩
            · intro m₁ news₁ h tk hz4q F₁ N₁
              refine absG fun G9 hG9 => ?_
              obtain ⟨orow, ys, nr, now, tr, td, tn, tc, res2, dist, mn, rfl, hoc, hod, hri, hinn, m1, m2, m3, m4, m5, m6, m7, m8⟩ := hz4q
              clear F9 N9
              have hnl := hinn.len
              have hdone := hinn.done
              have hdr : b3.drop k = b3.getD k 0 :: b3.drop (k + 1) := by
                rw [List.drop_eq_getElem_cons hk, List.getD_eq_getElem?_getD, List.getElem?_eq_getElem hk]; rfl
              refine hG9 ?_; clear hG9
              rw [hdr] at hout
              (repeat' (first | (k_unfold; (try dsimp only)) | (k_extra "mycall") | (k_extra "mystep") | (k_extra "no for"; (fail_if_success (with_reducible show wpAny _ _ (exec (Stmt.While _ _ _ _) _) _ _ _)); k_extra "head")))
              · ((with_reducible rename Fr _ _ _ _ => F9); (with_reducible rename News _ _ _ _ => N9))
                refine K9 _ _ ?_
                have hc := ‹mx < mn›
                rw [hout, outL_stop hdone hc] at ret
                exact ret _ _ _ (ext_of G' F9)
              · ((with_reducible rename Fr _ _ _ _ => F9); (with_reducible rename News _ _ _ _ => N9))
                have hc := ‹¬ mx < mn›
                rw [outL_go hdone hc] at hout
                have off2 : ∀ p ∈ [(rl, orow)], p.1 ≠ I := off_same (by rfl) off
                refine K9 _ _ ?_
                exact ⟨_, _, _, _, rfl, F9, N9, off2, orow, ys, nr, now, _, rfl, hoc, hod, hri, hnl, m1, m2, m3, m4, res2, m6, hout⟩
          · intro m₁ news₁ h tk hz4q F₁ N₁
            refine absG fun G9 hG9 => ?_
            obtain ⟨orow, ys, nr, row, tr, rfl, hoc, hod, hri, hrlen, m1, m2, m3, m4, res, m5, hout⟩ := hz4q
            clear F9 N9
            refine hG9 ?_; clear hG9
            rw [List.drop_length] at hout
            rw [hout] at ret
            (repeat' (first | (k_unfold; (try dsimp only)) | (k_extra "mycall") | (k_extra "mystep") | (k_extra "no for"; (fail_if_success (with_reducible show wpAny _ _ (exec (Stmt.While _ _ _ _) _) _ _ _)); k_extra "head")))
            ((with_reducible rename Fr _ _ _ _ => F9); (with_reducible rename News _ _ _ _ => N9))
            exact ret _ _ _ (ext_of G' F9)

noncomputable def TxAre (ws : List Value) (xs : List (List Nat)) : Prop := ∃ l : List (List Nat × Tok), ws = l.map (fun p => Value.str (S p.1) p.2) ∧ xs = l.map (·.1)
theorem TxAre.nil : TxAre [] [] := ⟨[], rfl, rfl⟩
theorem TxAre.snoc {ws : List Value} {xs : List (List Nat)} (h : TxAre ws xs) (x : List Nat) (t : Tok) : TxAre (ws ++ [.str (S x) t]) (xs ++ [x]) := by
  obtain ⟨l, rfl, rfl⟩ := h
  exact ⟨l ++ [(x, t)], by simp, by simp⟩
theorem TxAre.len {ws : List Value} {xs : List (List Nat)} (h : TxAre ws xs) : ws.length = xs.length := by
  obtain ⟨l, rfl, rfl⟩ := h; rw [List.length_map, List.length_map]
theorem TxAre.at {ws : List Value} {xs : List (List Nat)} (h : TxAre ws xs) {i : Nat} {v : Value} {x : List Nat} (hv : ws[i]? = some v) (hx : xs[i]? = some x) : ∃ t, v = .str (S x) t := by
  obtain ⟨l, rfl, rfl⟩ := h
  rw [List.getElem?_map] at hv hx
  cases e : l[i]? with
  | none => rw [e] at hv; cases hv
  | some p => rw [e] at hv hx; cases hv; cases hx; exact ⟨_, rfl⟩
theorem S_app (a b : List Nat) : S a ++ S b = S (a ++ b) := by
  show Str.mk _ = _
  unfold S
  simp
theorem join_flat : ∀ (xs : List (List Nat)), Str.join (S []) (xs.map S) = S xs.flatten
  | [] => rfl
  | [x] => by rw [List.map_cons, List.map_nil, List.flatten_cons, List.flatten_nil, List.append_nil]; rfl
  | x :: y :: r => by
    have ih := join_flat (y :: r)
    have e : Str.join (S []) (S x :: S y :: r.map S) = S x ++ S [] ++ Str.join (S []) (S y :: r.map S) := rfl
    rw [List.map_cons, List.map_cons, e]
    rw [List.map_cons] at ih
    rw [ih, S_app, S_app, List.append_nil]
    rfl
theorem join_S {prog : Program} {w : World} {A : Around} {E : Value → Shared → Prop} {s : Shared} {t : Tok} {Q : Value → Shared → Prop} {D : Addr} {ws : List Value} {xs : List (List Nat)} (hl : s.heap.IsList D ws.toArray) (h : TxAre ws xs) (hx : ∀ x ∈ xs, x.length ≤ 1) (hn : xs.length < 100)
    (hq : ∀ t' k, Q (.str (S xs.flatten) t') { s with toks := k }) : wpAny (model prog w) A (call (.builtin "str.join") [.str (Str.ofString "") t, .ref D]) Q E s := by
  obtain ⟨l, rfl, rfl⟩ := h
  refine SC.join (l := l.map fun p => (S p.1, p.2)) (texts := (l.map (·.1)).map S) ?_ (by rw [List.map_map, List.map_map]; rfl) ?_ fun t' k => ?_
  · have : strValues (l.map fun p => (S p.1, p.2)) = l.map fun p => Value.str (S p.1) p.2 := by unfold strValues; rw [List.map_map]; rfl
    rw [this]; exact hl
  · have hf := StrLaws.joinFits (sep := Str.ofString "") (texts := (l.map (·.1)).map S) (B := 1) (fun y hy => by
      obtain ⟨x, hm, rfl⟩ := List.mem_map.mp hy
      rw [S_len]; exact hx x hm) (by
      rw [S_nil, S_len, List.length_map]
      simp only [List.length_nil]
      omega)
    unfold JoinOk
    rw [hf]; rfl
  · unfold Txt.join
    rw [StrLaws.glued_eq_join, S_nil, join_flat]; exact hq t' k

section
variable {prog : Program} {w : World} {A : Around} {s : Shared} {K : Frag} {p : Program} {loose : List Str} {mean : ExcName → Option Value} {mg mb : Str → Option Value} {ht : Heap}
  {name qual : Str} {params : Arguments} {body : List Stmt} {scope : Scope} {dV kV doc pm cdv ct oc : Value} {an od : Option Addr} {osl : Array (Option Value)} {f : Addr} {pos : List Value} {kw : List (Str × Value)} {binds : List (Str × Value)}
  {Q E : Value → Shared → Prop}
theorem callMT (ms : List (Addr × Obj)) (X : K.In ht) (T : Top p loose mean mg mb ht) (ek : ht.StaysIn s.heap) (hms : ∀ q ∈ ms, s.heap.get? q.1 = some q.2 ∧ ht.get? q.1 = none)
    (ho : K.lookup f = some ⟨oc, od, .func (fnOf name qual params body scope dV kV doc pm an cdv ct), osl⟩) (hcd : codeIn K cdv qual = true) (hroom : A.depth < recursionLimit)
    (hbind : BindsTo s (fnOf name qual params body scope dV kV doc pm an cdv ct) ⟨pos, kw⟩ binds)
    (hkind : (binds.all fun y => scope.names.lookup y.1 == some .local || scope.names.lookup y.1 == some .cell) = true)
    (hnd : ((cellsFrom 0 scope.names []).map (·.1)).Nodup)
    (h : ∀ g L' h₁ tk cells, Fr g L' h₁ (bindL (envOfC qual scope L' f cdv).kindOf binds fun _ => none) → News g L' h₁ (cells ++ ms) →
      CellsAre (bindC (envOfC qual scope L' f cdv).kindOf binds fun _ => none) (cellsFrom (L' + 1) scope.names []) cells → K.In g → Top p loose mean mg mb g → GSub s.heap g (ms.map (·.1)) → ht.StaysIn g → s.heap.objs.size = L' → (∀ q ∈ ms, q.1 < L') → s.toks ≤ tk →
      wpAny (model prog w) (A.deeper (envOfC qual scope L' f cdv)) (execs body (envOfC qual scope L' f cdv))
        (fun fl s' => Q (match fl with | .ret v => v | _ => .none) s') (fun _ _ => False) { s with heap := h₁, toks := tk })
    (hco : scope.isCoroutine = false := by rfl) (hgen : scope.isGenerator = false := by rfl) (hk : scope.kind = .function := by rfl) :
    wpAny (model prog w) A (call (.ref f) pos kw) Q E s := by
  refine wpAny_call (codeAny_call_function hroom (ek _ _ (X _ _ ho)) rfl hco hgen rfl (codeRec_of (X.keeps ek) hcd) (hbind _ _ _ _ ?_))
  refine wpAny_toks (wpAny_newFunctionEnv_cells hk (kindsX hkind _) fun env' he s' x htk0 => ?_)
  subst he
  refine ⟨((T.nolimit.keeps ek)).keeps x.toInCall.keep, codeAny_func ?_⟩
  refine absG fun G9 hG9 => ?_
  obtain ⟨h₁, tk, rfl, _⟩ := x.done
  have hk₁ := x.toInCall.keep
  have st := ground ek hms
  have Xg := Frag.In.keeps X st
  have Tg := Top.keeps T st
  obtain ⟨cells, NC, Y⟩ := Cl.news (h₀ := s.heap) (Nat.le_refl _) fun n c hm => ⟨x.cell n c (lookup_of_mem_nodup (cellsFrom_names scope.names 0 (s.heap.objs.size + 1) [] [] rfl ▸ hnd) hm), x.above n c hm⟩
  refine hG9 ?_; clear hG9
  refine wpAny_mono (h (hideAll s.heap (ms.map (·.1))) s.heap.objs.size h₁ tk cells ⟨x.toInCall.ns, fun b o e => hk₁ b o (of_hideAll _ e), Nat.le_of_eq (hideAll_size _ _)⟩ (fun q hq => ?_) Y Xg Tg (fun b o e n => hideAll_get _ e n) st rfl
    (fun q hq => Heap.lt_size (hms q hq).1) htk0) (fun fl s' hl => hl) fun _ _ x => x.elim
  rcases List.mem_append.mp hq with hq | hq
  · refine ⟨(NC q hq).1, (NC q hq).2.1, ?_⟩
    cases e : (hideAll s.heap (ms.map (·.1))).get? q.1 with
    | none => rfl
    | some o => have := of_hideAll _ e; rw [(NC q hq).2.2] at this; cases this
  · exact ⟨hk₁ _ _ (hms q hq).1, Nat.ne_of_lt (Heap.lt_size (hms q hq).1), hideAll_none _ (List.mem_map_of_mem hq)⟩
end
theorem fig_inj : ∀ a, a < 4 → ∀ b, b < 4 → (fig a == fig b) = (a == b) := by decide +kernel
theorem count_fig {tab : List (Nat × Nat)} (ht : ∀ p ∈ tab, p.1 < 4 ∧ p.2 < 4) {g : Nat} (hg : g < 4) : (((ents tab).map (·.2)).countP (· == fig g) = 0) ↔ (tab.any fun p => p.2 == g) = false := by
  rw [List.countP_eq_zero, Bool.eq_false_iff, Ne, List.any_eq_true]
  constructor
  · intro h hz1q
    refine absG fun G9 hG9 => ?_
    obtain ⟨p, hp, e⟩ := hz1q
    refine hG9 ?_; clear hG9
    refine h (fig p.2) ?_ (by rw [fig_inj _ (ht p hp).2 _ hg]; exact e)
    exact List.mem_map.mpr ⟨entOf p, List.mem_map.mpr ⟨p, hp, rfl⟩, rfl⟩
  · intro h x hx e
    refine absG fun G9 hG9 => ?_
    obtain ⟨q, hq, rfl⟩ := List.mem_map.mp hx
    obtain ⟨p, hp, rfl⟩ := List.mem_map.mp hq
    have e : (fig p.2 == fig g) = true := e
    refine hG9 ?_; clear hG9
    rw [fig_inj _ (ht p hp).2 _ hg] at e
    exact h ⟨p, hp, e⟩
theorem take_range (i : Nat) (hi : i < 4) (p : Nat → Bool) : (List.range (i + 1)).filter p = (List.range i).filter p ++ (if p i then [i] else []) := by
  rw [List.range_succ, List.filter_append]; congr 1; simp [List.filter_cons]
theorem news_add {g h h' : Heap} {L D : Addr} {m : Str → Option Value} {o : Obj} {nw : List (Addr × Obj)} (F : Fr g L h m) (N : News g L h nw) (e : Ext [] h h') (hn : h.get? D = none) (hd : h'.get? D = some o) : News g L h' ((D, o) :: nw) := fun p hp => by
  rcases List.mem_cons.mp hp with rfl | hp
  · refine ⟨hd, fun q => ?_, ?_⟩
    · obtain ⟨oL, es, ep, e1, _⟩ := F.ns
      have q : D = L := q
      rw [q, e1] at hn; cases hn
    · cases hg : g.get? D with
      | none => rfl
      | some x => rw [F.keep _ _ hg] at hn; cases hn
  · exact Mine.News.ext N e p hp
set_option hygiene false
theorem c_without {w : World} {loose : List Str} {mean : ExcName → Option Value} {mg mb : Str → Option Value} {ht : Heap} (X : (Mine.hd.heap_1 w.params).In ht) (T : Top Mine.hd.view_1 loose mean mg mb ht) {A : Around} (hA : A.handled = none) {s : Shared} (ek : ht.StaysIn s.heap) {Q E : Value → Shared → Prop} {N₀ : Nat} (hroom : A.depth + 4 < recursionLimit) {tb d hl : Addr} {ol : Obj} {nl : Nat} {ts : List Addr} {tab : List (Nat × Nat)} (TB : Tab (tokP N₀) ht s.heap tb d hl ol nl ts (ents tab)) (hN : N₀ ≤ s.toks) (h1 : 1 ≤ s.toks) (htab : ∀ p ∈ tab, p.1 < 4 ∧ p.2 < 4) (hsz : tab.length < 90)
    (ret : ∀ D vs h' tk', Ext [] s.heap h' → s.heap.get? D = none → h'.get? D = some (LCg.lst vs) → NumsAre vs (withoutT tab) → Q (.ref D) { s with heap := h', toks := tk' }) :
    wpAny (model PySem.Challenge.rw_ti0061_01.prog w) A (call (.ref 289) [.ref tb] []) Q E s := by
  ((revert X; k_fill; intro X; obtain ⟨hh, dp, fr, gd, un⟩ := A; cases hA; (dsimp only at hroom)))
  refine absG fun G9 hG9 => ?_
  obtain ⟨hk, kt, dn, hms⟩ := Tab.ms TB.toTabI
  refine hG9 ?_; clear hG9
  refine wpAny_toks ?_
  refine' callMT [(tb, instObj 242 d), (d, dictOf [⟨hk, .str (Str.ofString "_headers") kt, .ref hl⟩] dn)] ?k1 ?k2 ?k3 ?k4 ?k6 ?k7 ?k8 ?k9 ?kB ?kD ?_ ?c2 ?c3 ?c4
  (case k4 => exact hms)
  ((case k1 => assumption); (case k2 => assumption); (case k3 => assumption); (case k6 => k_is); (case k7 => k_is); (case k8 => k_extra "room"); (case k9 => first | exact BindsTo.of_eq rfl | exact binds_K (Frag.In.keeps (by assumption) (by assumption)) rfl (by k_is) rfl rfl rfl); (case kB => exact rfl); (case kD => decide +kernel); (case c2 => exact rfl); (case c3 => exact rfl); (case c4 => exact rfl))
  ((intro g' L' h' tk' cells' F' N' Y' X' T' G' st' l' l1'; (try k_lt l1'); k_cells Y'; (try simp only [List.cons_append, List.nil_append] at N'); (try dsimp only); (try k_fold)))
  intro htk0
  rename Obj => oc
  have gts : Ents (tokP N₀) g' ts (ents tab) := (TB.ground G').2
  (repeat' (first | (k_unfold; (try dsimp only)) | (k_extra "mycall") | (k_extra "mystep") | (k_extra "no for"; k_extra "head")))
  ((with_reducible rename Fr _ _ _ _ => F9); (with_reducible rename News _ _ _ _ => N9))
  refine compE F9 (by with_unfolding_all rfl) (by decide) (by rfl) (by decide) ?_
  refine wpAny_toks ?_
  (repeat' (first | (k_unfold; (try dsimp only)) | (k_extra "mycall") | (k_extra "mystep") | (k_extra "no for"; k_extra "head")))
  ((with_reducible rename Fr _ _ _ _ => F9); (with_reducible rename News _ _ _ _ => N9))
  rename IsRange _ _ _ _ _ _ _ _ => hrg
  intro htk1
  dsimp only at htk1
  refine .inr ⟨_, 0, 4, _, _, _, 4, _, fun v m => m (Str.ofString "guest") = some v, fun i tk ys nw => nw = [(L' + 1, oc), (tb, instObj 242 d), (d, dictOf [⟨hk, .str (Str.ofString "_headers") kt, .ref hl⟩] dn)] ∧ N₀ ≤ tk ∧ 1 ≤ tk ∧ NumsAre ys ((List.range i).filter fun g => !(tab.any fun p => p.2 == g)), rfl, rfl, F9, N9, hrg, by decide +kernel, by decide +kernel, by decide, ?_, ?_, ?_, ?_⟩
  · intro i tk ys nw hz4q
    refine absG fun G9 hG9 => ?_
    obtain ⟨_, _, _, S⟩ := hz4q
    have h1 := IntsAre.length S
    have h2 := List.length_filter_le (fun g => !(tab.any fun p => p.2 == g)) (List.range i)
    refine hG9 ?_; clear hG9
    simp only [nums, List.length_map, List.length_range] at h1 h2
    omega
  · exact fun tk h => ⟨rfl, by dsimp only at h; omega, by dsimp only at h; omega, .nil⟩
  · rintro s₂ ⟨hs2, rfl⟩
    constructor
    · intro i t hi
      exact asgName rfl rfl _
    · intro i v tk₀ tk ys nw I oI D C oC m₂ h E' hi hz15q hz16q htk hNs hKV F₁ N₁ off ne
      refine absG fun G9 hG9 => ?_
      obtain ⟨tv, rfl⟩ := hz15q
      obtain ⟨rfl, hN0, hN1, S⟩ := hz16q
      clear F9 N9
      refine hG9 ?_; clear hG9
      rw [Int.zero_add] at hKV
      refine TestM.one ?_
      refine wpAny_toks ?_
      (repeat' (first | (k_unfold; (try dsimp only)) | (k_extra "mycall") | (k_extra "mystep") | (k_extra "no for"; k_extra "head")))
      ((with_reducible rename Fr _ _ _ _ => F9); (with_reducible rename News _ _ _ _ => N9))
      dsimp only [List.append_nil]
      refine wpAny_toks ?_
      refine' c_vals X' T' rfl ?e ?r (Tab.again TB G' F9 N9 ?m1 ?m2) ?z ?_
      (case e => exact F9.keep)
      (case r => k_extra "room")
      (case m1 => k_mem)
      (case m2 => k_mem)
      (case z => simp only [ents, List.length_map]; omega)
      intro D2 vs h2 tk2 e2 hn2 hd2 S2 htk2
      have htk2 : tk ≤ tk2 := htk2
      have N2 := news_add F9 N9 e2 hn2 hd2
      have F2 := Mine.Fr.ext F9 e2
      clear F9 N9
      (repeat' (first | (k_unfold; (try dsimp only)) | (k_extra "mycall") | (k_extra "mystep") | (k_extra "no for"; k_extra "head")))
      ((with_reducible rename Fr _ _ _ _ => F9); (with_reducible rename News _ _ _ _ => N9))
      have hls : ∀ x ∈ (ents tab).map (·.2), x.length < 100 := fun x hx => by
        refine absG fun G9 hG9 => ?_
        obtain ⟨q, hq, rfl⟩ := List.mem_map.mp hx
        obtain ⟨p, hp, rfl⟩ := List.mem_map.mp hq
        refine hG9 ?_; clear hG9
        show (fig p.2).length < 100
        rw [fig_len _ (htab p hp).2]; decide
      have hvl : vs.length < 100 := by rw [S2.1]; simp only [ents, List.length_map]; omega
      have hb1 : 1 ≤ tk2 := by omega
      have hb2 : N₀ ≤ tk2 := by omega
      refine' c_countS X' T' rfl ?e ?r (N9 (D2, LCg.lst vs) (.head _)).1 rfl rfl S2 hvl hls (fig i) tk2 (by rw [fig_len i hi]; decide) (Nat.pos_iff_ne_zero.mp hb1) (fun t ht => ⟨ht.1, fun q => absurd (q ▸ ht.2 : tk2 < N₀) (Nat.not_lt.mpr hb2)⟩) ?_
      (case e => exact F9.keep)
      (case r => k_extra "room")
      intro t3 h3 tk3 e3
      have F3 := Mine.Fr.ext F9 e3
      have N3 := Mine.News.ext N9 e3
      clear F9 N9
      (repeat' (first | (k_unfold; (try dsimp only)) | (k_extra "mycall") | (k_extra "mystep") | (k_extra "no for"; k_extra "head")))
      ((with_reducible rename Fr _ _ _ _ => F9); (with_reducible rename News _ _ _ _ => N9))
      have hcf := count_fig htab hi
      have htr := take_range i hi (fun g => !(tab.any fun p => p.2 == g))
      intro htk3
      cases hany : (tab.any fun p => p.2 == i) with
      | false =>
        rw [hany] at htr
        have hc0 := hcf.mpr hany
        rw [if_pos (by rw [hc0]; rfl)]
        (repeat' (first | (k_unfold; (try dsimp only)) | (k_extra "mycall") | (k_extra "mystep") | (k_extra "no for"; k_extra "head")))
        ((with_reducible rename Fr _ _ _ _ => F9); (with_reducible rename News _ _ _ _ => N9))
        refine ⟨_, _, _, rfl, F9, fun p hp => N9 p (.tail _ hp), off, rfl, by omega, by omega, ?_⟩
        rw [htr]
        exact S.snoc i tv
      | true =>
        rw [hany] at htr
        have hc0 : ((ents tab).map (·.2)).countP (· == fig i) ≠ 0 := fun q => by rw [hcf.mp q] at hany; cases hany
        rw [if_neg (by simpa using hc0)]
        refine ⟨_, _, _, rfl, F9, fun p hp => N9 p (.tail _ hp), off, rfl, by omega, by omega, ?_⟩
        rw [htr]
        simpa using S
  · intro D tk₀ tk ys nw h hz6q htk F₁ N₁ off
    refine absG fun G9 hG9 => ?_
    obtain ⟨rfl, _, _, S⟩ := hz6q
    clear F9 N9
    refine hG9 ?_; clear hG9
    ((with_reducible rename Fr _ _ _ _ => F9); (with_reducible rename News _ _ _ _ => N9))
    ((repeat' (first | k_unfold | dsimp only)))
    intro _
    have o1 : D ≠ tb := fun q => off _ (.tail _ (.head _)) (List.mem_singleton.mpr q.symm)
    have o2 : D ≠ d := fun q => off _ (mem_at 2 rfl) (List.mem_singleton.mpr q.symm)
    exact ret _ _ _ _ (ext_ms (fun q hq => (hms q hq).1) G' F9 N9 (fun q hq => .inl (List.mem_cons_of_mem _ (List.mem_cons_of_mem _ hq)))) (new_of G' (N9 _ List.mem_cons_self).2.2 (by simp [o1, o2])) (N9 _ List.mem_cons_self).1 S

theorem Tab.in5 {P : Tok → Prop} {g h : Heap} {L : Addr} {m : Str → Option Value} {news : List (Addr × Obj)} {tb d hl : Addr} {ol : Obj} {nl : Nat} {ts : List Addr} {es : List (Str × Str)} {hk : Int} {kt : Tok} {dn : Nat} (F : Fr g L h m) (N : News g L h news)
    (m1 : (tb, instObj 242 d) ∈ news) (m2 : (d, dictOf [⟨hk, .str (Str.ofString "_headers") kt, .ref hl⟩] dn) ∈ news) (hg : g.get? hl = some ol) (hoc : ol = listOf (refs ts).toArray nl) (en : Ents P g ts es) (hel : ∀ e ∈ es, e.1.length < 100) : Tab P g h tb d hl ol nl ts es :=
  { TabI.of_news N m1 m2 with hol := F.keep _ _ hg, hoc := hoc, en := en.keeps fun t _ o e => F.keep t o e, hel := hel }
theorem all_snoc {p : Nat → Prop} {l : List Nat} {x : Nat} (h : ∀ y ∈ l, p y) (hx : p x) : ∀ y ∈ l ++ [x], p y := fun y hy => by
  rcases List.mem_append.mp hy with hy | hy
  · exact h y hy
  · rw [List.mem_singleton.mp hy]; exact hx
theorem nums_nil (w : List Nat) : (!decide (nums w = [])) = !decide (w = []) := by cases w <;> rfl
theorem getLastD_mem {w : List Nat} (h : 0 < w.length) : w.getLastD 0 ∈ w := by
  cases w with
  | nil => exact absurd h (Nat.lt_irrefl _)
  | cons a w => rw [List.getLastD_cons, List.getLastD_eq_getLast?]; cases e : w.getLast? with
    | none => exact List.mem_cons_self
    | some x => exact List.mem_cons_of_mem _ (List.mem_of_getLast? e)
theorem nums_last (w : List Nat) : (nums w).getLastD 0 = ((w.getLastD 0 : Nat) : Int) := by
  rw [List.getLastD_eq_getLast?, List.getLastD_eq_getLast?, nums, List.getLast?_map]; cases w.getLast? <;> rfl
theorem nums_drop (w : List Nat) : (nums w).dropLast = nums w.dropLast := by rw [nums, nums, List.map_dropLast]
set_option hygiene false




theorem c_walk {w : World} {loose : List Str} {mean : ExcName → Option Value} {mg mb : Str → Option Value} {ht : Heap} (X : (Mine.hd.heap_1 w.params).In ht) (T : Top Mine.hd.view_1 loose mean mg mb ht) {A : Around} (hA : A.handled = none) {s : Shared} (ek : ht.StaysIn s.heap) {Q E : Value → Shared → Prop} {P : Tok → Prop} (hroom : A.depth + 6 < recursionLimit) (hun : A.units + 70 < cLine) {tb d hl rl nrl wol : Addr} {ol owl : Obj} {nl nwl : Nat} {ts : List Addr} {tab : List (Nat × Nat)} {nn : List (List Nat)} {wvs : List Value} {wo : List Nat}
    (TB : Tab P ht s.heap tb d hl ol nl ts (ents tab)) (RR : RoomsAt s.heap rl) (NN : NearAt s.heap nrl nn) (hnn : nn.length = 4) (hnk : ∀ ks ∈ nn, ∀ k ∈ ks, k < 4) (htab : ∀ p ∈ tab, p.1 < 4 ∧ p.2 < 4)
    (how : s.heap.get? wol = some owl) (hwc : owl.cls = .type "list") (hwd : owl.data = .seq wvs.toArray nwl) (hwn : NumsAre wvs wo)
    (R : Nat → Prop) (hR : ∀ g, R g → g < 4 → ∀ k ∈ nn.getD g [], ∃ q, lookT tab k = some q ∧ R q) (hwo : ∀ g ∈ wo, g < 4 ∧ R g) (hnd : wo.Nodup)
    (ret : ∀ D vs ns c h' tk', Ext [] s.heap h' → s.heap.get? D = none → h'.get? D = some (listOf vs c) → IntsAre vs.toList ns → ns.Perm (nums (wN (lookT tab) (fun j => nn.getD j []) 12 (wo, wo, []))) → ns.Pairwise (· ≤ ·) → Q (.ref D) { s with heap := h', toks := tk' }) :
    wpAny (model PySem.Challenge.rw_ti0061_01.prog w) A (call (.ref 296) [.ref tb, .ref rl, .ref nrl, .ref wol] []) Q E s := by
  ((revert X; k_fill; intro X; obtain ⟨hh, dp, fr, gd, un⟩ := A; cases hA; (dsimp only at hroom)))
  dsimp only at hun
  refine absG fun G9 hG9 => ?_
  obtain ⟨hk, kt, dn, hms⟩ := Tab.ms TB.toTabI
  refine hG9 ?_; clear hG9
  refine' callM [(tb, instObj 242 d), (d, dictOf [⟨hk, .str (Str.ofString "_headers") kt, .ref hl⟩] dn)] ?k1 ?k2 ?k3 ?k4 ?k6 ?k7 ?k8 ?k9 ?kB ?_ ?c5 ?c2 ?c3 ?c4
  (case k4 => exact hms)
  ((case k1 => assumption); (case k2 => assumption); (case k3 => assumption); (case k6 => k_is); (case k7 => k_is); (case k8 => ((try simp only [depth_under_make, depth_under_kw, depth_in1, depth_deeper]); (try dsimp only); omega)); (case k9 => first | exact BindsTo.of_eq rfl | exact binds_K (Frag.In.keeps (by assumption) (by assumption)) rfl (by k_is) rfl rfl rfl); (case kB => exact locs rfl); (case c5 => decide); (case c2 => exact rfl); (case c3 => exact rfl); (case c4 => exact rfl))
  intro g' L' h' F' N' X' T' G' st' l'
  clear l'
  (try dsimp only); (try k_fold)
  have gro : ∀ b o, s.heap.get? b = some o → o.cls = .type "list" → g'.get? b = some o := fun b o e hc => G' b o e (by
    have m4 : b ≠ tb := ne_cls e TB.inst (hc ▸ type_ref)
    have m5 : b ≠ d := ne_cls e (hms _ (.tail _ (.head _))).1 (hc ▸ type_ne (by decide))
    simp [m4, m5])
  have RRg := RR.mono gro
  have NNg := NN.mono gro
  have gow := gro _ _ how hwc
  refine absG fun G9 hG9 => ?_
  obtain ⟨rvs, rn, hr1, hr4, hrk⟩ := RRg
  obtain ⟨nvs, nnn, hn1, hn4, hnr⟩ := NNg
  have hw9 : g'.IsList wol wvs.toArray := ⟨_, gow, hwc, _, hwd⟩
  have hwl : wvs.length = wo.length := by have := IntsAre.length hwn; simpa [nums] using this
  have hw4 := nodup4 hnd fun x hx => (hwo x hx).1
  refine hG9 ?_; clear hG9
  (repeat' (first | (k_unfold; (try dsimp only)) | (k_extra "mycall") | (k_extra "mystep") | (k_extra "no for"; (fail_if_success (with_reducible show wpAny _ _ (call (Value.type "list") _ _) _ _ _)); k_extra "head")))
  ((with_reducible rename Fr _ _ _ _ => F9); (with_reducible rename News _ _ _ _ => N9))
  refine' list_copyK (items := wvs.toArray) F9 N9 ?l (fun ra rc h2 F2 N2 l1 => ?_) (by rw [List.size_toArray, sizeLine_eq]; omega)
  (case l => exact ⟨_, F9.keep _ _ gow, hwc, _, hwd⟩)
  clear F9 N9
  (repeat' (first | (k_unfold; (try dsimp only)) | (k_extra "mycall") | (k_extra "mystep") | (k_extra "no for"; (fail_if_success (with_reducible show wpAny _ _ (call (Value.type "list") _ _) _ _ _)); k_extra "head")))
  ((with_reducible rename Fr _ _ _ _ => F9); (with_reducible rename News _ _ _ _ => N9))
  refine' list_copyK (items := wvs.toArray) F9 N9 ?l (fun wa wc h3 F3 N3 l2 => ?_) (by rw [List.size_toArray, sizeLine_eq]; omega)
  (case l => exact ⟨_, F9.keep _ _ gow, hwc, _, hwd⟩)
  clear F9 N9
  k_lt l1
  k_lt l2
  (repeat' (first | (k_unfold; (try dsimp only)) | (k_extra "mycall") | (k_extra "mystep") | (k_extra "no for"; (fail_if_success (with_reducible show wpAny _ _ (exec (Stmt.While _ _ _ _) _) _ _ _)); k_extra "head")))
  ((with_reducible rename Fr _ _ _ _ => F9); (with_reducible rename News _ _ _ _ => N9))
  rename_i sa _ l3 tu _ l4 _ _ _ h9
  refine gen (wN (lookT tab) (fun j => nn.getD j []) 12 (wo, wo, [])) fun res hres => ?_
  rw [← hres] at ret
  refine joinP (fun fl s' => fl = .next ∧ Ex9 fun h tk m rvs2 nr wvs2 nw2 svs ns => Cj6 (s' = { s with heap := h, toks := tk }) (Fr g' L' h m) (News g' L' h [(sa, listOf (List.toArray svs) ns), (wa, listOf (List.toArray wvs2) nw2), (ra, listOf (List.toArray rvs2) nr), (tb, instObj 242 d), (d, dictOf [⟨hk, .str (Str.ofString "_headers") kt, .ref hl⟩] dn)]) (NumsAre rvs2 res) (res.length ≤ 4) (m (Str.ofString "reached") = some (.ref ra))) ?_ ?_
  · refine While_inv (n₀ := 12) (fun n m nw => Ex9 fun r w sn rvs2 nr wvs2 nw2 svs ns => Cj12 (nw = [(sa, listOf (List.toArray svs) ns), (wa, listOf (List.toArray wvs2) nw2), (ra, listOf (List.toArray rvs2) nr), (tb, instObj 242 d), (d, dictOf [⟨hk, .str (Str.ofString "_headers") kt, .ref hl⟩] dn)]) (NumsAre rvs2 r) (NumsAre wvs2 w) (NumsAre svs sn) (WInv R r w sn) ((2 * (4 - r.length) + w.length ≤ n ∧ n ≤ 12)) (wN (lookT tab) (fun j => nn.getD j []) n (r, w, sn) = res) (m (Str.ofString "table") = some (.ref tb)) (m (Str.ofString "rooms") = some (.ref rl)) (m (Str.ofString "near") = some (.ref nrl)) (m (Str.ofString "reached") = some (.ref ra)) (Cj2 (m (Str.ofString "waiting") = some (.ref wa)) (m (Str.ofString "seen") = some (.ref sa)))) F9 (fun p hp => N9 p (.tail _ hp))
      ⟨wo, wo, [], _, _, _, _, _, _, rfl, hwn, hwn, .nil, ⟨hnd, hwo, hwo, List.nodup_nil, fun k hk => nomatch hk⟩, ⟨by omega, Nat.le_refl _⟩, hres.symm, rfl, rfl, rfl, rfl, rfl, rfl⟩ ?_
    intro n m₁ news₁ h₁ tk₁ F₁ N₁ hz7q
    refine absG fun G9 hG9 => ?_
    obtain ⟨r, w, sn, rvs2, nr, wvs2, nw2, svs, ns, rfl, hrn, hwn2, hsn, hI, hmu, hwN, m1, m2, m3, m4, m5, m6⟩ := hz7q
    clear F9 N9
    have hr4 := nodup4 hI.r1 fun x hx => (hI.r2 x hx).1
    have hs4 := nodup4 hI.s1 hI.s2
    have hrl2 : rvs2.length = r.length := by have := IntsAre.length hrn; simpa [nums] using this
    have hwl2 : wvs2.length = w.length := by have := IntsAre.length hwn2; simpa [nums] using this
    have hsl2 : svs.length = sn.length := by have := IntsAre.length hsn; simpa [nums] using this
    refine hG9 ?_; clear hG9
    refine joinP (fun b0 s' => Ex2 fun h tk => Cj4 (s' = { s with heap := h, toks := tk }) (Fr g' L' h m₁) (News g' L' h [(sa, listOf (List.toArray svs) ns), (wa, listOf (List.toArray wvs2) nw2), (ra, listOf (List.toArray rvs2) nr), (tb, instObj 242 d), (d, dictOf [⟨hk, .str (Str.ofString "_headers") kt, .ref hl⟩] dn)]) (b0 = !decide (w = []))) ?_ ?_
    · (repeat' (first | (k_unfold; (try dsimp only)) | (k_extra "mycall") | (k_extra "mystep") | (k_extra "no for"; (fail_if_success (with_reducible show wpAny _ _ (exec (Stmt.While _ _ _ _) _) _ _ _)); k_extra "head")))
      ((with_reducible rename Fr _ _ _ _ => F9); (with_reducible rename News _ _ _ _ => N9))
      refine ⟨_, _, rfl, F9, fun p hp => N9 p (.tail _ hp), ?_⟩
      exact nums_nil w
    · intro b0 s' hz2q
      refine absG fun G9 hG9 => ?_
      obtain ⟨h2, tk2, rfl, F2, N2, rfl⟩ := hz2q
      refine hG9 ?_; clear hG9
      cases w with
      | nil =>
        rw [if_neg (by decide)]
        cases n with
        | zero => exact ⟨rfl, _, _, _, _, _, _, _, _, _, rfl, F2, N2, hwN ▸ hrn, by rw [← hwN]; exact hr4, m4⟩
        | succ n => exact ⟨rfl, _, _, _, _, _, _, _, _, _, rfl, F2, N2, hwN ▸ hrn, by rw [← hwN]; exact hr4, m4⟩
      | cons g0 w0 =>
        rw [if_pos (by simp)]
        refine gen (g0 :: w0) fun w hw => ?_
        rw [← hw] at hwn2 hwN hmu hI hwl2
        have hwpos : 0 < w.length := by rw [hw]; exact Nat.succ_pos _
        have hg4 : w.getLastD 0 ∈ w := getLastD_mem hwpos
        obtain ⟨gt, gR⟩ := hI.w2 _ hg4
        refine gen (w.getLastD 0) fun g hgd => ?_
        rw [← hgd] at gt gR
        cases n with
        | zero => omega
        | succ n =>
        (repeat' (first | (k_unfold; (try dsimp only)) | (k_extra "mycall") | (k_extra "mystep") | (k_extra "no for"; k_extra "head")))
        ((with_reducible rename Fr _ _ _ _ => F9); (with_reducible rename News _ _ _ _ => N9))
        refine forL ?_
        (repeat' (first | (k_unfold; (try dsimp only)) | (k_extra "mycall") | (k_extra "mystep") | (k_extra "no for"; k_extra "head")))
        ((with_reducible rename Fr _ _ _ _ => F9); (with_reducible rename News _ _ _ _ => N9))
        refine' kpa_pop F9 N9 ?kU9 hwn2 (by omega) (by rw [sizeLine_eq]; omega) (fun h3 t3 F3 N3 hI3 => ?_)
        (case kU9 => k_upd)
        clear F9 N9
        rw [nums_drop] at hI3
        rw [nums_last, ← hgd]
        dsimp only
        have hgn : nn[g]? = some (nn.getD g []) := by rw [List.getD_eq_getElem?_getD, List.getElem?_eq_getElem (by omega)]; rfl
        refine absG fun G9 hG9 => ?_
        obtain ⟨nb, nws, nbn, env1, hn2, hnums⟩ : Ex3 fun (b : Addr) (ws : List Value) (n' : Nat) => Cj3 (nvs[g]? = some (.ref b)) (g'.get? b = some (listOf ws.toArray n')) (NumsAre ws (nn.getD g [])):= by
          have hlt : g < nvs.length := by omega
          obtain ⟨b, ws, n', e1, e2, e3⟩ := hnr g _ _ (List.getElem?_eq_getElem hlt) hgn
          exact ⟨b, ws, n', by rw [List.getElem?_eq_getElem hlt, e1], e2, e3⟩
        have hks : ∀ k ∈ nn.getD g [], k < 4 := hnk _ (List.mem_of_getElem? hgn)
        refine hG9 ?_; clear hG9
        refine sub_list ⟨_, F3.keep _ _ hn1, rfl, _, rfl⟩ env1 (by omega) ?_
        ((with_reducible rename Fr _ _ _ _ => F9); (with_reducible rename News _ _ _ _ => N9))
        refine ⟨g', nb, nws, fun i m nw => Ex9 fun r w2 sn rvs2 nr wvs2 nw2 svs ns => Cj12 (nw = [(sa, listOf (List.toArray svs) ns), (wa, listOf (List.toArray wvs2) nw2), (ra, listOf (List.toArray rvs2) nr), (tb, instObj 242 d), (d, dictOf [⟨hk, .str (Str.ofString "_headers") kt, .ref hl⟩] dn)]) (NumsAre rvs2 r) (NumsAre wvs2 w2) (NumsAre svs sn) (WInv R r w2 sn) (2 * (4 - r.length) + w2.length ≤ n) (wN (lookT tab) (fun j => nn.getD j []) n (wIn (lookT tab) ((nn.getD g []).drop i) (r, w2, sn)) = res) (m (Str.ofString "table") = some (.ref tb)) (m (Str.ofString "rooms") = some (.ref rl)) (m (Str.ofString "near") = some (.ref nrl)) (m (Str.ofString "reached") = some (.ref ra)) (Cj2 (m (Str.ofString "waiting") = some (.ref wa)) (m (Str.ofString "seen") = some (.ref sa))), _, _, _, nbn, rfl, rfl, F9, N9, rfl, rfl, .inl hn2,
          ⟨r, w.dropLast, sn, _, _, _, _, _, _, rfl, hrn, hI3, hsn, ⟨hI.r1, hI.r2, fun g hg => hI.w2 g ((List.dropLast_sublist w).subset hg), hI.s1, hI.s2⟩, by rw [List.length_dropLast]; omega, ?_, m1, m2, m3, m4, m5, m6⟩, ?_, ?_⟩
        · rw [List.drop_zero, ← hwN, hgd, wN, if_neg (fun e => by rw [e] at hwpos; exact absurd hwpos (by decide))]
        · intro i v m₁ news₁ h tk I oI hv hz9q hcI F₁ N₁ off
          refine absG fun G9 hG9 => ?_
          obtain ⟨r, w2, sn, rvs2, nr, wvs2, nw2, svs, ns, rfl, hrn, hwn2, hsn, hI, hmu, hwN, m1, m2, m3, m4, m5, m6⟩ := hz9q
          obtain ⟨k, tkk, rfl, hki⟩ := hnums.item hv
          have hk4 : k < 4 := hks k (List.mem_of_getElem? hki)
          clear F9 N9
          have b1 : @Ne Nat sa I := off _ (.head _)
          have b2 : @Ne Nat wa I := off _ (.tail _ (.head _))
          have b3 : @Ne Nat ra I := off _ (mem_at 2 rfl)
          have hr4 := nodup4 hI.r1 fun x hx => (hI.r2 x hx).1
          have hs4 := nodup4 hI.s1 hI.s2
          have hrl2 : rvs2.length = r.length := by have := IntsAre.length hrn; simpa [nums] using this
          have hwl2 : wvs2.length = w2.length := by have := IntsAre.length hwn2; simpa [nums] using this
          have hsl2 : svs.length = sn.length := by have := IntsAre.length hsn; simpa [nums] using this
          refine hG9 ?_; clear hG9
          rw [drop_cons hki] at hwN
          refine absT fun Q9 K9 => ?_
          (repeat' (first | (k_unfold; (try dsimp only)) | (k_extra "mycall") | (k_extra "mystep") | (k_extra "no for"; k_extra "head")))
          · ((with_reducible rename Fr _ _ _ _ => F9); (with_reducible rename News _ _ _ _ => N9))
            rename _ = true => hin
            rw [any_nums] at hin
            rw [wIn_skip hin] at hwN
            refine K9 _ _ ?_
            exact ⟨_, _, _, _, rfl, F9, N9, off, r, w2, sn, rvs2, nr, wvs2, nw2, svs, ns, rfl, hrn, hwn2, hsn, hI, hmu, hwN, m1, m2, m3, m4, m5, m6⟩
          · ((with_reducible rename Fr _ _ _ _ => F9); (with_reducible rename News _ _ _ _ => N9))
            rename _ = false => hin
            rw [any_nums] at hin
            refine absG fun G9 hG9 => ?_
            obtain ⟨q, hlk, hRq⟩ := hR g gR gt k (List.mem_of_getElem? hki)
            have hq4 := lookT_lt htab hlk
            obtain ⟨rx, rt, hrv, hlow, hupp, hrlen⟩ : Ex2 fun x t => Cj4 (rvs[k]? = some (.str x t)) (Txt.lower x = low k) (Txt.upper x = upp k) (x.length < 100):= by
              have hlt : k < rvs.length := by omega
              obtain ⟨x, t, e1, e2, e3, e4⟩ := hrk k _ (List.getElem?_eq_getElem hlt)
              exact ⟨x, t, by rw [List.getElem?_eq_getElem hlt, e1], e2, e3, e4⟩
            have hlu : Txt.lower (Txt.upper rx) = low k := by rw [hupp]; exact low_upp k hk4
            refine hG9 ?_; clear hG9
            refine sub_list ⟨_, F9.keep _ _ hr1, rfl, _, rfl⟩ hrv (by omega) ?_
            (repeat' (first | (k_unfold; (try dsimp only)) | (k_extra "mycall") | (k_extra "mystep") | (k_extra "no for"; k_extra "head")))
            ((with_reducible rename Fr _ _ _ _ => F9); (with_reducible rename News _ _ _ _ => N9))
            have gts : Ents P g' ts (ents tab) := TB.en.keeps2 fun t o ho hc => G' _ _ ho (by
              have m4 : t ≠ tb := ne_cls ho TB.inst (hc ▸ type_ref)
              have m5 : t ≠ d := ne_cls ho (hms _ (.tail _ (.head _))).1 (hc ▸ type_ne (by decide))
              simp [m4, m5])
            have ghl : g'.get? hl = some ol := gro _ _ TB.hol TB.cls
            refine' c_getitemF X' T' rfl ?e9 ?r9 (Tab.in5 F9 N9 ?m91 ?m92 ghl TB.hoc gts TB.hel) _ _ (by rw [hlu]; exact miss_low k hk4) (by rw [hupp]; exact len_upp k hk4) ?_
            (case e9 => exact F9.keep)
            (case r9 => k_extra "room")
            (case m91 => k_mem)
            (case m92 => k_mem)
            intro v9 h4 tk4 e4 hv9
            obtain ⟨_, hv1⟩ := lookV_ents htab hk4 hlu hv9
            obtain ⟨t9, rfl⟩ := hv1 q hlk
            have F4 := Mine.Fr.ext F9 e4
            have N4 := Mine.News.ext N9 e4
            clear F9 N9 e4
            (repeat' (first | (k_unfold; (try dsimp only)) | (k_extra "mycall") | (k_extra "mystep") | (k_extra "no for"; k_extra "head")))
            · ((with_reducible rename Fr _ _ _ _ => F9); (with_reducible rename News _ _ _ _ => N9))
              rename _ = true => hin2
              rw [any_nums] at hin2
              rw [wIn_old hin hlk hin2] at hwN
              (try simp only [List.push_toArray] at N9)
              refine K9 _ _ ?_
              exact ⟨_, _, _, _, rfl, F9, N9, off_same (by rfl) off, r, w2, sn ++ [k], _, _, _, _, _, _, rfl, hrn, hwn2, hsn.snoc k tkk, ⟨hI.r1, hI.r2, hI.w2, nodup_snoc hI.s1 hin, all_snoc hI.s2 hk4⟩, hmu, hwN, m1, m2, m3, m4, m5, m6⟩
            · ((with_reducible rename Fr _ _ _ _ => F9); (with_reducible rename News _ _ _ _ => N9))
              rename ((nums r).any _) = false => hin2
              rw [any_nums] at hin2
              rw [wIn_new hin hlk hin2] at hwN
              (try simp only [List.push_toArray] at N9)
              have hrq := nodup_snoc hI.r1 hin2
              have hr5 := nodup4 hrq (all_snoc (fun x hx => (hI.r2 x hx).1) hq4)
              rw [List.length_append, List.length_singleton] at hr5
              refine K9 _ _ ?_
              exact ⟨_, _, _, _, rfl, F9, N9, off_same (by rfl) off, r ++ [q], w2 ++ [q], sn ++ [k], _, _, _, _, _, _, rfl, hrn.snoc q _, hwn2.snoc q _, hsn.snoc k tkk, ⟨hrq, all_snoc hI.r2 ⟨hq4, hRq⟩, all_snoc hI.w2 ⟨hq4, hRq⟩, nodup_snoc hI.s1 hin, all_snoc hI.s2 hk4⟩, by rw [List.length_append, List.length_append, List.length_singleton]; omega, hwN, m1, m2, m3, m4, m5, m6⟩
        · intro m₁ news₁ h tk hz4q F₁ N₁
          refine absG fun G9 hG9 => ?_
          obtain ⟨r, w2, sn, rvs2, nr, wvs2, nw2, svs, ns, rfl, hrn, hwn2, hsn, hI, hmu, hwN, m1, m2, m3, m4, m5, m6⟩ := hz4q
          clear F9 N9
          have hnl : nws.length = (nn.getD g []).length := by have := IntsAre.length hnums; simpa [nums] using this
          refine hG9 ?_; clear hG9
          rw [hnl, List.drop_length] at hwN
          (repeat' (first | (k_unfold; (try dsimp only)) | (k_extra "mycall") | (k_extra "mystep") | (k_extra "no for"; k_extra "head")))
          ((with_reducible rename Fr _ _ _ _ => F9); (with_reducible rename News _ _ _ _ => N9))
          exact WhileStep.intro (n' := n) F9 N9 (Nat.lt_succ_self _) ⟨r, w2, sn, _, _, _, _, _, _, rfl, hrn, hwn2, hsn, hI, ⟨hmu, by omega⟩, hwN, m1, m2, m3, m4, m5, m6⟩
  · intro fl s' hz2q
    refine absG fun G9 hG9 => ?_
    obtain ⟨rfl, h2, tk2, m, rvs2, nr, wvs2, nw2, svs, ns, rfl, F2, N2, hrn, hrl4, m1⟩ := hz2q
    clear F9 N9
    have hrl2 : rvs2.length = res.length := by have := IntsAre.length hrn; simpa [nums] using this
    refine hG9 ?_; clear hG9
    (repeat' (first | (k_unfold; (try dsimp only)) | (k_extra "mycall") | (k_extra "mystep") | (k_extra "no for"; (fail_if_success (with_reducible show wpAny _ _ (exec (Stmt.While _ _ _ _) _) _ _ _)); k_extra "head")))
    ((with_reducible rename Fr _ _ _ _ => F9); (with_reducible rename News _ _ _ _ => N9))
    ((repeat' (first | k_unfold | dsimp only)))
    rename List.Perm _ _ => hpm
    rename List.Pairwise _ _ => hpw
    have N8 := N9 _ (.head _)
    have o1 := (N9 _ (.head _)).2.2
    rename IntsAre _ _ => hia
    refine ret _ _ _ _ _ _ (ext_ms (fun q hq => (hms q hq).1) G' F9 N9 fun q hq => .inl ?_) (new_of G' o1 ?_) N8.1 (by simpa using hia) hpm hpw
    · rcases List.mem_cons.mp hq with rfl | hq
      · exact .tail _ (mem_at 3 rfl)
      · rw [List.mem_singleton.mp hq]; exact .tail _ (mem_at 4 rfl)
    · intro hm
      rcases List.mem_cons.mp hm with e | hm
      · exact absurd e (by k_ne)
      · exact absurd (List.mem_singleton.mp hm) (by k_ne)

noncomputable def TextsAt (h : Heap) (a : Addr) (xs : List (List Nat)) : Prop := ∃ (vs : List Value) (n : Nat), h.get? a = some (listOf vs.toArray n) ∧ vs.length = xs.length ∧ ∀ (i : Nat) (v : Value) (x : List Nat), vs[i]? = some v → xs[i]? = some x → ∃ t, v = .str (S x) t
theorem TextsAt.mono {h h' : Heap} {a : Addr} {xs : List (List Nat)} (R : TextsAt h a xs) (k : ∀ b o, h.get? b = some o → o.cls = .type "list" → h'.get? b = some o) : TextsAt h' a xs :=
  let ⟨vs, n, e, r⟩ := R; ⟨vs, n, k _ _ e rfl, r⟩
noncomputable def prOf (g r : List Nat) : Int := if r.length ≤ g.length then price g r else price r g
noncomputable def goodP (g r : List Nat) (bd : Int) : Prop := (lev g r bd ≤ bd ↔ prOf g r ≤ bd) ∧ (lev g r bd ≤ bd → lev g r bd = prOf g r)
noncomputable def nearOf (rs : List (List Nat)) (bd : Int) (g : List Nat) : List Nat := (List.range 4).filter fun k => decide (lev g (rs.getD k []) bd ≤ bd)
theorem allLt_mem {d : Addr} {l : List (Addr × Obj)} (h : AllLt d l) : ∀ p ∈ l, p.1 < d := by
  induction l with
  | nil => intro p hp; cases hp
  | cons a l ih =>
    intro p hp
    rcases List.mem_cons.mp hp with rfl | hp
    · exact h.1
    · exact ih h.2 p hp
theorem refs_snoc' (ts : List Addr) (t : Addr) : refs (ts ++ [t]) = refs ts ++ [.ref t] := by unfold refs; rw [List.map_append]; rfl
theorem last_list {prog : Program} {w : World} {A : Around} {E : Value → Shared → Prop} {s : Shared} {Q : Value → Shared → Prop} {value slice : PySem.Expr} {l : Addr} {vs : List Value} {ti : Tok} {v : Value} (hl : s.heap.IsList l vs.toArray) (hv : vs.getLast? = some v) (h : Q v s)
    (hs : subscripted slice false (.ref l) (.int (-1) ti) = operate [.ref l, .int (-1) ti] (getItem (.ref l) (.int (-1) ti)) := by with_unfolding_all rfl) (ht : ∀ r, letTemporaryGo value (.ref l) r = pure () := by intro _; with_unfolding_all rfl) :
    wpAny (model prog w) A (subscriptTail value slice (.ref l) (.int (-1) ti)) Q E s := by
  have hp : 0 < vs.length := by cases vs with | nil => cases hv | cons => exact Nat.succ_pos _
  refine subscriptTail_builtin hl.typeIs slot_list_getitem.lookup (wpAny_getItem_list_neg hl (by first | (k_extra "clr"; omega) | omega) (by rw [List.size_toArray]; omega) (by first | (k_extra "clr"; omega) | omega) ?_ h) hs ht
  rw [List.size_toArray, List.getElem?_toArray, show ((-1 : Int) + (vs.length : Int)).toNat = vs.length - 1 by omega, ← List.getLast?_eq_getElem?]
  exact hv
set_option hygiene false

theorem c_near {w : World} {loose : List Str} {mean : ExcName → Option Value} {mg mb : Str → Option Value} {ht : Heap} (X : (Mine.hd.heap_1 w.params).In ht) (T : Top Mine.hd.view_1 loose mean mg mb ht) {A : Around} (hA : A.handled = none) {s : Shared} (ek : ht.StaysIn s.heap) {Q E : Value → Shared → Prop} (hroom : A.depth + 100 < recursionLimit) {gl rl : Addr} {gs rs : List (List Nat)} {bd : Int} {tbd : Tok} (hG : TextsAt s.heap gl gs) (hRo : TextsAt s.heap rl rs) (hg4 : gs.length = 4) (hr4 : rs.length = 4)
    (hgl : ∀ g ∈ gs, g.length < 20) (hrl : ∀ r ∈ rs, r.length < 20) (hgood : ∀ g ∈ gs, ∀ r ∈ rs, goodP g r bd)
    (ret : ∀ T na o n' h' tk' (tl : List (Addr × Obj)), Ext [] s.heap h' → h'.get? T = some o → o.cls = .type "tuple" → o.data = .seq #[.ref na, .bool true] n' → (∀ p ∈ tl, h'.get? p.1 = some p.2 ∧ s.heap.get? p.1 = none ∧ p.2.cls = .type "list") → (∀ h2 : Heap, (∀ p ∈ tl, h2.get? p.1 = some p.2) → NearAt h2 na (gs.map (nearOf rs bd))) → s.heap.get? T = none → Q (.ref T) { s with heap := h', toks := tk' }) :
    wpAny (model PySem.Challenge.rw_ti0061_01.prog w) A (call (.ref 272) [.ref gl, .ref rl, .int bd tbd] []) Q E s := by
  ((revert X; k_fill; intro X; obtain ⟨hh, dp, fr, gd, un⟩ := A; cases hA; (dsimp only at hroom)))
  refine' callM [] ?k1 ?k2 ?k3 ?k4 ?k6 ?k7 ?k8 ?k9 ?kB ?_ ?c5 ?c2 ?c3 ?c4
  (case k4 => ((intro q h9; exact nomatch h9)))
  ((case k1 => assumption); (case k2 => assumption); (case k3 => assumption); (case k6 => k_is); (case k7 => k_is); (case k8 => ((try simp only [depth_under_make, depth_under_kw, depth_in1, depth_deeper]); (try dsimp only); first | (k_extra "clr"; omega) | omega)); (case k9 => first | exact BindsTo.of_eq rfl | exact binds_K (Frag.In.keeps (by assumption) (by assumption)) rfl (by k_is) rfl rfl rfl); (case kB => exact locs rfl); (case c5 => decide); (case c2 => exact rfl); (case c3 => exact rfl); (case c4 => exact rfl))
  intro g' L' h' F' N' X' T' G' st' l'
  (try dsimp only); (try k_fold)
  have gro : ∀ b o, s.heap.get? b = some o → o.cls = .type "list" → g'.get? b = some o := fun b o e _ => G' b o e (by simp)
  refine absG fun G9 hG9 => ?_
  obtain ⟨gvs, gn, hg1, hg2, hg3⟩ := hG.mono gro
  obtain ⟨rvs, rn, hr1, hr2, hr3⟩ := hRo.mono gro
  refine hG9 ?_; clear hG9
  (repeat' (first | (k_unfold; (try dsimp only)) | (k_extra "mycall") | (k_extra "mystep") | (k_extra "no for"; k_extra "head")))
  ((with_reducible rename Fr _ _ _ _ => F9); (with_reducible rename News _ _ _ _ => N9))
  rename_i na _ _ _ _ _ _ _ _
  refine forL ?_
  (repeat' (first | (k_unfold; (try dsimp only)) | (k_extra "mycall") | (k_extra "mystep") | (k_extra "no for"; k_extra "head")))
  ((with_reducible rename Fr _ _ _ _ => F9); (with_reducible rename News _ _ _ _ => N9))
  refine ⟨g', gl, gvs, fun i m nw => Ex3 fun bs nb tl => Cj10 (nw = (na, listOf (refs bs).toArray nb) :: tl) (bs.length = i) (OwnOff tl [na]) ((∀ p ∈ tl, p.2.cls = .type "list")) ((∀ j b, bs[j]? = some b → Ex2 fun (ws : List Value) (n : Nat) => Cj2 ((b, listOf ws.toArray n) ∈ tl) (NumsAre ws (nearOf rs bd (gs.getD j []))))) (m (Str.ofString "near") = some (.ref na)) (m (Str.ofString "right") = some (.bool true)) (m (Str.ofString "guests") = some (.ref gl)) (m (Str.ofString "rooms") = some (.ref rl)) (m (Str.ofString "bound") = some (.int bd tbd)), _, _, _, gn, rfl, rfl, F9, fun p hp => N9 p (.tail _ hp), rfl, rfl, .inl hg1,
      ⟨[], 0, [], rfl, rfl, (fun p hp => nomatch hp), (fun p hp => nomatch hp), (fun j b e => by simp at e), rfl, rfl, rfl, rfl, rfl⟩, ?_, ?_⟩
  · intro i v m₁ news₁ h tk I oI hv hz9q hcI F₁ N₁ off
    refine absG fun G9 hG9 => ?_
    obtain ⟨bs, nb, tl, rfl, hbl, htl, htc, hbn, m1, m2, m3, m4, m5⟩ := hz9q
    clear F9 N9
    have b1 : @Ne Nat na I := off _ (.head _)
    have hi4 : i < 4 := by have := (List.getElem?_eq_some_iff.mp hv).1; omega
    have hgi : gs[i]? = some (gs.getD i []) := by rw [List.getD_eq_getElem?_getD, List.getElem?_eq_getElem (by first | (k_extra "clr"; omega) | omega)]; rfl
    refine gen (gs.getD i []) fun g hgd => ?_
    refine hG9 ?_; clear hG9
    rw [← hgd] at hgi
    obtain ⟨tv, rfl⟩ := hg3 i v g hv hgi
    have hgm : g ∈ gs := List.mem_of_getElem? hgi
    have hgl9 := hgl g hgm
    have hoff2 : OwnOff tl [na, I] := fun p hp b hb => by
      rcases List.mem_cons.mp hb with rfl | hb
      · exact htl p hp _ (.head _)
      · rw [List.mem_singleton.mp hb]; exact off p (.tail _ hp)
    dsimp only
    refine absT fun Q9 K9 => ?_
    repeat' (first | (k_unfold; (try dsimp only)) | (k_extra "mycall") | (k_extra "mystep") | (k_extra "no for"; (fail_if_success (with_reducible show wpAny _ _ (eval (PySem.Expr.IfExp _ _ _ _) _) _ _ _)); (fail_if_success (with_reducible show wpAny _ _ (call (Value.ref _) _ _) _ _ _)); (fail_if_success (with_reducible show wpAny _ _ (subscriptTail _ _ (Value.ref _) _) _ _ _)); k_extra "head"))
    ((with_reducible rename Fr _ _ _ _ => F9); (with_reducible rename News _ _ _ _ => N9))
    rename_i cb _ ll
    refine' append_K F9 N9 ?kU9 (fun h3 F3 N3 => ?_) ?kZ9
    (case kU9 => k_upd)
    (case kZ9 => simp only [refs, List.size_toArray, List.length_map, sizeLine_eq]; first | (k_extra "clr"; omega) | omega)
    clear F9 N9
    rw [List.push_toArray, ← refs_snoc'] at N3
    have tcb : OwnOff tl [cb] := fun p hp b hb => by rw [List.mem_singleton.mp hb]; exact Nat.ne_of_lt (allLt_mem ll.2.2 p hp)
    repeat' (first | (k_unfold; (try dsimp only)) | (k_extra "mycall") | (k_extra "mystep") | (k_extra "no for"; (fail_if_success (with_reducible show wpAny _ _ (eval (PySem.Expr.IfExp _ _ _ _) _) _ _ _)); (fail_if_success (with_reducible show wpAny _ _ (call (Value.ref _) _ _) _ _ _)); (fail_if_success (with_reducible show wpAny _ _ (subscriptTail _ _ (Value.ref _) _) _ _ _)); k_extra "head"))
    refine forR ?_
    repeat' (first | (k_unfold; (try dsimp only)) | (k_extra "mycall") | (k_extra "mystep") | (k_extra "no for"; (fail_if_success (with_reducible show wpAny _ _ (eval (PySem.Expr.IfExp _ _ _ _) _) _ _ _)); (fail_if_success (with_reducible show wpAny _ _ (call (Value.ref _) _ _) _ _ _)); (fail_if_success (with_reducible show wpAny _ _ (subscriptTail _ _ (Value.ref _) _) _ _ _)); k_extra "head"))
    ((with_reducible rename Fr _ _ _ _ => F9); (with_reducible rename News _ _ _ _ => N9))
    rename IsRange _ _ _ _ _ _ _ _ => hrg
    refine ⟨g', _, 0, 4, _, _, _, 4, fun k m nw => Ex2 fun ws nc => Cj8 (nw = (cb, listOf (List.toArray ws) nc) :: (I, oI) :: (na, listOf (refs (bs ++ [cb])).toArray (nb + 1)) :: tl) (NumsAre ws ((List.range k).filter fun k => decide (lev g (rs.getD k []) bd ≤ bd))) (m (Str.ofString "near") = some (.ref na)) (m (Str.ofString "right") = some (.bool true)) (m (Str.ofString "guests") = some (.ref gl)) (m (Str.ofString "rooms") = some (.ref rl)) (m (Str.ofString "bound") = some (.int bd tbd)) (m (Str.ofString "guest") = some (.str (S g) tv)), _, _, rfl, rfl, F9, N9, hrg, by decide +kernel, by decide +kernel, ⟨[], 0, rfl, .nil, m1, m2, m3, m4, m5, rfl⟩, ?_, ?_⟩
    · intro k tk2 m₁ news₁ h tk I2 oI2 hk hz9q hcI2 F₁ N₁ off2
      refine absG fun G9 hG9 => ?_
      obtain ⟨ws, nc, rfl, hws, m1, m2, m3, m4, m5, m6⟩ := hz9q
      clear F9 N9
      refine hG9 ?_; clear hG9
      rw [Int.zero_add]
      have c1 : @Ne Nat cb I2 := off2 _ (.head _)
      have c2 : @Ne Nat I I2 := off2 _ (.tail _ (.head _))
      have c3 : @Ne Nat na I2 := off2 _ (mem_at 2 rfl)
      have c4 : OwnOff tl [I2] := fun p hp b hb => by rw [List.mem_singleton.mp hb]; exact off2 p (mem_drop 3 hp)
      have hri : rs[k]? = some (rs.getD k []) := by rw [List.getD_eq_getElem?_getD, List.getElem?_eq_getElem (by first | (k_extra "clr"; omega) | omega)]; rfl
      refine gen (rs.getD k []) fun r hrd => ?_
      rw [← hrd] at hri
      have hvi : rvs[k]? = some (rvs.getD k .none) := by rw [List.getD_eq_getElem?_getD, List.getElem?_eq_getElem (by first | (k_extra "clr"; omega) | omega)]; rfl
      obtain ⟨tr, hrv⟩ := hr3 k _ r hvi hri
      rw [hrv] at hvi
      have hrm : r ∈ rs := List.mem_of_getElem? hri
      have hrl9 := hrl r hrm
      have hgo := hgood g hgm r hrm
      dsimp only
      refine absT fun Q9 K9 => ?_
      repeat' (first | (k_unfold; (try dsimp only)) | (k_extra "mycall") | (k_extra "mystep") | (k_extra "no for"; (fail_if_success (with_reducible show wpAny _ _ (eval (PySem.Expr.IfExp _ _ _ _) _) _ _ _)); (fail_if_success (with_reducible show wpAny _ _ (call (Value.ref _) _ _) _ _ _)); (fail_if_success (with_reducible show wpAny _ _ (subscriptTail _ _ (Value.ref _) _) _ _ _)); k_extra "head"))
      ((with_reducible rename Fr _ _ _ _ => F9); (with_reducible rename News _ _ _ _ => N9))
      refine sub_list ⟨_, F9.keep _ _ hr1, rfl, _, rfl⟩ hvi (by first | (k_extra "clr"; omega) | omega) ?_
      repeat' (first | (k_unfold; (try dsimp only)) | (k_extra "mycall") | (k_extra "mystep") | (k_extra "no for"; (fail_if_success (with_reducible show wpAny _ _ (eval (PySem.Expr.IfExp _ _ _ _) _) _ _ _)); (fail_if_success (with_reducible show wpAny _ _ (call (Value.ref _) _ _) _ _ _)); (fail_if_success (with_reducible show wpAny _ _ (subscriptTail _ _ (Value.ref _) _) _ _ _)); k_extra "head"))
      ((with_reducible rename Fr _ _ _ _ => F9); (with_reducible rename News _ _ _ _ => N9))
      refine' c_lev X' T' rfl ?e9 g r bd _ _ _ ?r9 hgl9 hrl9 ?_
      (case e9 => exact F9.keep)
      (case r9 => k_extra "room")
      intro t4 h4 tk4 e4
      have F4 := Mine.Fr.ext F9 e4
      have N4 := Mine.News.ext N9 e4
      clear F9 N9 e4
      refine gen (lev g r bd) fun L hL => ?_
      unfold goodP at hgo
      rw [← hL] at hgo ⊢
      (repeat' (first | (k_unfold; (try dsimp only)) | (k_extra "mycall") | (k_extra "mystep") | (k_extra "no for"; (fail_if_success (with_reducible show wpAny _ _ (eval (PySem.Expr.IfExp _ _ _ _) _) _ _ _)); k_extra "head")))
      ((with_reducible rename Fr _ _ _ _ => F9); (with_reducible rename News _ _ _ _ => N9))
      refine joinI (s := s) F9 N9 (fun v => ∃ t, v = .int (prOf g r) t) ?_ ?_
      · repeat' (first | (k_unfold; (try dsimp only)) | (k_extra "mycall") | (k_extra "mystep") | (k_extra "no for"; (fail_if_success (with_reducible show wpAny _ _ (call (Value.ref _) _ _) _ _ _)); (fail_if_success (with_reducible show wpAny _ _ (subscriptTail _ _ (Value.ref _) _) _ _ _)); k_extra "head"))
        ((with_reducible rename Fr _ _ _ _ => F9); (with_reducible rename News _ _ _ _ => N9))
        refine sub_list ⟨_, F9.keep _ _ hr1, rfl, _, rfl⟩ hvi (by first | (k_extra "clr"; omega) | omega) ?_
        repeat' (first | (k_unfold; (try dsimp only)) | (k_extra "mycall") | (k_extra "mystep") | (k_extra "no for"; (fail_if_success (with_reducible show wpAny _ _ (call (Value.ref _) _ _) _ _ _)); (fail_if_success (with_reducible show wpAny _ _ (subscriptTail _ _ (Value.ref _) _) _ _ _)); k_extra "head"))
        · ((with_reducible rename Fr _ _ _ _ => F9); (with_reducible rename News _ _ _ _ => N9))
          refine sub_list ⟨_, F9.keep _ _ hr1, rfl, _, rfl⟩ hvi (by first | (k_extra "clr"; omega) | omega) ?_
          repeat' (first | (k_unfold; (try dsimp only)) | (k_extra "mycall") | (k_extra "mystep") | (k_extra "no for"; (fail_if_success (with_reducible show wpAny _ _ (call (Value.ref _) _ _) _ _ _)); (fail_if_success (with_reducible show wpAny _ _ (subscriptTail _ _ (Value.ref _) _) _ _ _)); k_extra "head"))
          ((with_reducible rename Fr _ _ _ _ => F9); (with_reducible rename News _ _ _ _ => N9))
          refine' c_price X' T' rfl ?e9 g r _ _ ?r9 (by first | (k_extra "clr"; omega) | omega) (by first | (k_extra "clr"; omega) | omega) ?_
          (case e9 => exact F9.keep)
          (case r9 => k_extra "room")
          intro t5 h5 tk5 e5
          exact ⟨_, _, ⟨t5, by rw [prOf, if_pos (by first | (k_extra "clr"; omega) | omega)]⟩, rfl, Mine.Fr.ext F9 e5, Mine.News.ext N9 e5⟩
        · ((with_reducible rename Fr _ _ _ _ => F9); (with_reducible rename News _ _ _ _ => N9))
          refine sub_list ⟨_, F9.keep _ _ hr1, rfl, _, rfl⟩ hvi (by first | (k_extra "clr"; omega) | omega) ?_
          repeat' (first | (k_unfold; (try dsimp only)) | (k_extra "mycall") | (k_extra "mystep") | (k_extra "no for"; (fail_if_success (with_reducible show wpAny _ _ (call (Value.ref _) _ _) _ _ _)); (fail_if_success (with_reducible show wpAny _ _ (subscriptTail _ _ (Value.ref _) _) _ _ _)); k_extra "head"))
          ((with_reducible rename Fr _ _ _ _ => F9); (with_reducible rename News _ _ _ _ => N9))
          refine' c_price X' T' rfl ?e9 r g _ _ ?r9 (by first | (k_extra "clr"; omega) | omega) (by first | (k_extra "clr"; omega) | omega) ?_
          (case e9 => exact F9.keep)
          (case r9 => k_extra "room")
          intro t5 h5 tk5 e5
          exact ⟨_, _, ⟨t5, by rw [prOf, if_neg (by first | (k_extra "clr"; omega) | omega)]⟩, rfl, Mine.Fr.ext F9 e5, Mine.News.ext N9 e5⟩
      rintro v5 h5 tk5 ⟨t5, rfl⟩ F5 N5 _
      clear F9 N9
      refine gen (prOf g r) fun D hD => ?_
      rw [← hD] at hgo ⊢
      repeat' (first | (k_unfold; (try dsimp only)) | (k_extra "mycall") | (k_extra "mystep") | (k_extra "no for"; (fail_if_success (with_reducible show wpAny _ _ (eval (PySem.Expr.IfExp _ _ _ _) _) _ _ _)); (fail_if_success (with_reducible show wpAny _ _ (call (Value.ref _) _ _) _ _ _)); (fail_if_success (with_reducible show wpAny _ _ (subscriptTail _ _ (Value.ref _) _) _ _ _)); k_extra "head"))
      ((with_reducible rename Fr _ _ _ _ => F9); (with_reducible rename News _ _ _ _ => N9))
      refine' c_le X' T' rfl ?e9 ?r9 _ _ _ _ ?_
      (case e9 => exact F9.keep)
      (case r9 => k_extra "room")
      intro h6 tk6 e6
      have F6 := Mine.Fr.ext F9 e6
      have N6 := Mine.News.ext N9 e6
      clear F9 N9 e6
      by_cases hw : L ≤ bd
      · rw [decide_eq_true hw]
        have hDb := decide_eq_true (hgo.1.mp hw)
        have hLD := hgo.2 hw
        (repeat' (first | (k_unfold; (try dsimp only)) | (k_extra "mycall") | (k_extra "mystep") | (k_extra "no for"; (fail_if_success (with_reducible show wpAny _ _ (exec (Stmt.If _ _ _ _) _) _ _ _)); k_extra "head")))
        ((with_reducible rename Fr _ _ _ _ => F9); (with_reducible rename News _ _ _ _ => N9))
        refine joinF (s := s) F9 N9 ?_ ?_
        · repeat' (first | (k_unfold; (try dsimp only)) | (k_extra "mycall") | (k_extra "mystep") | (k_extra "no for"; k_extra "head"))
          all_goals (((with_reducible rename Fr _ _ _ _ => F9); (with_reducible rename News _ _ _ _ => N9)); first | exact ⟨_, _, rfl, rfl, F9, N9⟩ | (exfalso; rename _ ≠ _ => q9; exact q9 hLD) | (exfalso; rename (_ != _) = _ => q9; rw [hDb] at q9; cases q9))
        intro h7 tk7 F7 N7
        clear F9 N9
        repeat' (first | (k_unfold; (try dsimp only)) | (k_extra "mycall") | (k_extra "mystep") | (k_extra "no for"; (fail_if_success (with_reducible show wpAny _ _ (subscriptTail _ _ (Value.ref _) _) _ _ _)); k_extra "head"))
        ((with_reducible rename Fr _ _ _ _ => F9); (with_reducible rename News _ _ _ _ => N9))
        refine last_list (v := .ref cb) ⟨_, (N9 _ (mem_at 3 rfl)).1, rfl, _, rfl⟩ (by simp [refs]) ?_
        repeat' (first | (k_unfold; (try dsimp only)) | (k_extra "mycall") | (k_extra "mystep") | (k_extra "no for"; (fail_if_success (with_reducible show wpAny _ _ (subscriptTail _ _ (Value.ref _) _) _ _ _)); k_extra "head"))
        ((with_reducible rename Fr _ _ _ _ => F9); (with_reducible rename News _ _ _ _ => N9))
        have hwl : ws.length ≤ 4 := by
          have h1 := IntsAre.length hws
          have h2 := List.length_filter_le (fun k => decide (lev g (rs.getD k []) bd ≤ bd)) (List.range k)
          simp only [nums, List.length_map, List.length_range] at h1 h2
          omega
        refine' append_K F9 N9 ?kU9 (fun h3 F3 N3 => ?_) ?kZ9
        (case kU9 => k_upd)
        (case kZ9 => rw [List.size_toArray, sizeLine_eq]; first | (k_extra "clr"; omega) | omega)
        clear F9 N9
        rw [List.push_toArray] at N3
        repeat' (first | (k_unfold; (try dsimp only)) | (k_extra "mycall") | (k_extra "mystep") | (k_extra "no for"; (fail_if_success (with_reducible show wpAny _ _ (subscriptTail _ _ (Value.ref _) _) _ _ _)); k_extra "head"))
        ((with_reducible rename Fr _ _ _ _ => F9); (with_reducible rename News _ _ _ _ => N9))
        refine K9 _ _ ⟨_, _, _, _, rfl, F9, N9, off_same (by rfl) off2, _, _, rfl, ?_, m1, m2, m3, m4, m5, m6⟩
        rw [take_range k hk, if_pos (by rw [← hrd, ← hL]; simpa using hw)]
        exact hws.snoc k _
      · rw [decide_eq_false hw]
        have hDb := decide_eq_false fun q => hw (hgo.1.mpr q)
        (repeat' (first | (k_unfold; (try dsimp only)) | (k_extra "mycall") | (k_extra "mystep") | (k_extra "no for"; (fail_if_success (with_reducible show wpAny _ _ (exec (Stmt.If _ _ _ _) _) _ _ _)); k_extra "head")))
        ((with_reducible rename Fr _ _ _ _ => F9); (with_reducible rename News _ _ _ _ => N9))
        refine joinF (s := s) F9 N9 ?_ ?_
        · repeat' (first | (k_unfold; (try dsimp only)) | (k_extra "mycall") | (k_extra "mystep") | (k_extra "no for"; k_extra "head"))
          all_goals (((with_reducible rename Fr _ _ _ _ => F9); (with_reducible rename News _ _ _ _ => N9)); first | exact ⟨_, _, rfl, rfl, F9, N9⟩ | (exfalso; rename (_ != _) = _ => q9; rw [hDb] at q9; cases q9))
        intro h7 tk7 F7 N7
        clear F9 N9
        repeat' (first | (k_unfold; (try dsimp only)) | (k_extra "mycall") | (k_extra "mystep") | (k_extra "no for"; (fail_if_success (with_reducible show wpAny _ _ (subscriptTail _ _ (Value.ref _) _) _ _ _)); k_extra "head"))
        ((with_reducible rename Fr _ _ _ _ => F9); (with_reducible rename News _ _ _ _ => N9))
        refine K9 _ _ ⟨_, _, _, _, rfl, F9, N9, off2, ws, nc, rfl, ?_, m1, m2, m3, m4, m5, m6⟩
        rw [take_range k hk, if_neg (by rw [← hrd, ← hL]; simpa using hw), List.append_nil]
        exact hws
    · intro m₁ news₁ h tk hz4q F₁ N₁
      refine absG fun G9 hG9 => ?_
      obtain ⟨ws, nc, rfl, hws, m1, m2, m3, m4, m5, m6⟩ := hz4q
      clear F9 N9
      refine hG9 ?_; clear hG9
      (repeat' (first | (k_unfold; (try dsimp only)) | (k_extra "mycall") | (k_extra "mystep") | (k_extra "no for"; k_extra "head")))
      ((with_reducible rename Fr _ _ _ _ => F9); (with_reducible rename News _ _ _ _ => N9))
      refine K9 _ _ ⟨_, _, _, (na, listOf (refs (bs ++ [cb])).toArray (nb + 1)) :: (cb, listOf ws.toArray nc) :: tl, rfl, F9, fun p hp => ?_, fun p hp => ?_, bs ++ [cb], nb + 1, (cb, listOf ws.toArray nc) :: tl, rfl, by rw [List.length_append, hbl]; rfl, fun p hp b hb => ?_, fun p hp => ?_, fun j b hj => ?_, m1, m2, m3, m4, m5⟩
      · rcases List.mem_cons.mp hp with rfl | hp
        · exact N9 _ (.tail _ (.head _))
        rcases List.mem_cons.mp hp with rfl | hp
        · exact N9 _ (mem_at 2 rfl)
        rcases List.mem_cons.mp hp with rfl | hp
        · exact N9 _ (.head _)
        · exact N9 _ (mem_drop 3 hp)
      · rcases List.mem_cons.mp hp with rfl | hp
        · exact b1
        rcases List.mem_cons.mp hp with rfl | hp
        · exact (Nat.ne_of_lt ll.1).symm
        · exact off p (.tail _ hp)
      · rcases List.mem_cons.mp hp with rfl | hp
        · rw [List.mem_singleton.mp hb]; exact (Nat.ne_of_lt ll.2.1).symm
        · exact htl p hp b hb
      · rcases List.mem_cons.mp hp with rfl | hp
        · rfl
        · exact htc p hp
      · rw [List.getElem?_append] at hj
        split at hj
        · obtain ⟨ws', n', e1, e2⟩ := hbn j b hj
          exact ⟨ws', n', .tail _ e1, e2⟩
        · rename_i hlt
          have hlt2 := (List.getElem?_eq_some_iff.mp hj).1
          have hji : j = i := by simp only [List.length_singleton] at hlt2; omega
          rw [show j - bs.length = 0 by omega] at hj
          cases hj
          refine ⟨ws, nc, .head _, ?_⟩
          rw [hji, ← hgd]
          exact hws
  · intro m₁ news₁ h tk hz4q F₁ N₁
    refine absG fun G9 hG9 => ?_
    obtain ⟨bs, nb, tl, rfl, hbl, htl, htc, hbn, m1, m2, m3, m4, m5⟩ := hz4q
    clear F9 N9
    refine hG9 ?_; clear hG9
    (repeat' (first | (k_unfold; (try dsimp only)) | (k_extra "mycall") | (k_extra "mystep") | (k_extra "no for"; k_extra "head")))
    ((with_reducible rename Fr _ _ _ _ => F9); (with_reducible rename News _ _ _ _ => N9))
    ((repeat' (first | k_unfold | dsimp only)))
    refine ret _ na _ _ _ _ ((na, listOf (refs bs).toArray nb) :: tl) (ext_of G' F9) (N9 _ (.head _)).1 rfl rfl (fun p hp => ⟨(N9 _ (.tail _ hp)).1, new_of G' (N9 _ (.tail _ hp)).2.2 (by simp), ?_⟩) (fun h2 k2 => ?_) (new_of G' (N9 _ (.head _)).2.2 (by simp))
    · rcases List.mem_cons.mp hp with rfl | hp
      · rfl
      · exact htc p hp
    · refine ⟨_, nb, k2 _ (.head _), by rw [refs, List.length_map, List.length_map, hbl, hg2], fun j v ks hj hk => ?_⟩
      rw [refs, List.getElem?_map] at hj
      rw [List.getElem?_map] at hk
      cases ej : bs[j]? with
      | none => rw [ej] at hj; cases hj
      | some b =>
        rw [ej] at hj; cases hj
        refine absG fun G9 hG9 => ?_
        obtain ⟨ws, n', e1, e2⟩ := hbn j b ej
        refine hG9 ?_; clear hG9
        refine ⟨b, ws, n', rfl, k2 _ (.tail _ e1), ?_⟩
        cases eg : gs[j]? with
        | none => rw [eg] at hk; cases hk
        | some g =>
          rw [eg] at hk; cases hk
          rw [List.getD_eq_getElem?_getD, eg] at e2
          exact e2

inductive LackJ (L nrl : Addr) (f : Nat → List Nat) (i : Nat) (m : Str → Option Value) (nw : List (Addr × Obj)) : Prop
  | in1 (o4 o3 o2 o1 : Obj) (v4 v3 : Option Value) (t2 t0 : Tok) (e : nw = [(L + 1 + 1 + 1 + 1, o4), (L + 1 + 1 + 1, o3), (L + 1 + 1, o2), (L + 1, o1)]) (d4 : o4.data = .cell v4) (d3 : o3.data = .cell v3)
    (d2 : o2.data = .cell (some (.int ((lackL f i).2 : Nat) t2))) (d1 : o1.data = .cell (some (.ref nrl))) (hm : m (Str.ofString "most") = some (.int (lackL f i).1 t0)) : LackJ L nrl f i m nw
theorem bit_int : ∀ c, c < 16 → ∀ k, k < 4 → ((Int.fmod (Int.fdiv ((c : Nat) : Int) ((2 : Int) ^ k)) 2 = 1) ↔ bitc c k = true) := by decide +kernel
theorem n34 (L : Nat) : @Ne Nat (L + 1 + 1 + 1) (L + 1 + 1 + 1 + 1) := by omega
theorem n24 (L : Nat) : @Ne Nat (L + 1 + 1) (L + 1 + 1 + 1 + 1) := by omega
theorem n14 (L : Nat) : @Ne Nat (L + 1) (L + 1 + 1 + 1 + 1) := by omega
theorem take_filter {l : List Nat} {i k : Nat} (h : l[i]? = some k) (p : Nat → Bool) : (l.take (i + 1)).filter p = (l.take i).filter p ++ (if p k then [k] else []) := by
  rw [List.take_add_one, h, List.filter_append]; congr 1; simp [List.filter_cons]
theorem nb_nil {f : Nat → List Nat} {S : Nat → Bool} {r : Nat} : (((List.range 4).filter S).filter fun k => (f k).contains r) = [] ↔ nb f S r = false := by
  rw [List.filter_filter, List.filter_eq_nil_iff, Bool.eq_false_iff]
  constructor
  · intro h q
    refine absG fun G9 hG9 => ?_
    obtain ⟨g, a, b, c⟩ := nb_at q
    refine hG9 ?_; clear hG9
    exact h g (List.mem_range.mpr a) (by rw [b, Bool.and_true]; exact List.contains_iff_mem.mpr c)
  · intro h a ha q
    rw [Bool.and_eq_true] at q
    exact h (nb_of (List.mem_range.mp ha) q.2 (List.contains_iff_mem.mp q.1))
theorem and_int : ∀ a, a < 16 → ∀ b, b < 16 → Builtin.bitAnd ((a : Nat) : Int) ((b : Nat) : Int) = ((a &&& b : Nat) : Int) := by decide +kernel
set_option hygiene false
theorem c_lack {w : World} {loose : List Str} {mean : ExcName → Option Value} {mg mb : Str → Option Value} {ht : Heap} (X : (Mine.hd.heap_1 w.params).In ht) (T : Top Mine.hd.view_1 loose mean mg mb ht) {A : Around} (hA : A.handled = none) {s : Shared} (ek : ht.StaysIn s.heap) {Q E : Value → Shared → Prop} (hroom : A.depth + 10 < recursionLimit) (hun : A.units + 100 < cLine) {nrl : Addr} {nn : List (List Nat)} (NN : NearAt s.heap nrl nn) (hnn : nn.length = 4) (hnk : ∀ ks ∈ nn, ∀ k ∈ ks, k < 4) (hnl : ∀ ks ∈ nn, ks.length < 20)
    (ret : ∀ T ca vs o n' h' tk' t, Ext [] s.heap h' → h'.get? T = some o → o.cls = .type "tuple" → o.data = .seq #[.int (lackL (fun j => nn.getD j []) 16).1 t, .ref ca] n' → h'.get? ca = some (LCg.lst vs) → NumsAre vs (commonT fun j => nn.getD j []) → s.heap.get? T = none → s.heap.get? ca = none → Q (.ref T) { s with heap := h', toks := tk' }) :
    wpAny (model PySem.Challenge.rw_ti0061_01.prog w) A (call (.ref 277) [.ref nrl] []) Q E s := by
  ((revert X; k_fill; intro X; obtain ⟨hh, dp, fr, gd, un⟩ := A; cases hA; (dsimp only at hroom)))
  dsimp only at hun
  refine' callMC [] ?k1 ?k2 ?k3 ?k4 ?k6 ?k7 ?k8 ?k9 ?kB ?kD ?_ ?c2 ?c3 ?c4
  (case k4 => ((intro q h9; exact nomatch h9)))
  ((case k1 => assumption); (case k2 => assumption); (case k3 => assumption); (case k6 => k_is); (case k7 => k_is); (case k8 => k_extra "room"); (case k9 => first | exact BindsTo.of_eq rfl | exact binds_K (Frag.In.keeps (by assumption) (by assumption)) rfl (by k_is) rfl rfl rfl); (case kB => exact rfl); (case kD => decide +kernel); (case c2 => exact rfl); (case c3 => exact rfl); (case c4 => exact rfl))
  ((intro g' L' h' tk' cells' F' N' Y' X' T' G' st' l' l1'; (try k_lt l1'); k_cells Y'; (try simp only [List.cons_append, List.nil_append] at N'); (try dsimp only); (try k_fold)))
  rename_i oC4 oC3 oC2 oC1 d4 d3 d2 d1
  have gro : ∀ b o, s.heap.get? b = some o → o.cls = .type "list" → g'.get? b = some o := fun b o e _ => G' b o e (by simp)
  refine absG fun G9 hG9 => ?_
  obtain ⟨nvs, nnn, hn1, hn4, hnr⟩ := NN.mono gro
  refine hG9 ?_; clear hG9
  (repeat' (first | (k_unfold; (try dsimp only)) | (k_extra "mycall") | (k_extra "mystep") | (k_extra "no for"; k_extra "head")))
  ((with_reducible rename Fr _ _ _ _ => F9); (with_reducible rename News _ _ _ _ => N9))
  rename_i oM dM
  refine forR ?_
  (repeat' (first | (k_unfold; (try dsimp only)) | (k_extra "mycall") | (k_extra "mystep") | (k_extra "no for"; k_extra "head")))
  ((with_reducible rename Fr _ _ _ _ => F9); (with_reducible rename News _ _ _ _ => N9))
  rename IsRange _ _ _ _ _ _ _ _ => hrg
  refine ⟨g', _, 0, 16, _, _, _, 16, LackJ L' nrl (fun j => nn.getD j []), _, [(L' + 1 + 1 + 1 + 1, oC4), (L' + 1 + 1 + 1, oC3), (L' + 1 + 1, oM), (L' + 1, oC1)], rfl, rfl, F9, fun p hp => N9 p (.tail _ hp), hrg, by decide +kernel, by decide +kernel, ⟨oC4, oC3, oM, oC1, none, none, _, _, rfl, d4, d3, dM, d1, rfl⟩, ?_, ?_⟩
  · intro c tkc m₁ news₁ h tk I oI hc hz9q hcI F₁ N₁ off
    refine absG fun G9 hG9 => ?_
    obtain ⟨oC4, oC3, oM, oC1, v4, v3, tm, t0, rfl, d4, d3, dM, d1, m1⟩ := hz9q
    clear F9 N9
    refine hG9 ?_; clear hG9
    rw [Int.zero_add]
    have b1 : @Ne Nat (L' + 1 + 1 + 1 + 1) I := off _ (.head _)
    have b2 : @Ne Nat (L' + 1 + 1 + 1) I := off _ (.tail _ (.head _))
    have b3 : @Ne Nat (L' + 1 + 1) I := off _ (mem_at 2 rfl)
    have b4 : @Ne Nat (L' + 1) I := off _ (mem_at 3 rfl)
    dsimp only at d4 d3 dM d1 m1 N₁ ⊢
    refine absT fun Q9 K9 => ?_
    (repeat' (first | (k_unfold; (try dsimp only)) | (k_extra "mycall") | (k_extra "mystep") | (k_extra "no for"; k_extra "head")))
    ((with_reducible rename Fr _ _ _ _ => F9); (with_reducible rename News _ _ _ _ => N9))
    rename_i oH dH
    refine wpAny_Assign_Name ?_ (by with_unfolding_all rfl)
    refine compE F9 (by with_unfolding_all rfl) (by decide) (by rfl) (by decide) ?_
    (repeat' (first | (k_unfold; (try dsimp only)) | (k_extra "mycall") | (k_extra "mystep") | (k_extra "no for"; k_extra "head")))
    ((with_reducible rename Fr _ _ _ _ => F9); (with_reducible rename News _ _ _ _ => N9))
    rename IsRange _ _ _ _ _ _ _ _ => hr2
    refine .inr ⟨_, 0, 4, _, _, _, 4, _, fun v m => m (Str.ofString "k") = some v, fun i tk ys nw => nw = [(I, oI), (L' + 1 + 1 + 1 + 1, oC4), (L' + 1 + 1 + 1, oH), (L' + 1 + 1, oM), (L' + 1, oC1)] ∧ NumsAre ys ((List.range i).filter (bitc c)), rfl, rfl, F9, N9, hr2, by decide +kernel, by decide +kernel, by decide, ?_, ?_, ?_, ?_⟩
    · rintro i tk ys nw ⟨_, S⟩
      have h1 := IntsAre.length S
      have h2 := List.length_filter_le (bitc c) (List.range i)
      simp only [nums, List.length_map, List.length_range] at h1 h2
      omega
    · exact fun tk h => ⟨rfl, .nil⟩
    · rintro s₂ ⟨hs2, rfl⟩
      constructor
      · intro i t hi
        exact asgName rfl rfl _
      · intro i v tk₀ tk ys nw I2 oI2 D C oC m₂ h E' hi hz15q hz16q htk hNs hKV F₁ N₁ off2 ne
        refine absG fun G9 hG9 => ?_
        obtain ⟨tv, rfl⟩ := hz15q
        obtain ⟨rfl, S⟩ := hz16q
        clear F9 N9
        refine hG9 ?_; clear hG9
        rw [Int.zero_add] at hKV
        refine TestM.one ?_
        dsimp only
        (repeat' (first | (k_unfold; (try dsimp only)) | (k_extra "mycall") | (k_extra "mystep") | (k_extra "no for"; k_extra "head")))
        · ((with_reducible rename Fr _ _ _ _ => F9); (with_reducible rename News _ _ _ _ => N9))
          rename (_ = (1 : Int)) => hb
          refine ⟨_, _, _, rfl, F9, N9, off2, rfl, ?_⟩
          rw [take_range i hi, if_pos ((bit_int c hc i hi).mp hb)]
          exact S.snoc i tv
        · ((with_reducible rename Fr _ _ _ _ => F9); (with_reducible rename News _ _ _ _ => N9))
          rename (_ ≠ (1 : Int)) => hb
          refine ⟨_, _, _, rfl, F9, N9, off2, rfl, ?_⟩
          rw [take_range i hi, if_neg (fun q => hb ((bit_int c hc i hi).mpr q)), List.append_nil]
          exact S
    · rintro D tk₀ tk ys nw h ⟨rfl, S⟩ htk F₁ N₁ off2
      clear F9 N9
      have F9 : Fr g' L' h m₁ := F₁
      clear F₁
      have e0 : @Ne Nat D I := fun q => off2 _ (.head _) (List.mem_singleton.mpr q.symm)
      have e1 : @Ne Nat D (L' + 1 + 1 + 1 + 1) := fun q => off2 _ (.tail _ (.head _)) (List.mem_singleton.mpr q.symm)
      have e2 : @Ne Nat D (L' + 1 + 1 + 1) := fun q => off2 _ (mem_at 2 rfl) (List.mem_singleton.mpr q.symm)
      have e3 : @Ne Nat D (L' + 1 + 1) := fun q => off2 _ (mem_at 3 rfl) (List.mem_singleton.mpr q.symm)
      have e4 : @Ne Nat D (L' + 1) := fun q => off2 _ (mem_at 4 rfl) (List.mem_singleton.mpr q.symm)
      have hys : ys.length ≤ 4 := by
        have h1 := IntsAre.length S
        have h2 := List.length_filter_le (bitc c) (List.range 4)
        simp only [nums, List.length_map, List.length_range] at h1 h2
        omega
      dsimp only
      (repeat' (first | (k_unfold; (try dsimp only)) | (k_extra "mycall") | (k_extra "mystep") | (k_extra "no for"; k_extra "head")))
      ((with_reducible rename Fr _ _ _ _ => F9); (with_reducible rename News _ _ _ _ => N9))
      rename_i oS dS
      refine compX (x := Str.ofString "room") F9 (by with_unfolding_all rfl) (fun _ => rfl) (fun _ => rfl) (by rfl) (by with_unfolding_all rfl) (by decide) ?_
      (repeat' (first | (k_unfold; (try dsimp only)) | (k_extra "mycall") | (k_extra "mystep") | (k_extra "no for"; k_extra "head")))
      ((with_reducible rename Fr _ _ _ _ => F9); (with_reducible rename News _ _ _ _ => N9))
      rename IsRange _ _ _ _ _ _ _ _ => hr3
      refine ⟨_, 0, 4, _, _, _, 4, _, fun i tk zs nw => nw = [(D, LCg.lst ys), (I, oI), (L' + 1 + 1 + 1 + 1, oS), (L' + 1 + 1 + 1, oH), (L' + 1 + 1, oM), (L' + 1, oC1)] ∧ NumsAre zs ((List.range i).filter (nb (fun j => nn.getD j []) (bitc c))), rfl, rfl, F9, N9, hr3, by decide +kernel, by decide +kernel, by decide, ?_, ?_, ?_, ?_⟩
      · rintro i tk zs nw ⟨_, S2⟩
        have h1 := IntsAre.length S2
        have h2 := List.length_filter_le (nb (fun j => nn.getD j []) (bitc c)) (List.range i)
        simp only [nums, List.length_map, List.length_range] at h1 h2
        omega
      · exact fun tk h => ⟨rfl, .nil⟩
      · intro s₂ hz1q r v tk₀ tk zs nw I2 oI2 D2 C oC cc occ m₂ h E' hr hz19q hz20q htk hNs hcd F₁ N₁ off3 hz27q
        refine absG fun G9 hG9 => ?_
        obtain ⟨hs3, rfl⟩ := hz1q
        obtain ⟨tv, rfl⟩ := hz19q
        obtain ⟨rfl, S2⟩ := hz20q
        obtain ⟨ne1, ne2, ne3, ne4, ne5, ne6, ne7⟩ := hz27q
        clear F9 N9
        refine hG9 ?_; clear hG9
        rw [Int.zero_add] at hcd
        refine TestM.one ?_
        dsimp only
        have oo : ∀ p ∈ [(D, LCg.lst ys), (I, oI), (L' + 1 + 1 + 1 + 1, oS), (L' + 1 + 1 + 1, oH), (L' + 1 + 1, oM), (L' + 1, oC1)], p.1 ≠ C := fun p hp q => off3 p hp (by rw [q]; exact .tail _ (.tail _ (.head _)))
        refine absG fun G9 hG9 => ?_
        obtain ⟨oL, hL, F2, N2⟩ := into (nw' := [(I2, oI2), (D2, LCg.lst zs), (cc, occ), (D, LCg.lst ys), (I, oI), (L' + 1 + 1 + 1 + 1, oS), (L' + 1 + 1 + 1, oH), (L' + 1 + 1, oM), (L' + 1, oC1)]) F₁ N₁ (mem_at 2 rfl) hNs ne7 ((fa_cons (⟨.head _, ne1⟩) (fa_cons (⟨.tail _ (.head _), Ne.symm ne3⟩) (fa_cons (⟨.tail _ (mem_at 2 rfl), Ne.symm ne6⟩) (fun p hp => ⟨.tail _ (mem_drop 3 hp), oo p hp⟩)))))
        have ha := F₁.above
        have NL : Hid (News _ _ _ _) := N₁
        refine hG9 ?_; clear hG9
        clear F₁ N₁
        (repeat' (first | (k_unfold; (try dsimp only)) | (k_extra "mycall") | (k_extra "mystep") | (k_extra "no for"; k_extra "head")))
        ((with_reducible rename Fr _ _ _ _ => F9); (with_reducible rename News _ _ _ _ => N9))
        refine compE F9 (by with_unfolding_all rfl) (by decide) (by rfl) (by decide) ?_
        (repeat' (first | (k_unfold; (try dsimp only)) | (k_extra "mycall") | (k_extra "mystep") | (k_extra "no for"; k_extra "head")))
        ((with_reducible rename Fr _ _ _ _ => F9); (with_reducible rename News _ _ _ _ => N9))
        refine .inl ⟨D, ys, _, LCg.lst ys, ys.length, fun v m => m (Str.ofString "k") = some v, fun i tk ks nw => nw = [(L', oL), (I2, oI2), (D2, LCg.lst zs), (cc, occ), (D, LCg.lst ys), (I, oI), (L' + 1 + 1 + 1 + 1, oS), (L' + 1 + 1 + 1, oH), (L' + 1 + 1, oM), (L' + 1, oC1)] ∧ ks.length ≤ i ∧ NumsAre ks ((((List.range 4).filter (bitc c)).take i).filter fun k => (nn.getD k []).contains r), rfl, rfl, F9, N9, rfl, rfl, .inr ⟨.tail _ (mem_at 3 rfl), ?_⟩, ?_, ?_, ?_, ?_, ?_⟩
        · rintro i tk ks nw ⟨rfl, _⟩
          exact .tail _ (mem_at 3 rfl)
        · exact Nat.le_trans hys (by decide)
        · exact fun i tk ks nw h => h.2.1
        · exact fun tk h => ⟨rfl, Nat.le_refl _, .nil⟩
        · rintro s₃ ⟨hs4, rfl⟩
          constructor
          · intro i v hi
            exact asgName rfl rfl _
          · intro i v tk₀ tk ks nw I3 oI3 D3 C3 oC3 m₃ h E' hi hv hz16q htk hNs3 hKV F₁ N₁ off4 ne4
            refine absG fun G9 hG9 => ?_
            obtain ⟨rfl, hkl, S3⟩ := hz16q
            clear F9 N9
            obtain ⟨k, tk3, rfl, hki⟩ := S.item hv
            have hk4 : k < 4 := List.mem_range.mp (List.mem_filter.mp (List.mem_of_getElem? hki)).1
            have hks : nn[k]? = some (nn.getD k []) := by rw [List.getD_eq_getElem?_getD, List.getElem?_eq_getElem (by omega)]; rfl
            obtain ⟨kv, hkv⟩ : ∃ v, nvs[k]? = some v:= ⟨_, List.getElem?_eq_getElem (by omega)⟩
            obtain ⟨b, ws, n', rfl, hb1, hb2⟩ := hnr k _ _ hkv hks
            have hwl : ws.length < 20 := by
              have h1 := IntsAre.length hb2
              have h2 := hnl _ (List.mem_of_getElem? hks)
              simp only [nums, List.length_map] at h1
              omega
            have hbl : h.IsList b ws.toArray := ⟨_, F₁.keep _ _ hb1, rfl, _, rfl⟩
            refine hG9 ?_; clear hG9
            refine TestM.one ?_
            dsimp only
            repeat' (first | (k_unfold; (try dsimp only)) | (k_extra "mycall") | (k_extra "mystep") | (k_extra "no for"; (fail_if_success (with_reducible show wpAny _ _ (subscriptTail _ _ (Value.ref _) _) _ _ _)); k_extra "head"))
            ((with_reducible rename Fr _ _ _ _ => F9); (with_reducible rename News _ _ _ _ => N9))
            refine sub_list ⟨_, F9.keep _ _ hn1, rfl, _, rfl⟩ hkv (by omega) ?_
            repeat' (first | (k_unfold; (try dsimp only)) | (k_extra "mycall") | (k_extra "mystep") | (k_extra "no for"; (fail_if_success (with_reducible show wpAny _ _ (subscriptTail _ _ (Value.ref _) _) _ _ _)); k_extra "head"))
            · ((with_reducible rename Fr _ _ _ _ => F9); (with_reducible rename News _ _ _ _ => N9))
              rename (_ = true) => hin
              rw [any_nums] at hin
              refine ⟨_, _, _, rfl, F9, N9, off4, rfl, by rw [List.length_append]; exact Nat.succ_le_succ hkl, ?_⟩
              rw [take_filter hki, if_pos hin]
              exact S3.snoc k tk3
            · ((with_reducible rename Fr _ _ _ _ => F9); (with_reducible rename News _ _ _ _ => N9))
              rename (_ = false) => hin
              rw [any_nums] at hin
              refine ⟨_, _, _, rfl, F9, N9, off4, rfl, Nat.le_succ_of_le hkl, ?_⟩
              rw [take_filter hki, if_neg (by rw [hin]; decide), List.append_nil]
              exact S3
        · intro D3 tk₀ tk ks nw h hz6q htk F₁ N₁ off4
          refine absG fun G9 hG9 => ?_
          obtain ⟨rfl, hkl, S3⟩ := hz6q
          clear F9 N9
          have F9 : Fr g' C h m₂ := F₁
          refine hG9 ?_; clear hG9
          clear F₁
          have hkl4 : ks.length ≤ 4 := by omega
          dsimp only
          have hT : ((List.range 4).filter (bitc c)).take ys.length = (List.range 4).filter (bitc c) := List.take_of_length_le (by have h1 := IntsAre.length S; simp only [nums, List.length_map] at h1; omega)
          rw [hT] at S3
          refine gen (((List.range 4).filter (bitc c)).filter fun k => (nn.getD k []).contains r) fun X3 hX3 => ?_
          rw [← hX3] at S3
          (repeat' (first | (k_unfold; (try dsimp only)) | (k_extra "mycall") | (k_extra "mystep") | (k_extra "no for"; k_extra "head")))
          · ((with_reducible rename Fr _ _ _ _ => F9); (with_reducible rename News _ _ _ _ => N9))
            rename (_ = true) => hin
            refine absG fun G9 hG9 => ?_
            obtain ⟨F5, oC5, hN5, hC5⟩ := back F9 N9 (mem_at 2 rfl) hL ha
            refine hG9 ?_; clear hG9
            refine ⟨[(C, oC5), (cc, occ)], _, _, _, ⟨oC5, m₂, occ, _, rfl, hN5, hcd⟩, rfl, rfl, F5, ret_news N9 NL hC5 ⟨_, .tail _ (.tail _ (.head _))⟩ (fun p hp => ?_), off3, rfl, ?_⟩
            · rcases List.mem_cons.mp hp with rfl | hp
              · exact .inr ⟨.tail _ (mem_at 2 rfl), .head _⟩
              rcases List.mem_cons.mp hp with rfl | hp
              · exact .inr ⟨.tail _ (mem_at 3 rfl), .tail _ (.head _)⟩
              rcases List.mem_cons.mp hp with rfl | hp
              · exact .inl rfl
              · exact .inr ⟨.tail _ (mem_drop 4 hp), .tail _ (.tail _ (.tail _ hp))⟩
            · have h0 : X3 = [] := List.map_eq_nil_iff.mp (of_decide_eq_true hin)
              rw [hX3] at h0
              rw [take_range r hr, if_neg (by rw [nb_nil.mp h0]; decide), List.append_nil]
              exact S2
          · ((with_reducible rename Fr _ _ _ _ => F9); (with_reducible rename News _ _ _ _ => N9))
            rename (_ = false) => hin
            refine absG fun G9 hG9 => ?_
            obtain ⟨F5, oC5, hN5, hC5⟩ := back F9 N9 (mem_at 2 rfl) hL ha
            refine hG9 ?_; clear hG9
            refine ⟨[(C, oC5), (cc, occ)], _, _, _, ⟨oC5, m₂, occ, _, rfl, hN5, hcd⟩, rfl, rfl, F5, ret_news N9 NL hC5 ⟨_, .tail _ (.tail _ (.head _))⟩ (fun p hp => ?_), off3, rfl, ?_⟩
            · rcases List.mem_cons.mp hp with rfl | hp
              · exact .inr ⟨.tail _ (mem_at 2 rfl), .head _⟩
              rcases List.mem_cons.mp hp with rfl | hp
              · exact .inr ⟨.tail _ (mem_at 3 rfl), .tail _ (.head _)⟩
              rcases List.mem_cons.mp hp with rfl | hp
              · exact .inl rfl
              · exact .inr ⟨.tail _ (mem_drop 4 hp), .tail _ (.tail _ (.tail _ hp))⟩
            · have h0 : nb (fun j => nn.getD j []) (bitc c) r = true := by
                cases q : nb (fun j => nn.getD j []) (bitc c) r with
                | true => rfl
                | false => exact absurd (by rw [hX3, nb_nil.mpr q]; rfl : nums X3 = []) (of_decide_eq_false hin)
              rw [take_range r hr, if_pos h0]
              exact S2.snoc r tv
      · rintro D2 tk₀ tk zs nw h ⟨rfl, S2⟩ htk F₁ N₁ off3
        clear F9 N9
        have F9 : Fr g' L' h m₁ := F₁
        clear F₁
        have hzs : zs.length = cnt (nb (fun j => nn.getD j []) (bitc c)) := by
          have h1 := IntsAre.length S2
          simp only [nums, List.length_map] at h1
          rw [← List.countP_eq_length_filter] at h1
          exact h1
        have hysc : ys.length = cnt (bitc c) := by
          have h1 := IntsAre.length S
          simp only [nums, List.length_map] at h1
          rw [← List.countP_eq_length_filter] at h1
          exact h1
        have f0 : @Ne Nat D2 D := fun q => off3 _ (.head _) (List.mem_singleton.mpr q.symm)
        have f1 : @Ne Nat D2 I := fun q => off3 _ (.tail _ (.head _)) (List.mem_singleton.mpr q.symm)
        have f2 : @Ne Nat D2 (L' + 1 + 1 + 1 + 1) := fun q => off3 _ (mem_at 2 rfl) (List.mem_singleton.mpr q.symm)
        have f3 : @Ne Nat D2 (L' + 1 + 1 + 1) := fun q => off3 _ (mem_at 3 rfl) (List.mem_singleton.mpr q.symm)
        have f4 : @Ne Nat D2 (L' + 1 + 1) := fun q => off3 _ (mem_at 4 rfl) (List.mem_singleton.mpr q.symm)
        have f5 : @Ne Nat D2 (L' + 1) := fun q => off3 _ (mem_at 5 rfl) (List.mem_singleton.mpr q.symm)
        have hst16 := (lackL_ok (fun j => nn.getD j []) c (Nat.le_of_lt hc)).2.1
        have hz4 : zs.length ≤ 4 := by rw [hzs]; exact List.countP_le_length
        dsimp only
        (repeat' (first | (k_unfold; (try dsimp only)) | (k_extra "mycall") | (k_extra "mystep") | (k_extra "no for"; (fail_if_success (with_reducible show wpAny _ _ (exec (Stmt.If _ _ _ _) _) _ _ _)); k_extra "head")))
        ((with_reducible rename Fr _ _ _ _ => F9); (with_reducible rename News _ _ _ _ => N9))
        (try simp only [List.size_toArray] at F9)
        rw [show ((ys.length : Nat) : Int) - ((zs.length : Nat) : Int) = lackS (fun j => nn.getD j []) (bitc c) by unfold lackS; rw [hysc, hzs]] at F9
        refine gen (lackS (fun j => nn.getD j []) (bitc c)) fun l hl => ?_
        refine gen (lackL (fun j => nn.getD j []) c) fun st hst => ?_
        have hstep : lackL (fun j => nn.getD j []) (c + 1) = if l > st.1 then (l, c) else if l = st.1 then (st.1, st.2 &&& c) else st := by rw [hst, hl]; rfl
        rw [← hl] at F9
        rw [← hst] at dM m1 hst16
        (repeat' (first | (k_unfold; (try dsimp only)) | (k_extra "mycall") | (k_extra "mystep") | (k_extra "no for"; k_extra "head")))
        · ((with_reducible rename Fr _ _ _ _ => F9); (with_reducible rename News _ _ _ _ => N9))
          rename_i oM2 dM2
          have hs2 : lackL (fun j => nn.getD j []) (c + 1) = (l, c) := by rw [hstep, if_pos (by first | assumption | omega)]
          refine K9 _ _ ⟨_, _, _, _, rfl, F9, fun p hp => N9 p (mem_drop 3 hp), off_same (by rfl) off, oS, oH, oM2, oC1, _, _, _, _, rfl, dS, dH, by rw [hs2]; exact dM2, d1, by rw [hs2]; rfl⟩
        · ((with_reducible rename Fr _ _ _ _ => F9); (with_reducible rename News _ _ _ _ => N9))
          rename_i oM2 dM2
          have hs2 : lackL (fun j => nn.getD j []) (c + 1) = (st.1, st.2 &&& c) := by rw [hstep, if_neg (by omega), if_pos (by omega)]
          rw [and_int _ hst16 _ hc] at dM2
          refine K9 _ _ ⟨_, _, _, _, rfl, F9, fun p hp => N9 p (.tail _ (.tail _ hp)), off_same (by rfl) off, oS, oH, oM2, oC1, _, _, _, _, rfl, dS, dH, by rw [hs2]; exact dM2, d1, by rw [hs2]; exact m1⟩
        · ((with_reducible rename Fr _ _ _ _ => F9); (with_reducible rename News _ _ _ _ => N9))
          have hs2 : lackL (fun j => nn.getD j []) (c + 1) = st := by rw [hstep, if_neg (by omega), if_neg (by omega)]
          refine K9 _ _ ⟨_, _, _, _, rfl, F9, fun p hp => N9 p (.tail _ (.tail _ hp)), off_same (by rfl) off, oS, oH, oM, oC1, _, _, _, _, rfl, dS, dH, by rw [hs2]; exact dM, d1, by rw [hs2]; exact m1⟩
  · intro m₁ news₁ h tk hz4q F₁ N₁
    refine absG fun G9 hG9 => ?_
    obtain ⟨oC4, oC3, oM, oC1, v4, v3, tm, t0, rfl, d4, d3, dM, d1, m1⟩ := hz4q
    clear F9 N9
    refine hG9 ?_; clear hG9
    dsimp only at d4 d3 dM d1 m1 N₁ ⊢
    (repeat' (first | (k_unfold; (try dsimp only)) | (k_extra "mycall") | (k_extra "mystep") | (k_extra "no for"; k_extra "head")))
    ((with_reducible rename Fr _ _ _ _ => F9); (with_reducible rename News _ _ _ _ => N9))
    refine gen ((lackL (fun j => nn.getD j []) 16).2) fun cf hcf => ?_
    have hc := (lackL_ok (fun j => nn.getD j []) 16 (Nat.le_refl _)).2.1
    rw [← hcf] at dM hc
    refine compE F9 (by with_unfolding_all rfl) (by decide) (by rfl) (by decide) ?_
    (repeat' (first | (k_unfold; (try dsimp only)) | (k_extra "mycall") | (k_extra "mystep") | (k_extra "no for"; k_extra "head")))
    ((with_reducible rename Fr _ _ _ _ => F9); (with_reducible rename News _ _ _ _ => N9))
    rename IsRange _ _ _ _ _ _ _ _ => hr2
    refine .inr ⟨_, 0, 4, _, _, _, 4, _, fun v m => m (Str.ofString "k") = some v, fun i tk ys nw => nw = [(L' + 1 + 1 + 1 + 1, oC4), (L' + 1 + 1 + 1, oC3), (L' + 1 + 1, oM), (L' + 1, oC1)] ∧ NumsAre ys ((List.range i).filter (bitc cf)), rfl, rfl, F9, N9, hr2, by decide +kernel, by decide +kernel, by decide, ?_, ?_, ?_, ?_⟩
    · rintro i tk ys nw ⟨_, S⟩
      have h1 := IntsAre.length S
      have h2 := List.length_filter_le (bitc cf) (List.range i)
      simp only [nums, List.length_map, List.length_range] at h1 h2
      omega
    · exact fun tk h => ⟨rfl, .nil⟩
    · rintro s₂ ⟨hs2, rfl⟩
      constructor
      · intro i t hi
        exact asgName rfl rfl _
      · intro i v tk₀ tk ys nw I2 oI2 D C oC m₂ h E' hi hz15q hz16q htk hNs hKV F₁ N₁ off2 ne
        refine absG fun G9 hG9 => ?_
        obtain ⟨tv, rfl⟩ := hz15q
        obtain ⟨rfl, S⟩ := hz16q
        clear F9 N9
        refine hG9 ?_; clear hG9
        rw [Int.zero_add] at hKV
        refine TestM.one ?_
        dsimp only
        (repeat' (first | (k_unfold; (try dsimp only)) | (k_extra "mycall") | (k_extra "mystep") | (k_extra "no for"; k_extra "head")))
        · ((with_reducible rename Fr _ _ _ _ => F9); (with_reducible rename News _ _ _ _ => N9))
          rename (_ = (1 : Int)) => hb
          refine ⟨_, _, _, rfl, F9, N9, off2, rfl, ?_⟩
          rw [take_range i hi, if_pos ((bit_int cf hc i hi).mp hb)]
          exact S.snoc i tv
        · ((with_reducible rename Fr _ _ _ _ => F9); (with_reducible rename News _ _ _ _ => N9))
          rename (_ ≠ (1 : Int)) => hb
          refine ⟨_, _, _, rfl, F9, N9, off2, rfl, ?_⟩
          rw [take_range i hi, if_neg (fun q => hb ((bit_int cf hc i hi).mpr q)), List.append_nil]
          exact S
    · rintro D tk₀ tk ys nw h ⟨rfl, S⟩ htk F₁ N₁ off2
      clear F9 N9
      have F9 : Fr g' L' h m₁ := F₁
      clear F₁
      dsimp only
      (repeat' (first | (k_unfold; (try dsimp only)) | (k_extra "mycall") | (k_extra "mystep") | (k_extra "no for"; k_extra "head")))
      ((with_reducible rename Fr _ _ _ _ => F9); (with_reducible rename News _ _ _ _ => N9))
      ((repeat' (first | k_unfold | dsimp only)))
      refine ret _ D ys _ _ _ _ _ (ext_of G' F9) (N9 _ (.head _)).1 rfl rfl (N9 _ (.tail _ (.head _))).1 ?_ (new_of G' (N9 _ (.head _)).2.2 (by simp)) (new_of G' (N9 _ (.tail _ (.head _))).2.2 (by simp))
      unfold commonT
      rw [← hcf]
      exact S

noncomputable def abAB : List Nat := [97, 65, 98, 66]
noncomputable def GW (g : List Nat) : Prop := 1 ≤ g.length ∧ g.length ≤ 3 ∧ ∀ c ∈ g, c ∈ abAB
noncomputable def lowL : List (List Nat) := [[97, 98], [98, 97], [97], [98, 98]]
theorem abAB_S : Str.ofString "aAbB" = S abAB := by decide +kernel
theorem fmod4 (a : Int) : ∃ q : Nat, q < 4 ∧ Int.fmod a 4 = (q : Nat) := by
  have h1 := Int.fmod_nonneg_of_pos a (b := 4) (by decide)
  have h2 := Int.fmod_lt_of_pos a (b := 4) (by decide)
  exact ⟨(Int.fmod a 4).toNat, by omega, by omega⟩
theorem fmod3 (a : Int) : ∃ n : Nat, 1 + Int.fmod a 3 = (n : Nat) ∧ 1 ≤ n ∧ n ≤ 3 := by
  have h1 := Int.fmod_nonneg_of_pos a (b := 3) (by decide)
  have h2 := Int.fmod_lt_of_pos a (b := 3) (by decide)
  exact ⟨(1 + Int.fmod a 3).toNat, by omega, by omega, by omega⟩
theorem pow4 : ∀ i : Nat, i < 3 → 0 < (4 : Int) ^ (((i : Nat) : Int)).toNat ∧ (4 : Int) ^ (((i : Nat) : Int)).toNat ≤ 16 := by decide +kernel
theorem low0 : Str.ofString "ab" = S (lowL.getD 0 []) := by decide +kernel
theorem low1 : Str.ofString "ba" = S (lowL.getD 1 []) := by decide +kernel
theorem low2 : Str.ofString "a" = S (lowL.getD 2 []) := by decide +kernel
theorem low3 : Str.ofString "bb" = S (lowL.getD 3 []) := by decide +kernel
noncomputable def upc (c : Nat) (b : Bool) : Nat := if b then c - 32 else c
noncomputable def roomW (k : Nat) (b0 b1 : Bool) : List Nat := (List.range (lowL.getD k []).length).map fun j => upc ((lowL.getD k []).getD j 0) (if j = 0 then b0 else b1)
noncomputable def RW (k : Nat) (r : List Nat) : Prop := ∃ b0 b1, r = roomW k b0 b1
theorem low_ok : ∀ i, i < 4 → 1 ≤ (lowL.getD i []).length ∧ (lowL.getD i []).length ≤ 2 ∧ ∀ c ∈ lowL.getD i [], c = 97 ∨ c = 98 := by decide
theorem pow2 : ∀ n : Nat, n ≤ 20 → 0 < (2 : Int) ^ n ∧ (2 : Int) ^ n ≤ 1048576 := by decide +kernel
theorem up_S : ∀ c, c = 97 ∨ c = 98 → Txt.upper (S [c]) = S [c - 32] := by rintro c (rfl | rfl) <;> decide +kernel
theorem roomW_of {i : Nat} {l : List Nat} (hl : l = lowL.getD i []) (h2 : l.length ≤ 2) (bs : List Bool) : RW i ((List.range l.length).map fun q => upc (l.getD q 0) (bs.getD q false)) := by
  refine ⟨bs.getD 0 false, bs.getD 1 false, ?_⟩
  unfold roomW
  rw [← hl]
  refine List.map_congr_left fun q hq => ?_
  have hq := List.mem_range.mp hq
  match q, hq with
  | 0, _ => rfl
  | 1, _ => rfl
  | n + 2, h => omega
theorem flat1 (cs : List Nat) : (cs.map fun c => [c]).flatten = cs := by induction cs with | nil => rfl | cons a t ih => rw [List.map_cons, List.flatten_cons, ih]; rfl
theorem abAB_mem {q : Nat} (h : q < 4) : abAB[q]? = some (abAB.getD q 0) ∧ abAB.getD q 0 ∈ abAB := by
  match q, h with
  | 0, _ => decide
  | 1, _ => decide
  | 2, _ => decide
  | 3, _ => decide
set_option hygiene false


theorem c_words {w : World} {loose : List Str} {mean : ExcName → Option Value} {mg mb : Str → Option Value} {ht : Heap} (X : (Mine.hd.heap_1 w.params).In ht) (T : Top Mine.hd.view_1 loose mean mg mb ht) {A : Around} (hA : A.handled = none) {s : Shared} (ek : ht.StaysIn s.heap) {Q E : Value → Shared → Prop} (hroom : A.depth + 10 < recursionLimit) {sl : Addr} {vs : List Value} {ks : List Int} (hol : s.heap.IsList sl vs.toArray) (hks : IntsAre vs ks) (hlen : ks.length < 64)
    (ret : ∀ T gl rl gws gn rws rn gs rs bd tb o n' h' tk', Ext [] s.heap h' → h'.get? T = some o → o.cls = .type "tuple" → o.data = .seq #[.ref gl, .ref rl, .int bd tb] n' → h'.get? gl = some (listOf (List.toArray gws) gn) → h'.get? rl = some (listOf (List.toArray rws) rn) → TxAre gws gs → TxAre rws rs → gs.length = 4 → (∀ g ∈ gs, GW g) → rs.length = 4 → (∀ k r, rs[k]? = some r → RW k r) → (bd = 2 ∨ bd = 4 ∨ bd = 3) →
      s.heap.get? T = none → s.heap.get? gl = none → s.heap.get? rl = none → Q (.ref T) { s with heap := h', toks := tk' }) :
    wpAny (model PySem.Challenge.rw_ti0061_01.prog w) A (call (.ref 258) [.ref sl] []) Q E s := by
  ((revert X; k_fill; intro X; obtain ⟨hh, dp, fr, gd, un⟩ := A; cases hA; (dsimp only at hroom)))
  refine' callMC [] ?k1 ?k2 ?k3 ?k4 ?k6 ?k7 ?k8 ?k9 ?kB ?kD ?_ ?c2 ?c3 ?c4
  (case k4 => ((intro q h9; exact nomatch h9)))
  ((case k1 => assumption); (case k2 => assumption); (case k3 => assumption); (case k6 => k_is); (case k7 => k_is); (case k8 => k_extra "room"); (case k9 => first | exact BindsTo.of_eq rfl | exact binds_K (Frag.In.keeps (by assumption) (by assumption)) rfl (by k_is) rfl rfl rfl); (case kB => exact rfl); (case kD => decide +kernel); (case c2 => exact rfl); (case c3 => exact rfl); (case c4 => exact rfl))
  ((intro g' L' h' tk' cells' F' N' Y' X' T' G' st' l' l1'; (try k_lt l1'); k_cells Y'; (try simp only [List.cons_append, List.nil_append] at N'); (try dsimp only); (try k_fold)))
  rename_i o5 o4 o3 o2 o1 d5 d4 d3 d2 d1
  have gol : g'.IsList sl vs.toArray := let ⟨o, ho, r⟩ := hol; ⟨o, G' _ _ ho (by simp), r⟩
  (repeat' (first | (k_unfold; (try dsimp only)) | (k_extra "mycall") | (k_extra "mystep") | (k_extra "no for"; k_extra "head")))
  ((with_reducible rename Fr _ _ _ _ => F9); (with_reducible rename News _ _ _ _ => N9))
  rename_i gl _ lg rl _ lr _ _ lD _ _ _ _ oP dP
  refine forR ?_
  (repeat' (first | (k_unfold; (try dsimp only)) | (k_extra "mycall") | (k_extra "mystep") | (k_extra "no for"; k_extra "head")))
  ((with_reducible rename Fr _ _ _ _ => F9); (with_reducible rename News _ _ _ _ => N9))
  rename IsRange _ _ _ _ _ _ _ _ => hrg
  refine ⟨g', _, 0, 4, _, _, _, 4, fun i m nw => Ex5 fun (ws : List Value) (nw0 : Nat) (oX : Obj) (vX : Option Value) (gs : List (List Nat)) => Cj7 (nw = [(rl, listOf (List.toArray []) 0), (gl, listOf ws.toArray nw0), (L' + 1 + 1 + 1 + 1 + 1, o5), (L' + 1 + 1 + 1 + 1, o4), (L' + 1 + 1 + 1, oX), (L' + 1 + 1, oP), (L' + 1, o1)]) (oX.data = .cell vX) (TxAre ws gs) (gs.length = i) ((∀ g ∈ gs, GW g)) (m (Str.ofString "guests") = some (.ref gl)) (m (Str.ofString "rooms") = some (.ref rl)), _, [(rl, listOf (List.toArray []) 0), (gl, listOf (List.toArray []) 0), (L' + 1 + 1 + 1 + 1 + 1, o5), (L' + 1 + 1 + 1 + 1, o4), (L' + 1 + 1 + 1, o3), (L' + 1 + 1, oP), (L' + 1, o1)], rfl, rfl, F9, fun p hp => N9 p (.tail _ hp), hrg, by decide +kernel, by decide +kernel, ⟨[], 0, o3, none, [], rfl, d3, .nil, rfl, (fun g h => nomatch h), rfl, rfl⟩, ?_, ?_⟩
  · intro k tkk m₁ news₁ h tk I oI hk hz9q hcI F₁ N₁ off
    refine absG fun G9 hG9 => ?_
    obtain ⟨ws, nw0, oX, vX, gs, rfl, dX, hT, hgl, hgw, m1, m2⟩ := hz9q
    clear F9 N9
    refine hG9 ?_; clear hG9
    rw [Int.zero_add]
    have b0 : @Ne Nat rl I := off _ (.head _)
    have b1 : @Ne Nat gl I := off _ (.tail _ (.head _))
    have b2 : @Ne Nat (L' + 1 + 1 + 1 + 1 + 1) I := off _ (mem_at 2 rfl)
    have b3 : @Ne Nat (L' + 1 + 1 + 1 + 1) I := off _ (mem_at 3 rfl)
    have b4 : @Ne Nat (L' + 1 + 1 + 1) I := off _ (mem_at 4 rfl)
    have b5 : @Ne Nat (L' + 1 + 1) I := off _ (mem_at 5 rfl)
    have b6 : @Ne Nat (L' + 1) I := off _ (mem_at 6 rfl)
    dsimp only at dX hT hgl hgw N₁ ⊢
    refine absT fun Q9 K9 => ?_
    repeat' (first | (k_unfold; (try dsimp only)) | (k_extra "mycall") | (k_extra "mystep") | (k_extra "no for"; (fail_if_success (with_reducible show wpAny _ _ (call (Value.ref _) _ _) _ _ _)); k_extra "head"))
    ((with_reducible rename Fr _ _ _ _ => F9); (with_reducible rename News _ _ _ _ => N9))
    refine' c_draw X' T' rfl ?e9 ?r9 (isl F9 gol) hks hlen k _ (by first | (k_extra "clr"; omega) | omega) ?_
    (case e9 => exact F9.keep)
    (case r9 => k_extra "room")
    intro t2 h2 tk2 e2
    obtain ⟨x, hx⟩ : ∃ x : Int, x = (if k < ks.length then ks.getD k 0 else ([25, 40, 37, 98, 12, 0] : List Int).getD k 0):= ⟨_, rfl⟩
    rw [← hx]
    have F2 := Mine.Fr.ext F9 e2
    have N2 := Mine.News.ext N9 e2
    clear F9 N9 e2 hx
    repeat' (first | (k_unfold; (try dsimp only)) | (k_extra "mycall") | (k_extra "mystep") | (k_extra "no for"; (fail_if_success (with_reducible show wpAny _ _ (call (Value.ref _) _ _) _ _ _)); k_extra "head"))
    ((with_reducible rename Fr _ _ _ _ => F9); (with_reducible rename News _ _ _ _ => N9))
    rename_i oX2 dX2
    refine compE F9 (by with_unfolding_all rfl) (by decide) (by rfl) (by decide) ?_
    (repeat' (first | (k_unfold; (try dsimp only)) | (k_extra "mycall") | (k_extra "mystep") | (k_extra "no for"; k_extra "head")))
    ((with_reducible rename Fr _ _ _ _ => F9); (with_reducible rename News _ _ _ _ => N9))
    rename IsRange _ _ _ _ _ _ _ _ => hr2
    refine absG fun G9 hG9 => ?_
    obtain ⟨n, hn, hn1, hn3⟩ := fmod3 x
    refine hG9 ?_; clear hG9
    rw [hn] at hr2
    refine .inr ⟨_, 0, (n : Nat), _, _, _, n, _, fun v m => m (Str.ofString "j") = some v, fun i tk ys nw => nw = [(I, oI), (rl, listOf (List.toArray []) 0), (gl, listOf ws.toArray nw0), (L' + 1 + 1 + 1 + 1 + 1, o5), (L' + 1 + 1 + 1 + 1, o4), (L' + 1 + 1 + 1, oX2), (L' + 1 + 1, oP), (L' + 1, o1)] ∧ ∃ cs : List Nat, TxAre ys (cs.map fun c => [c]) ∧ cs.length = i ∧ ∀ c ∈ cs, c ∈ abAB, rfl, rfl, F9, N9, hr2, one_small' n (by first | (k_extra "clr"; omega) | omega), one_size n, Nat.le_trans hn3 (by decide), ?_, ?_, ?_, ?_⟩
    · intro i tk ys nw hz4q
      refine absG fun G9 hG9 => ?_
      obtain ⟨_, cs, h1, h2, _⟩ := hz4q
      refine hG9 ?_; clear hG9
      rw [h1.len, List.length_map, h2]; exact Nat.le_refl _
    · exact fun tk h => ⟨rfl, [], .nil, rfl, fun c h => nomatch h⟩
    · rintro s₂ ⟨hs2, rfl⟩
      constructor
      · intro i t hi
        exact asgName rfl rfl _
      · intro i v tk₀ tk ys nw I2 oI2 D C oC m₂ h E' hi hz15q hz16q htk hNs hKV F₁ N₁ off2 ne
        refine absG fun G9 hG9 => ?_
        obtain ⟨tv, rfl⟩ := hz15q
        obtain ⟨rfl, cs, hcs, hcl, hcm⟩ := hz16q
        clear F9 N9
        refine hG9 ?_; clear hG9
        rw [Int.zero_add] at hKV
        refine TestM.nil ?_
        refine absQ fun Q7 K7 => ?_
        obtain ⟨hz1, hz2⟩ := pow4 i (by first | (k_extra "clr"; omega) | omega)
        try dsimp only
        repeat' (first | (k_unfold; (try dsimp only)) | (k_extra "mycall") | (k_extra "mystep") | (k_extra "no for"; (fail_if_success (with_reducible show wpAny _ _ (subscriptTail _ _ (Value.str _ _) _) _ _ _)); k_extra "head"))
        ((with_reducible rename Fr _ _ _ _ => F9); (with_reducible rename News _ _ _ _ => N9))
        refine absG fun G9 hG9 => ?_
        obtain ⟨q, hq4, hq⟩ := fmod4 (Int.fdiv (Int.fdiv x 3) ((4 : Int) ^ (((i : Nat) : Int)).toNat))
        refine hG9 ?_; clear hG9
        rw [hq, abAB_S]
        obtain ⟨hq1, hq2⟩ := abAB_mem hq4
        refine item_S hq1 (by decide) ?_
        repeat' (first | (k_unfold; (try dsimp only)) | (k_extra "mycall") | (k_extra "mystep") | (k_extra "no for"; k_extra "head"))
        ((with_reducible rename Fr _ _ _ _ => F9); (with_reducible rename News _ _ _ _ => N9))
        refine K7 _ _ ?_
        refine ⟨_, _, _, rfl, F9, N9, off2, rfl, cs ++ [abAB.getD q 0], ?_, by rw [List.length_append, hcl]; rfl, fun c hc => ?_⟩
        · rw [List.map_append]; exact hcs.snoc _ _
        · rcases List.mem_append.mp hc with hc | hc
          · exact hcm c hc
          · rw [List.mem_singleton.mp hc]; exact hq2
    · intro D tk₀ tk ys nw h hz6q htk F₁ N₁ off2
      refine absG fun G9 hG9 => ?_
      obtain ⟨rfl, cs, hcs, hcl, hcm⟩ := hz6q
      clear F9 N9
      refine hG9 ?_; clear hG9
      try dsimp only at F₁
      ((with_reducible rename Fr _ _ _ _ => F9); (with_reducible rename News _ _ _ _ => N9))
      have e0 : @Ne Nat D I := fun q => off2 _ (.head _) (List.mem_singleton.mpr q.symm)
      have e1 : @Ne Nat D rl := fun q => off2 _ (.tail _ (.head _)) (List.mem_singleton.mpr q.symm)
      have e2 : @Ne Nat D gl := fun q => off2 _ (mem_at 2 rfl) (List.mem_singleton.mpr q.symm)
      try dsimp only
      repeat' (first | (k_unfold; (try dsimp only)) | (k_extra "mycall") | (k_extra "mystep") | (k_extra "no for"; (fail_if_success (with_reducible show wpAny _ _ (call (Value.builtin "str.join") _ _) _ _ _)); k_extra "head"))
      ((with_reducible rename Fr _ _ _ _ => F9); (with_reducible rename News _ _ _ _ => N9))
      refine join_S ⟨_, (N9 _ (.head _)).1, rfl, _, rfl⟩ hcs (fun z hz => by obtain ⟨c, _, rfl⟩ := List.mem_map.mp hz; exact Nat.le_refl _) (by rw [List.length_map, hcl]; omega) fun t' k' => ?_
      rw [flat1]
      repeat' (first | (k_unfold; (try dsimp only)) | (k_extra "mycall") | (k_extra "mystep") | (k_extra "no for"; k_extra "head"))
      ((with_reducible rename Fr _ _ _ _ => F9); (with_reducible rename News _ _ _ _ => N9))
      have hws4 : ws.length ≤ 4 := by rw [hT.len, hgl]; omega
      refine' append_K F9 N9 ?kU9 (fun h3 F3 N3 => ?_) ?kZ9
      (case kU9 => k_upd)
      (case kZ9 => rw [List.size_toArray, sizeLine_eq]; first | (k_extra "clr"; omega) | omega)
      clear F9 N9
      rw [List.push_toArray] at N3
      repeat' (first | (k_unfold; (try dsimp only)) | (k_extra "mycall") | (k_extra "mystep") | (k_extra "no for"; k_extra "head"))
      ((with_reducible rename Fr _ _ _ _ => F9); (with_reducible rename News _ _ _ _ => N9))
      refine K9 _ _ ⟨_, _, _, _, rfl, F9, fun p hp => N9 p (.tail _ hp), off_same (by rfl) off, _, _, oX2, _, gs ++ [cs], rfl, dX2, hT.snoc cs _, by rw [List.length_append, hgl]; rfl, fun g hg => ?_, m1, m2⟩
      rcases List.mem_append.mp hg with hg | hg
      · exact hgw g hg
      · rw [List.mem_singleton.mp hg]; exact ⟨by omega, by omega, hcm⟩
  · intro m₁ news₁ h tk hz4q F₁ N₁
    refine absG fun G9 hG9 => ?_
    obtain ⟨ws, nw0, oX, vX, gs, rfl, dX, hT, hgl, hgw, m1, m2⟩ := hz4q
    clear F9 N9
    refine hG9 ?_; clear hG9
    dsimp only at dX hT hgl hgw N₁ ⊢
    (repeat' (first | (k_unfold; (try dsimp only)) | (k_extra "mycall") | (k_extra "mystep") | (k_extra "no for"; k_extra "head")))
    ((with_reducible rename Fr _ _ _ _ => F9); (with_reducible rename News _ _ _ _ => N9))
    refine forL ?_
    (repeat' (first | (k_unfold; (try dsimp only)) | (k_extra "mycall") | (k_extra "mystep") | (k_extra "no for"; k_extra "head")))
    ((with_reducible rename Fr _ _ _ _ => F9); (with_reducible rename News _ _ _ _ => N9))
    rename_i nl hz9 ll
    refine absG fun G9 hG9 => ?_
    obtain ⟨oz, vz, hoz, hvz, hnm, NZ⟩ : Ex2 fun (oz : Obj) (vz : List Value) => Cj4 (oz = listOf vz.toArray 0) (vz.length = 4) ((∀ (i : Nat) (v : Value), vz[i]? = some v → ∃ t, v = .str (S (lowL.getD i [])) t)) (News g' L' hz9 [(nl, oz), (rl, listOf (List.toArray []) 0), (gl, listOf ws.toArray nw0), (L' + 1 + 1 + 1 + 1 + 1, o5), (L' + 1 + 1 + 1 + 1, o4), (L' + 1 + 1 + 1, oX), (L' + 1 + 1, oP), (L' + 1, o1)]):= by
      refine ⟨_, [_, _, _, _], rfl, rfl, ?_, N9⟩
      intro i v hv
      match i, hv with
      | 0, hv => cases hv; exact ⟨_, congrArg (fun x => Value.str x _) low0⟩
      | 1, hv => cases hv; exact ⟨_, congrArg (fun x => Value.str x _) low1⟩
      | 2, hv => cases hv; exact ⟨_, congrArg (fun x => Value.str x _) low2⟩
      | 3, hv => cases hv; exact ⟨_, congrArg (fun x => Value.str x _) low3⟩
    clear N9
    refine hG9 ?_; clear hG9
    refine ⟨g', nl, vz, fun i m nw => Ex10 fun (uws : List Value) (unr : Nat) (u5 : Obj) (x5 : Option Value) (u4 : Obj) (x4 : Option Value) (uP : Obj) (upl : Nat) (utp : Tok) (urs : List (List Nat)) => Cj10 (nw = [(nl, oz), (rl, listOf uws.toArray unr), (gl, listOf ws.toArray nw0), (L' + 1 + 1 + 1 + 1 + 1, u5), (L' + 1 + 1 + 1 + 1, u4), (L' + 1 + 1 + 1, oX), (L' + 1 + 1, uP), (L' + 1, o1)]) (u5.data = .cell x5) (u4.data = .cell x4) (uP.data = .cell (some (.int (upl : Nat) utp))) (upl ≤ 2 * i) (TxAre uws urs) (urs.length = i) ((∀ k r, urs[k]? = some r → RW k r)) (m (Str.ofString "guests") = some (.ref gl)) (m (Str.ofString "rooms") = some (.ref rl)), _, _, oz, 0, rfl, rfl, F9, NZ, by rw [hoz], by rw [hoz], .inr ⟨.head _, ?_⟩, ⟨[], 0, o5, none, o4, none, oP, 0, _, [], rfl, d5, d4, dP, Nat.le_refl _, .nil, rfl, (fun k r h => nomatch h), m1, m2⟩, ?_, ?_⟩
    · intro i m nw hz3q
      refine absG fun G9 hG9 => ?_
      obtain ⟨_, _, _, _, _, _, _, _, _, _, rfl, _⟩ := hz3q
      refine hG9 ?_; clear hG9
      exact .head _
    · intro i v m₁ news₁ h tk I oI hv hz9q hcI F₁ N₁ off
      refine absG fun G9 hG9 => ?_
      obtain ⟨rws, nr, o5, v5, o4, v4, oP, pl, tp, rs, rfl, d5, d4, dP, hpl, hTr, hrl, hrw, m1, m2⟩ := hz9q
      refine hG9 ?_; clear hG9
      clear F9
      dsimp only at d5 d4 dP hpl hTr hrl hrw N₁ ⊢
      have hi4 : i < 4 := by have := (List.getElem?_eq_some_iff.mp hv).1; omega
      obtain ⟨tn, rfl⟩ := hnm i v hv
      refine gen (lowL.getD i []) fun l hl => ?_
      refine absG fun G9 hG9 => ?_
      obtain ⟨hl1, hl2, hl3⟩ := low_ok i hi4
      refine hG9 ?_; clear hG9
      rw [← hl] at hl1 hl2 hl3 ⊢
      have b0 : @Ne Nat nl I := off _ (.head _)
      have b1 : @Ne Nat rl I := off _ (.tail _ (.head _))
      have b2 : @Ne Nat gl I := off _ (mem_at 2 rfl)
      have b3 : @Ne Nat (L' + 1 + 1 + 1 + 1 + 1) I := off _ (mem_at 3 rfl)
      have b4 : @Ne Nat (L' + 1 + 1 + 1 + 1) I := off _ (mem_at 4 rfl)
      have b5 : @Ne Nat (L' + 1 + 1 + 1) I := off _ (mem_at 5 rfl)
      have b6 : @Ne Nat (L' + 1 + 1) I := off _ (mem_at 6 rfl)
      have b7 : @Ne Nat (L' + 1) I := off _ (mem_at 7 rfl)
      refine absT fun Q9 K9 => ?_
      repeat' (first | (k_unfold; (try dsimp only)) | (k_extra "mycall") | (k_extra "mystep") | (k_extra "no for"; (fail_if_success (with_reducible show wpAny _ _ (call (Value.ref _) _ _) _ _ _)); k_extra "head"))
      ((with_reducible rename Fr _ _ _ _ => F9); (with_reducible rename News _ _ _ _ => N9))
      rename_i oN dN
      refine wpAny_Assign_Name ?_ (by with_unfolding_all rfl)
      refine compE F9 (by with_unfolding_all rfl) (by decide) (by rfl) (by decide) ?_
      (repeat' (first | (k_unfold; (try dsimp only)) | (k_extra "mycall") | (k_extra "mystep") | (k_extra "no for"; k_extra "head")))
      ((with_reducible rename Fr _ _ _ _ => F9); (with_reducible rename News _ _ _ _ => N9))
      rename IsRange _ _ _ _ _ _ _ _ => hr2
      refine .inr ⟨_, 0, (l.length : Nat), _, _, _, l.length, _, fun v m => m (Str.ofString "j") = some v, fun j tk ys nw => nw = [(I, oI), (nl, oz), (rl, listOf rws.toArray nr), (gl, listOf ws.toArray nw0), (L' + 1 + 1 + 1 + 1 + 1, o5), (L' + 1 + 1 + 1 + 1, oN), (L' + 1 + 1 + 1, oX), (L' + 1 + 1, oP), (L' + 1, o1)] ∧ ∃ bs : List Bool, ys = bs.map Value.bool ∧ bs.length = j, rfl, rfl, F9, N9, hr2, one_small' l.length (by first | (k_extra "clr"; omega) | omega), one_size l.length, Nat.le_trans hl2 (by decide), ?_, ?_, ?_, ?_⟩
      · intro j tk ys nw hz4q
        refine absG fun G9 hG9 => ?_
        obtain ⟨_, bs, rfl, h2⟩ := hz4q
        refine hG9 ?_; clear hG9
        rw [List.length_map, h2]; exact Nat.le_refl _
      · exact fun tk h => ⟨rfl, [], rfl, rfl⟩
      · rintro s₂ ⟨hs2, rfl⟩
        constructor
        · intro j t hj
          exact asgName rfl rfl _
        · intro j v tk₀ tk ys nw I2 oI2 D C oC m₂ h E' hj hz15q hz16q htk hNs hKV F₁ N₁ off2 ne
          refine absG fun G9 hG9 => ?_
          obtain ⟨tv, rfl⟩ := hz15q
          obtain ⟨rfl, bs, rfl, hbl⟩ := hz16q
          clear F9 N9
          refine hG9 ?_; clear hG9
          rw [Int.zero_add] at hKV
          refine TestM.nil ?_
          refine absQ fun Q7 K7 => ?_
          obtain ⟨hz1, hz2⟩ := pow2 (((pl : Nat) : Int) + ((j : Nat) : Int)).toNat (by first | (k_extra "clr"; omega) | omega)
          try dsimp only
          repeat' (first | (k_unfold; (try dsimp only)) | (k_extra "mycall") | (k_extra "mystep") | (k_extra "no for"; (fail_if_success (with_reducible show wpAny _ _ (call (Value.ref _) _ _) _ _ _)); k_extra "head"))
          ((with_reducible rename Fr _ _ _ _ => F9); (with_reducible rename News _ _ _ _ => N9))
          refine' c_draw X' T' rfl ?e9 ?r9 (isl F9 gol) hks hlen 4 _ (by decide) ?_
          (case e9 => exact F9.keep)
          (case r9 => k_extra "room")
          intro t2 h2 tk2 e2
          obtain ⟨x, hx⟩ : ∃ x : Int, x = (if 4 < ks.length then ks.getD 4 0 else ([25, 40, 37, 98, 12, 0] : List Int).getD 4 0):= ⟨_, rfl⟩
          rw [← hx]
          have F2 := Mine.Fr.ext F9 e2
          have N2 := Mine.News.ext N9 e2
          clear F9 N9 e2 hx
          repeat' (first | (k_unfold; (try dsimp only)) | (k_extra "mycall") | (k_extra "mystep") | (k_extra "no for"; (fail_if_success (with_reducible show wpAny _ _ (call (Value.ref _) _ _) _ _ _)); k_extra "head"))
          all_goals (((with_reducible rename Fr _ _ _ _ => F9); (with_reducible rename News _ _ _ _ => N9)); refine K7 _ _ ?_; refine ⟨_, _, _, rfl, F9, N9, off2, rfl, bs ++ [_], by rw [List.map_append]; rfl, by rw [List.length_append, hbl]; rfl⟩)
      · intro D tk₀ tk ys nw h hz6q htk F₁ N₁ off2
        refine absG fun G9 hG9 => ?_
        obtain ⟨rfl, bs, rfl, hbl⟩ := hz6q
        clear F9 N9
        refine hG9 ?_; clear hG9
        try dsimp only at F₁
        ((with_reducible rename Fr _ _ _ _ => F9); (with_reducible rename News _ _ _ _ => N9))
        have e0 : @Ne Nat D I := fun q => off2 _ (.head _) (List.mem_singleton.mpr q.symm)
        have e1 : @Ne Nat D nl := fun q => off2 _ (.tail _ (.head _)) (List.mem_singleton.mpr q.symm)
        have e2 : @Ne Nat D rl := fun q => off2 _ (mem_at 2 rfl) (List.mem_singleton.mpr q.symm)
        have e3 : @Ne Nat D gl := fun q => off2 _ (mem_at 3 rfl) (List.mem_singleton.mpr q.symm)
        have e4 : @Ne Nat D (L' + 1 + 1 + 1 + 1 + 1) := fun q => off2 _ (mem_at 4 rfl) (List.mem_singleton.mpr q.symm)
        have e5 : @Ne Nat D (L' + 1 + 1 + 1 + 1) := fun q => off2 _ (mem_at 5 rfl) (List.mem_singleton.mpr q.symm)
        have e6 : @Ne Nat D (L' + 1 + 1 + 1) := fun q => off2 _ (mem_at 6 rfl) (List.mem_singleton.mpr q.symm)
        have e7 : @Ne Nat D (L' + 1 + 1) := fun q => off2 _ (mem_at 7 rfl) (List.mem_singleton.mpr q.symm)
        have e8 : @Ne Nat D (L' + 1) := fun q => off2 _ (mem_at 8 rfl) (List.mem_singleton.mpr q.symm)
        try dsimp only
        repeat' (first | (k_unfold; (try dsimp only)) | (k_extra "mycall") | (k_extra "mystep") | (k_extra "no for"; k_extra "head"))
        ((with_reducible rename Fr _ _ _ _ => F9); (with_reducible rename News _ _ _ _ => N9))
        rename_i oG dG
        refine compE F9 (by with_unfolding_all rfl) (by decide) (by rfl) (by decide) ?_
        (repeat' (first | (k_unfold; (try dsimp only)) | (k_extra "mycall") | (k_extra "mystep") | (k_extra "no for"; k_extra "head")))
        ((with_reducible rename Fr _ _ _ _ => F9); (with_reducible rename News _ _ _ _ => N9))
        rename IsRange _ _ _ _ _ _ _ _ => hr3
        refine .inr ⟨_, 0, (l.length : Nat), _, _, _, l.length, _, fun v m => m (Str.ofString "j") = some v, fun j tk ys nw => nw = [(D, LCg.lst (bs.map Value.bool)), (I, oI), (nl, oz), (rl, listOf rws.toArray nr), (gl, listOf ws.toArray nw0), (L' + 1 + 1 + 1 + 1 + 1, oG), (L' + 1 + 1 + 1 + 1, oN), (L' + 1 + 1 + 1, oX), (L' + 1 + 1, oP), (L' + 1, o1)] ∧ ∃ cs : List Nat, TxAre ys (cs.map fun c => [c]) ∧ cs = (List.range j).map fun q => upc (l.getD q 0) (bs.getD q false), rfl, rfl, F9, N9, hr3, one_small' l.length (by first | (k_extra "clr"; omega) | omega), one_size l.length, Nat.le_trans hl2 (by decide), ?_, ?_, ?_, ?_⟩
        · intro j tk ys nw hz4q
          refine absG fun G9 hG9 => ?_
          obtain ⟨_, cs, h1, rfl⟩ := hz4q
          refine hG9 ?_; clear hG9
          rw [h1.len, List.length_map, List.length_map, List.length_range]; exact Nat.le_refl _
        · exact fun tk h => ⟨rfl, [], .nil, rfl⟩
        · rintro s₂ ⟨hs2, rfl⟩
          constructor
          · intro j t hj
            exact asgName rfl rfl _
          · intro j v tk₀ tk ys nw I2 oI2 D2 C oC m₂ h E' hj hz15q hz16q htk hNs hKV F₁ N₁ off3 ne
            refine absG fun G9 hG9 => ?_
            obtain ⟨tv, rfl⟩ := hz15q
            obtain ⟨rfl, cs, hcs, hcs2⟩ := hz16q
            clear F9 N9
            refine hG9 ?_; clear hG9
            rw [Int.zero_add] at hKV
            refine TestM.nil ?_
            refine absQ fun Q7 K7 => ?_
            have hbj : (bs.map Value.bool)[j]? = some (.bool (bs.getD j false)) := by rw [List.getElem?_map, List.getD_eq_getElem?_getD, List.getElem?_eq_getElem (by first | (k_extra "clr"; omega) | omega)]; rfl
            have hcj := hl3 (l.getD j 0) (by rw [List.getD_eq_getElem?_getD, List.getElem?_eq_getElem hj]; exact List.getElem_mem hj)
            try dsimp only
            repeat' (first | (k_unfold; (try dsimp only)) | (k_extra "mycall") | (k_extra "mystep") | (k_extra "no for"; (fail_if_success (with_reducible show wpAny _ _ (subscriptTail _ _ (Value.ref _) _) _ _ _)); k_extra "head"))
            ((with_reducible rename Fr _ _ _ _ => F9); (with_reducible rename News _ _ _ _ => N9))
            refine sub_list ⟨_, (N9 _ (mem_at 3 rfl)).1, rfl, _, rfl⟩ hbj (by first | (k_extra "clr"; omega) | omega) ?_
            refine gen (bs.getD j false) fun b hb => ?_
            have hsh := S_short (l.getD j 0)
            rw [← hb]
            cases b with
            | true =>
              repeat' (first | (k_unfold; (try dsimp only)) | (k_extra "mycall") | (k_extra "mystep") | (k_extra "no for"; (fail_if_success (with_reducible show wpAny _ _ (subscriptTail _ _ (Value.ref _) _) _ _ _)); k_extra "head"))
              ((with_reducible rename Fr _ _ _ _ => F9); (with_reducible rename News _ _ _ _ => N9))
              refine K7 _ _ ?_
              refine ⟨_, _, _, rfl, F9, N9, off3, rfl, cs ++ [upc (l.getD j 0) true], ?_, ?_⟩
              · rw [List.map_append, up_S _ hcj]; exact hcs.snoc _ _
              · rw [List.range_succ, List.map_append, hcs2]
                show _ ++ [upc (l.getD j 0) true] = _ ++ [upc (l.getD j 0) (bs.getD j false)]
                rw [← hb]
            | false =>
              repeat' (first | (k_unfold; (try dsimp only)) | (k_extra "mycall") | (k_extra "mystep") | (k_extra "no for"; (fail_if_success (with_reducible show wpAny _ _ (subscriptTail _ _ (Value.ref _) _) _ _ _)); k_extra "head"))
              ((with_reducible rename Fr _ _ _ _ => F9); (with_reducible rename News _ _ _ _ => N9))
              refine K7 _ _ ?_
              refine ⟨_, _, _, rfl, F9, N9, off3, rfl, cs ++ [upc (l.getD j 0) false], ?_, ?_⟩
              · rw [List.map_append]; exact hcs.snoc _ _
              · rw [List.range_succ, List.map_append, hcs2]
                show _ ++ [upc (l.getD j 0) false] = _ ++ [upc (l.getD j 0) (bs.getD j false)]
                rw [← hb]
        · intro D2 tk₀ tk ys nw h hz6q htk F₁ N₁ off3
          refine absG fun G9 hG9 => ?_
          obtain ⟨rfl, cs, hcs, hcs2⟩ := hz6q
          clear F9 N9
          refine hG9 ?_; clear hG9
          try dsimp only at F₁
          ((with_reducible rename Fr _ _ _ _ => F9); (with_reducible rename News _ _ _ _ => N9))
          have f0 : @Ne Nat D2 D := fun q => off3 _ (.head _) (List.mem_singleton.mpr q.symm)
          have f1 : @Ne Nat D2 I := fun q => off3 _ (.tail _ (.head _)) (List.mem_singleton.mpr q.symm)
          have f2 : @Ne Nat D2 nl := fun q => off3 _ (mem_at 2 rfl) (List.mem_singleton.mpr q.symm)
          have f3 : @Ne Nat D2 rl := fun q => off3 _ (mem_at 3 rfl) (List.mem_singleton.mpr q.symm)
          have f8 : @Ne Nat D2 (L' + 1 + 1) := fun q => off3 _ (mem_at 8 rfl) (List.mem_singleton.mpr q.symm)
          have hcl : cs.length = l.length := by rw [hcs2, List.length_map, List.length_range]
          try dsimp only
          repeat' (first | (k_unfold; (try dsimp only)) | (k_extra "mycall") | (k_extra "mystep") | (k_extra "no for"; (fail_if_success (with_reducible show wpAny _ _ (call (Value.builtin "str.join") _ _) _ _ _)); k_extra "head"))
          ((with_reducible rename Fr _ _ _ _ => F9); (with_reducible rename News _ _ _ _ => N9))
          refine join_S ⟨_, (N9 _ (.head _)).1, rfl, _, rfl⟩ hcs (fun z hz => by obtain ⟨c, _, rfl⟩ := List.mem_map.mp hz; exact Nat.le_refl _) (by rw [List.length_map, hcl]; omega) fun t' k' => ?_
          rw [flat1]
          repeat' (first | (k_unfold; (try dsimp only)) | (k_extra "mycall") | (k_extra "mystep") | (k_extra "no for"; k_extra "head"))
          ((with_reducible rename Fr _ _ _ _ => F9); (with_reducible rename News _ _ _ _ => N9))
          have hws4 : rws.length ≤ 4 := by rw [hTr.len, hrl]; omega
          refine' append_K F9 N9 ?kU9 (fun h3 F3 N3 => ?_) ?kZ9
          (case kU9 => k_upd)
          (case kZ9 => rw [List.size_toArray, sizeLine_eq]; first | (k_extra "clr"; omega) | omega)
          clear F9 N9
          rw [List.push_toArray] at N3
          repeat' (first | (k_unfold; (try dsimp only)) | (k_extra "mycall") | (k_extra "mystep") | (k_extra "no for"; k_extra "head"))
          ((with_reducible rename Fr _ _ _ _ => F9); (with_reducible rename News _ _ _ _ => N9))
          rename_i oP2 dP2
          refine K9 _ _ ⟨_, _, _, _, rfl, F9, fun p hp => N9 p (.tail _ (.tail _ hp)), off_same (by rfl) off, _, _, oG, _, oN, _, oP2, pl + l.length, _, rs ++ [cs], rfl, dG, dN, by rw [Int.natCast_add]; exact dP2, by (show pl + l.length ≤ 2 * (i + 1)); omega, hTr.snoc cs _, by rw [List.length_append, hrl]; rfl, fun k r hk => ?_, m1, m2⟩
          rw [List.getElem?_append] at hk
          split at hk
          · exact hrw k r hk
          · rename_i hlt
            have hlt2 := (List.getElem?_eq_some_iff.mp hk).1
            have hki : k = i := by simp only [List.length_singleton] at hlt2; omega
            rw [show k - rs.length = 0 by omega] at hk
            cases hk
            rw [hki, hcs2]
            exact roomW_of hl hl2 bs
    · intro m₁ news₁ h tk hz4q F₁ N₁
      refine absG fun G9 hG9 => ?_
      obtain ⟨rws, nr, o5, v5, o4, v4, oP, pl, tp, rs, rfl, d5, d4, dP, hpl, hTr, hrl, hrw, m1, m2⟩ := hz4q
      refine hG9 ?_; clear hG9
      clear F9
      dsimp only at d5 d4 dP hpl hTr hrl hrw N₁ ⊢
      repeat' (first | (k_unfold; (try dsimp only)) | (k_extra "mycall") | (k_extra "mystep") | (k_extra "no for"; (fail_if_success (with_reducible show wpAny _ _ (call (Value.ref _) _ _) _ _ _)); k_extra "head"))
      ((with_reducible rename Fr _ _ _ _ => F9); (with_reducible rename News _ _ _ _ => N9))
      refine' c_draw X' T' rfl ?e9 ?r9 (isl F9 gol) hks hlen 5 _ (by decide) ?_
      (case e9 => exact F9.keep)
      (case r9 => k_extra "room")
      intro t2 h2 tk2 e2
      obtain ⟨x, hx⟩ : ∃ x : Int, x = (if 5 < ks.length then ks.getD 5 0 else ([25, 40, 37, 98, 12, 0] : List Int).getD 5 0):= ⟨_, rfl⟩
      rw [← hx]
      have F2 := Mine.Fr.ext F9 e2
      have N2 := Mine.News.ext N9 e2
      clear F9 N9 e2 hx
      refine absG fun G9 hG9 => ?_
      obtain ⟨q, hq4, hq⟩ := fmod4 x
      refine hG9 ?_; clear hG9
      repeat' (first | (k_unfold; (try dsimp only)) | (k_extra "mycall") | (k_extra "mystep") | (k_extra "no for"; (fail_if_success (with_reducible show wpAny _ _ (subscriptTail _ _ (Value.ref _) _) _ _ _)); k_extra "head"))
      ((with_reducible rename Fr _ _ _ _ => F9); (with_reducible rename News _ _ _ _ => N9))
      rw [hq]
      repeat' (first | (k_unfold; (try dsimp only)) | (k_extra "mycall") | (k_extra "mystep") | (k_extra "no for"; k_extra "head"))
      ((with_reducible rename Fr _ _ _ _ => F9); (with_reducible rename News _ _ _ _ => N9))
      ((repeat' (first | k_unfold | dsimp only)))
      exact ret _ gl rl ws nw0 rws nr gs rs _ _ _ _ _ _ (ext_of G' F9) (N9 _ (.head _)).1 rfl rfl (N9 (gl, _) (mem_at 4 rfl)).1 (N9 (rl, _) (mem_at 3 rfl)).1 hT hTr hgl hgw (hrl.trans hvz) hrw (by match q, hq4 with | 0, _ => exact .inl rfl | 1, _ => exact .inr (.inl rfl) | 2, _ => exact .inl rfl | 3, _ => exact .inr (.inr rfl))
        (new_of G' (N9 _ (.head _)).2.2 (by simp)) (new_of G' (N9 (gl, _) (mem_at 4 rfl)).2.2 (by simp)) (new_of G' (N9 (rl, _) (mem_at 3 rfl)).2.2 (by simp))

noncomputable def NmAre (ys : List Value) (ps : List (Nat × Nat)) : Prop := ∃ l : List ((Nat × Nat) × Tok), ys = l.map (fun q => Value.str (nameOf q.1.2 q.1.1) q.2) ∧ ps = l.map (·.1)
theorem NmAre.snoc {ys : List Value} {ps : List (Nat × Nat)} (h : NmAre ys ps) (p : Nat × Nat) (t : Tok) : NmAre (ys ++ [.str (nameOf p.2 p.1) t]) (ps ++ [p]) := by
  obtain ⟨l, rfl, rfl⟩ := h; exact ⟨l ++ [(p, t)], by simp, by simp⟩
theorem NmAre.len {ys : List Value} {ps : List (Nat × Nat)} (h : NmAre ys ps) : ys.length = ps.length := by obtain ⟨l, rfl, rfl⟩ := h; rw [List.length_map, List.length_map]
theorem NmAre.item {ys : List Value} {ps : List (Nat × Nat)} (h : NmAre ys ps) {i : Nat} {v : Value} (hv : ys[i]? = some v) : Ex2 fun p t => Cj2 (ps[i]? = some p) (v = .str (nameOf p.2 p.1) t):= by
  refine absG fun G9 hG9 => ?_
  obtain ⟨l, rfl, rfl⟩ := h
  refine hG9 ?_; clear hG9
  rw [List.getElem?_map] at hv
  cases e : l[i]? with
  | none => rw [e] at hv; cases hv
  | some q => rw [e] at hv; cases hv; exact ⟨q.1, q.2, by rw [List.getElem?_map, e]; rfl, rfl⟩
theorem take_filterP {l : List (Nat × Nat)} {i : Nat} {k : Nat × Nat} (h : l[i]? = some k) (p : Nat × Nat → Bool) : (l.take (i + 1)).filter p = (l.take i).filter p ++ (if p k then [k] else []) := by
  rw [List.take_add_one, h, List.filter_append]; congr 1; simp [List.filter_cons]
theorem ents_at {tab : List (Nat × Nat)} {i : Nat} {e : Str × Str} (h : (ents tab)[i]? = some e) : ∃ p, tab[i]? = some p ∧ e = entOf p := by
  unfold ents at h; rw [List.getElem?_map] at h
  cases q : tab[i]? with
  | none => rw [q] at h; cases h
  | some p => rw [q] at h; cases h; exact ⟨p, rfl, rfl⟩
theorem keeps_low {tab : List (Nat × Nat)} (ht : ∀ p ∈ tab, p.1 < 4) {k : Nat} (hk : k < 4) {nm : Str} (hl : Txt.lower nm = low k) : (ents tab).filter (keepsName nm) = ents (tab.filter fun q => q.1 != k) := by
  rw [← ents_filter ht hk]; congr 1; funext e; unfold keepsName; rw [hl]
inductive GoJ1 (P : Tok → Prop) (g0 : Heap) (lg : List (Addr × Obj)) (D x2 tb rl nrl wol : Addr) (tab fl : List (Nat × Nat)) : Nat → (Str → Option Value) → List (Addr × Obj) → Prop
  | mk {i : Nat} {m : Str → Option Value} (n' : Nat) (ts' : List Addr) : Ents P g0 ts' (ents (tab.filter fun p => !((fl.take i).any fun q => q.1 == p.1))) → m (Str.ofString "table") = some (.ref tb) → m (Str.ofString "rooms") = some (.ref rl) → m (Str.ofString "near") = some (.ref nrl) → m (Str.ofString "without") = some (.ref wol) → m (Str.ofString "others") = some (.ref x2) →
    GoJ1 P g0 lg D x2 tb rl nrl wol tab fl i m ((D, listOf (refs ts').toArray n') :: lg)
inductive GoJ2 (g0 : Heap) (L D x2 d2 cG tb d rl nrl : Addr) (od2 oG od : Obj) (f : Nat → List Nat) (g : Nat) (T0 : List (Nat × Nat)) (wo : List Nat) : Nat → (Str → Option Value) → List (Addr × Obj) → Prop
  | mk {i : Nat} {m : Str → Option Value} (n' : Nat) (ts' : List Addr) (tabx : List (Nat × Nat)) (N : Nat) (tl : List (Addr × Obj)) : tabx = (wo.take i).foldl (goG f g) T0 → (∀ p ∈ tabx, p.1 < 4 ∧ p.2 < 4) → tabx.length ≤ 4 + 5 * i → (∀ p ∈ tl, p.2.cls = .type "tuple") → (∀ h2 : Heap, (∀ b o, g0.get? b = some o → h2.get? b = some o) → News g0 L h2 tl → Ents (tokP N) h2 ts' (ents tabx)) →
    m (Str.ofString "rooms") = some (.ref rl) → m (Str.ofString "near") = some (.ref nrl) → m (Str.ofString "others") = some (.ref x2) →
    GoJ2 g0 L D x2 d2 cG tb d rl nrl od2 oG od f g T0 wo i m ((D, listOf (refs ts').toArray n') :: (x2, instObj 242 d2) :: (d2, od2) :: (cG, oG) :: (tb, instObj 242 d) :: (d, od) :: tl)
theorem up_name {g k : Nat} (hk : k < 4) : Txt.upper (nameOf g k) = upp k := by
  unfold nameOf; split
  · exact upp_upp k hk
  · exact upp_low k hk
theorem filt_step {tab fl : List (Nat × Nat)} {i : Nat} {p : Nat × Nat} (hp : fl[i]? = some p) : (tab.filter fun q => !((fl.take i).any fun r => r.1 == q.1)).filter (fun q => q.1 != p.1) = tab.filter fun q => !((fl.take (i + 1)).any fun r => r.1 == q.1) := by
  rw [List.filter_filter, List.take_add_one, hp]
  congr 1
  funext q
  simp only [List.any_append, Option.toList, List.any_cons, List.any_nil, Bool.or_false, Bool.not_or]
  rw [Bool.and_comm]
  congr 1
  simp only [bne]
  rw [Bool.beq_comm]
theorem filt_end {tab : List (Nat × Nat)} (hkey : ∀ p ∈ tab, ∀ q ∈ tab, p.1 = q.1 → p.2 = q.2) (g : Nat) : (tab.filter fun q => !((tab.filter fun p => p.2 == g).any fun r => r.1 == q.1)) = tab.filter fun p => p.2 != g := by
  refine List.filter_congr fun q hq => ?_
  show (!_) = (!_)
  congr 1
  rw [Bool.eq_iff_iff, List.any_eq_true]
  constructor
  · intro hz0q
    refine absG fun G9 hG9 => ?_
    obtain ⟨r, hr, e⟩ := hz0q
    obtain ⟨a, b⟩ := List.mem_filter.mp hr
    have h1 := hkey r a q hq (by simpa using e)
    refine hG9 ?_; clear hG9
    rw [← h1]; exact b
  · intro h
    exact ⟨q, List.mem_filter.mpr ⟨hq, h⟩, by simp⟩
set_option hygiene false
theorem seat_fr {w : World} {loose : List Str} {mean : ExcName → Option Value} {mg mb : Str → Option Value} {g : Heap} (X : (Mine.hd.heap_1 w.params).In g) (T : Top Mine.hd.view_1 loose mean mg mb g) {A : Around} (hA : A.handled = none) {s : Shared} {Q E : Value → Shared → Prop} (hroom : A.depth + 40 < recursionLimit) {L : Addr} {m : Str → Option Value} {nw : List (Addr × Obj)} (F : Fr g L s.heap m) (N : News g L s.heap nw)
    {x d D ofl ldl rl nrl : Addr} {hk : Int} {kt : Tok} {dn n' nd N₀ : Nat} {ts lts : List Addr} {tab laid : List (Nat × Nat)} {nn : List (List Nat)} (m1 : (x, instObj 242 d) ∈ nw) (m2 : (d, dictOf [⟨hk, .str (Str.ofString "_headers") kt, .ref D⟩] dn) ∈ nw) (m3 : (D, listOf (refs ts).toArray n') ∈ nw) (m4 : (ofl, listOf (List.toArray []) 0) ∈ nw) (m5 : (ldl, listOf (refs lts).toArray nd) ∈ nw)
    (hE : Ents (tokP N₀) s.heap ts (ents tab)) (hL : Ents (fun _ => True) s.heap lts (ents laid)) (hne : D ≠ ofl ∧ D ≠ ldl ∧ ofl ≠ ldl) (RR : RoomsAt (hideAll s.heap [D, ofl, ldl]) rl) (NN : NearAt (hideAll s.heap [D, ofl, ldl]) nrl nn) (hnn : nn.length = 4) (hnk : ∀ ks ∈ nn, ∀ k ∈ ks, k < 4) (htab : ∀ p ∈ tab, p.1 < 4 ∧ p.2 < 4) (hsz : tab.length + laid.length < 60) (u : Nat) (tu : Tok) (hu : u < 4)
    (retF : ∀ h' tk', (seatN (lookT tab) (fun j => nn.getD j []) 5 u []).1 = none → Fr g L h' m → Ext [ofl] s.heap h' → s.toks ≤ tk' → Q (.bool false) { s with heap := h', toks := tk' })
    (retT : ∀ h' tk' nl' ts' lts' nd' ds tl, (seatN (lookT tab) (fun j => nn.getD j []) 5 u []).1 = some ds → Fr g L h' m → Ext [D, ofl, ldl] s.heap h' → h'.get? D = some (listOf (refs ts').toArray nl') → h'.get? ldl = some (listOf (refs lts').toArray nd') → News g L h' tl → (∀ p ∈ tl, p.2.cls = .type "tuple" ∧ ∃ vs n, p.2.data = .seq vs n) →
      (∀ h2 : Heap, (∀ b o, g.get? b = some o → h2.get? b = some o) → News g L h2 tl → Ents (tokP (max N₀ tk')) h2 ts' (ents (ds.foldl setT tab)) ∧ Ents (fun _ => True) h2 lts' (ents (laid ++ ds))) → s.toks ≤ tk' → Q (.bool true) { s with heap := h', toks := tk' }) :
    wpAny (model PySem.Challenge.rw_ti0061_01.prog w) A (call (.ref 284) [.ref x, .ref rl, .ref nrl, .int (u : Nat) tu, .ref ofl, .ref ldl] []) Q E s := by
  have nD := N _ m3
  have nO := N _ m4
  have nL := N _ m5
  have TB : Tab (tokP N₀) g s.heap x d D (listOf (refs ts).toArray n') n' ts (ents tab) := Tab.in4 (hk := hk) (kt := kt) (dn := dn) N ((fa_cons (m1) (fa_cons (m2) (fa_one (m3))))) rfl hE (ents_hel htab)
  have ho : openR [] = 4 := rfl
  refine c_seat (offs := []) (ofs := []) X T hA F.keep 5 (by first | (k_extra "clr"; omega) | omega) TB nD.2.2 nO.1 nO.2.2 (by unfold NumsAre nums; exact .nil) nL.1 nL.2.2 hL hne RR NN hnn hnk htab (by rw [ho, List.length_nil]; omega) (by rw [ho]; decide) u tu hu ?_ ?_
  · intro h8 tk8 ofs8 no8 hres e8 lo8 hn8 ht
    exact retF h8 tk8 hres (Mine.Fr.extx F e8 fun b hb => by rw [List.mem_singleton.mp hb]; exact ⟨nO.2.2, nO.2.1⟩) e8 ht
  · intro h8 tk8 ol8 nl8 ts8 ofs8 no8 lts8 nd8 ds hres e8 TB8 lo8 ld8 EL8 ht
    have F8 := Mine.Fr.extx F e8 ((fa_cons (⟨nD.2.2, nD.2.1⟩) (fa_cons (⟨nO.2.2, nO.2.1⟩) (fa_one (⟨nL.2.2, nL.2.1⟩)))))
    refine absG fun G9 hG9 => ?_
    obtain ⟨tl, tn, tc, tke⟩ := tail_of F8 TB8.en EL8
    refine hG9 ?_; clear hG9
    exact retT h8 tk8 nl8 ts8 lts8 nd8 ds tl hres F8 e8 (TB8.hoc ▸ TB8.hol) ld8 tn tc tke ht
theorem near_lt {nn : List (List Nat)} (hnk : ∀ ks ∈ nn, ∀ k ∈ ks, k < 4) : ∀ j, ∀ k ∈ (fun j => nn.getD j []) j, k < 4 := fun j k hk => by
  simp only [List.getD_eq_getElem?_getD] at hk
  cases e : nn[j]? with
  | none => rw [e] at hk; cases hk
  | some ks => rw [e] at hk; exact hnk ks (List.mem_of_getElem? e) k hk
theorem ledger3 {g h h' : Heap} {L D a b : Addr} {nw nw' tl : List (Addr × Obj)} (N : News g L h nw) (e : Ext [D, a, b] h h') (tn : News g L h' tl) (hs : ∀ p ∈ nw', (p ∈ nw ∧ p.1 ≠ D ∧ p.1 ≠ a ∧ p.1 ≠ b) ∨ (h'.get? p.1 = some p.2 ∧ ∃ o, (p.1, o) ∈ nw) ∨ p ∈ tl) : News g L h' nw' := fun p hp => by
  rcases hs p hp with ⟨q, z1, z2, z3⟩ | ⟨q, o, ho⟩ | q
  · exact ⟨e _ _ (N p q).1 (by simp [z1, z2, z3]), (N p q).2⟩
  · exact ⟨q, (N _ ho).2⟩
  · exact tn p q
theorem c_goes {w : World} {loose : List Str} {mean : ExcName → Option Value} {mg mb : Str → Option Value} {ht : Heap} (X : (Mine.hd.heap_1 w.params).In ht) (T : Top Mine.hd.view_1 loose mean mg mb ht) {A : Around} (hA : A.handled = none) {s : Shared} (ek : ht.StaysIn s.heap) {Q E : Value → Shared → Prop} (hroom : A.depth + 60 < recursionLimit) {N₀ : Nat} {tb d hl rl nrl wol : Addr} {ol owl : Obj} {nl nwl : Nat} {ts : List Addr} {tab : List (Nat × Nat)} {nn : List (List Nat)} {wvs : List Value} {wo : List Nat}
    (TB : Tab (tokP N₀) ht s.heap tb d hl ol nl ts (ents tab)) (RR : RoomsAt s.heap rl) (NN : NearAt s.heap nrl nn) (hnn : nn.length = 4) (hnk : ∀ ks ∈ nn, ∀ k ∈ ks, k < 4) (htab : ∀ p ∈ tab, p.1 < 4 ∧ p.2 < 4) (hkey : ∀ p ∈ tab, ∀ q ∈ tab, p.1 = q.1 → p.2 = q.2) (hsz : tab.length ≤ 4)
    (how : s.heap.get? wol = some owl) (hwc : owl.cls = .type "list") (hwd : owl.data = .seq wvs.toArray nwl) (hwn : NumsAre wvs wo) (hw4 : ∀ g ∈ wo, g < 4) (hwl : wo.length ≤ 4) (g : Nat) (tg : Tok) (hg : g < 4)
    (ret : ∀ t h' tk', Ext [] s.heap h' → Q (.int ((wo.foldl (goG (fun j => nn.getD j []) g) (tab.filter fun p => p.2 != g)).length : Nat) t) { s with heap := h', toks := tk' }) :
    wpAny (model PySem.Challenge.rw_ti0061_01.prog w) A (call (.ref 301) [.ref tb, .ref rl, .ref nrl, .int (g : Nat) tg, .ref wol] []) Q E s := by
  ((revert X; k_fill; intro X; obtain ⟨hh, dp, fr, gd, un⟩ := A; cases hA; (dsimp only at hroom)))
  refine absG fun G9 hG9 => ?_
  obtain ⟨hk, kt, dn, hms⟩ := Tab.ms TB.toTabI
  refine hG9 ?_; clear hG9
  refine' callMC [(tb, instObj 242 d), (d, dictOf [⟨hk, .str (Str.ofString "_headers") kt, .ref hl⟩] dn)] ?k1 ?k2 ?k3 ?k4 ?k6 ?k7 ?k8 ?k9 ?kB ?kD ?_ ?c2 ?c3 ?c4
  (case k4 => exact hms)
  ((case k1 => assumption); (case k2 => assumption); (case k3 => assumption); (case k6 => k_is); (case k7 => k_is); (case k8 => k_extra "room"); (case k9 => first | exact BindsTo.of_eq rfl | exact binds_K (Frag.In.keeps (by assumption) (by assumption)) rfl (by k_is) rfl rfl rfl); (case kB => exact rfl); (case kD => decide +kernel); (case c2 => exact rfl); (case c3 => exact rfl); (case c4 => exact rfl))
  ((intro g' L' h' tk' cells' F' N' Y' X' T' G' st' l' l1'; (try k_lt l1'); k_cells Y'; (try simp only [List.cons_append, List.nil_append] at N'); (try dsimp only); (try k_fold)))
  rename_i oG dG
  have gro : ∀ b o, s.heap.get? b = some o → o.cls = .type "list" → g'.get? b = some o := fun b o e hc => G' b o e (by
    have m4 : b ≠ tb := ne_cls e TB.inst (hc ▸ type_ref)
    have m5 : b ≠ d := ne_cls e (hms _ (.tail _ (.head _))).1 (hc ▸ type_ne (by decide))
    simp [m4, m5])
  have RRg := RR.mono gro
  have NNg := NN.mono gro
  have gow := gro _ _ how hwc
  obtain ⟨ghl, gts⟩ := TB.ground G'
  have htl : ts.length = tab.length := by have := gts.1; simpa [ents] using this
  repeat' (first | (k_unfold; (try dsimp only)) | (k_extra "mycall") | (k_extra "mystep") | (k_extra "no for"; (fail_if_success (with_reducible show wpAny _ _ (call (Value.ref _) _ _) _ _ _)); k_extra "head"))
  ((with_reducible rename Fr _ _ _ _ => F9); (with_reducible rename News _ _ _ _ => N9))
  refine' c_items X' T' rfl ?e9 ?r9 (Tab.again TB G' F9 N9 ?m91 ?m92) ?z9 ?_
  (case e9 => exact F9.keep)
  (case r9 => k_extra "room")
  (case m91 => k_mem)
  (case m92 => k_mem)
  (case z9 => simp only [ents, List.length_map]; first | (k_extra "clr"; omega) | omega)
  intro D n1 h1 tk1 e1 hn1 hd1
  have N1 := news_add F9 N9 e1 hn1 hd1
  have F1 := Mine.Fr.ext F9 e1
  have D1 : ∀ p ∈ [(L' + 1, oG), (tb, instObj 242 d), (d, dictOf [⟨hk, .str (Str.ofString "_headers") kt, .ref hl⟩] dn)], @Ne Nat p.1 D := fun p hp q => by have z := (N9 p hp).1; rw [show p.1 = D from q] at z; rw [hn1] at z; cases z
  clear F9 N9 e1
  repeat' (first | (k_unfold; (try dsimp only)) | (k_extra "mycall") | (k_extra "mystep") | (k_extra "no for"; (fail_if_success (with_reducible show wpAny _ _ (call (Value.ref _) _ _) _ _ _)); k_extra "head"))
  ((with_reducible rename Fr _ _ _ _ => F9); (with_reducible rename News _ _ _ _ => N9))
  refine' c_new1 (hl := D) X' T' rfl ?r9 F9 N9 (.head _) rfl rfl gts ?h9 ?_
  (case r9 => k_extra "room")
  (case h9 => exact fun e he => by obtain ⟨p, hp, rfl⟩ := List.mem_map.mp he; exact ⟨name_miss (htab p hp).1, miss_fig _ (htab p hp).2, name_len (htab p hp).1⟩)
  intro x2 d2 h2 tk2 hk2 kt2 dn2 F2 N2 hxd hoff
  clear F9 N9
  repeat' (first | (k_unfold; (try dsimp only)) | (k_extra "mycall") | (k_extra "mystep") | (k_extra "no for"; (fail_if_success (with_reducible show wpAny _ _ (call (Value.ref _) _ _) _ _ _)); k_extra "head"))
  ((with_reducible rename Fr _ _ _ _ => F9); (with_reducible rename News _ _ _ _ => N9))
  refine forL ?_
  refine compE F9 (by with_unfolding_all rfl) (by decide) (by rfl) (by decide) ?_
  repeat' (first | (k_unfold; (try dsimp only)) | (k_extra "mycall") | (k_extra "mystep") | (k_extra "no for"; (fail_if_success (with_reducible show wpAny _ _ (call (Value.ref _) _ _) _ _ _)); k_extra "head"))
  ((with_reducible rename Fr _ _ _ _ => F9); (with_reducible rename News _ _ _ _ => N9))
  refine' c_items X' T' rfl ?e9 ?r9 (Tab.again TB G' F9 N9 ?m91 ?m92) ?z9 ?_
  (case e9 => exact F9.keep)
  (case r9 => k_extra "room")
  (case m91 => k_mem)
  (case m92 => k_mem)
  (case z9 => simp only [ents, List.length_map]; first | (k_extra "clr"; omega) | omega)
  intro D3 n3 h3 tk3 e3 hn3 hd3
  have N3 := news_add F9 N9 e3 hn3 hd3
  have F3 := Mine.Fr.ext F9 e3
  have D3n : ∀ p ∈ [(x2, instObj 242 d2), (d2, hdict hk2 kt2 D dn2), (D, listOf (refs ts).toArray n1), (L' + 1, oG), (tb, instObj 242 d), (d, dictOf [⟨hk, .str (Str.ofString "_headers") kt, .ref hl⟩] dn)], @Ne Nat p.1 D3 := fun p hp q => by have z := (N9 p hp).1; rw [show p.1 = D3 from q] at z; rw [hn3] at z; cases z
  clear F9 N9 e3
  repeat' (first | (k_unfold; (try dsimp only)) | (k_extra "mycall") | (k_extra "mystep") | (k_extra "no for"; (fail_if_success (with_reducible show wpAny _ _ (call (Value.ref _) _ _) _ _ _)); k_extra "head"))
  ((with_reducible rename Fr _ _ _ _ => F9); (with_reducible rename News _ _ _ _ => N9))
  refine .inl ⟨D3, refs ts, _, listOf (refs ts).toArray n3, n3, KVP g' (Str.ofString "name") (Str.ofString "value"), fun i tk ys nw => nw = [(D3, listOf (refs ts).toArray n3), (x2, instObj 242 d2), (d2, hdict hk2 kt2 D dn2), (D, listOf (refs ts).toArray n1), (L' + 1, oG), (tb, instObj 242 d), (d, dictOf [⟨hk, .str (Str.ofString "_headers") kt, .ref hl⟩] dn)] ∧ NmAre ys ((tab.take i).filter fun p => p.2 == g), rfl, rfl, F9, N9, rfl, rfl, .inr ⟨.head _, ?_⟩, ?_, ?_, ?_, ?_, ?_⟩
  · rintro i tk ys nw ⟨rfl, _⟩
    exact .head _
  · rw [refs, List.length_map, htl]; exact Nat.le_trans hsz (by decide)
  · rintro i tk ys nw ⟨_, S⟩
    rw [S.len]
    exact Nat.le_trans (List.length_filter_le _ _) (by rw [List.length_take]; exact Nat.min_le_left _ _)
  · exact fun tk h => ⟨rfl, [], rfl, rfl⟩
  · rintro s₂ ⟨hs2, rfl⟩
    constructor
    · intro i v hv
      refine absG fun G9 hG9 => ?_
      obtain ⟨t, e, k1, k2, rfl, he, hPk, htup⟩ := gts.item hv
      refine hG9 ?_; clear hG9
      exact asgPair2 rfl rfl rfl rfl (by decide) htup
    · rintro i v tk₀ tk ys nw I oI D4 C oC m₂ h E' hi hv ⟨rfl, S⟩ htk hNs hKV F₁ N₁ off ne
      refine absG fun G9 hG9 => ?_
      obtain ⟨t, e, k1, k2, rfl, he, hPk, htup⟩ := gts.item hv
      obtain ⟨t', v1, v2, e1, ht', hk', hv'⟩ := hKV
      refine hG9 ?_; clear hG9
      cases e1
      have e2 := tup_inj ht' htup
      cases e2
      refine absG fun G9 hG9 => ?_
      obtain ⟨p, hp, rfl⟩ := ents_at he
      have hpt := htab p (List.mem_of_getElem? hp)
      clear F9 N9
      refine hG9 ?_; clear hG9
      refine TestM.one ?_
      dsimp only [entOf]
      repeat' (first | (k_unfold; (try dsimp only)) | (k_extra "mycall") | (k_extra "mystep") | (k_extra "no for"; k_extra "head"))
      · ((with_reducible rename Fr _ _ _ _ => F9); (with_reducible rename News _ _ _ _ => N9))
        rename (_ = true) => hb
        refine EndM.mk F9 N9 off ⟨rfl, ?_⟩
        rw [take_filterP hp, if_pos (by rw [← fig_inj _ hpt.2 _ hg]; exact hb)]
        exact S.snoc p k1
      · ((with_reducible rename Fr _ _ _ _ => F9); (with_reducible rename News _ _ _ _ => N9))
        rename (_ = false) => hb
        refine EndM.mk F9 N9 off ⟨rfl, ?_⟩
        rw [take_filterP hp, if_neg (by rw [← fig_inj _ hpt.2 _ hg]; exact fun q => by rw [show (fig p.2 == fig g) = false from hb] at q; cases q), List.append_nil]
        exact S
  · rintro D4 tk₀ tk ys nw h ⟨rfl, S⟩ htk F₁ N₁ off
    clear F9 N9
    try dsimp only at F₁
    have hall : tab.take (refs ts).length = tab := List.take_of_length_le (by rw [refs, List.length_map, htl]; exact Nat.le_refl _)
    rw [hall] at S
    refine gen (tab.filter fun p => p.2 == g) fun fl hfl => ?_
    rw [← hfl] at S
    have D4n : ∀ p ∈ [(D3, listOf (refs ts).toArray n3), (x2, instObj 242 d2), (d2, hdict hk2 kt2 D dn2), (D, listOf (refs ts).toArray n1), (L' + 1, oG), (tb, instObj 242 d), (d, dictOf [⟨hk, .str (Str.ofString "_headers") kt, .ref hl⟩] dn)], @Ne Nat p.1 D4 := fun p hp q => off p hp (List.mem_singleton.mpr q)
    have z1 : @Ne Nat D4 D := (D4n _ (mem_at 3 rfl)).symm
    have z2 : @Ne Nat x2 D := (hoff (D, listOf (refs ts).toArray n1) (.head _)).1.symm
    have z3 : @Ne Nat d2 D := (hoff (D, listOf (refs ts).toArray n1) (.head _)).2.symm
    have z4 : @Ne Nat (L' + 1) D := D1 _ (.head _)
    have z5 : @Ne Nat tb D := D1 _ (.tail _ (.head _))
    have z6 : @Ne Nat d D := D1 _ (mem_at 2 rfl)
    have fl4 : ∀ p ∈ fl, p.1 < 4 ∧ p.2 = g := fun p hp => by
      rw [hfl] at hp
      obtain ⟨a, b⟩ := List.mem_filter.mp hp
      exact ⟨(htab p a).1, by simpa using b⟩
    refine ⟨g', D4, ys, GoJ1 (tokP N₀) g' [(D4, LCg.lst ys), (x2, instObj 242 d2), (d2, hdict hk2 kt2 D dn2), (L' + 1, oG), (tb, instObj 242 d), (d, dictOf [⟨hk, .str (Str.ofString "_headers") kt, .ref hl⟩] dn)] D x2 tb rl nrl wol tab fl, _, [(D, listOf (refs ts).toArray n1), (D4, LCg.lst ys), (x2, instObj 242 d2), (d2, hdict hk2 kt2 D dn2), (L' + 1, oG), (tb, instObj 242 d), (d, dictOf [⟨hk, .str (Str.ofString "_headers") kt, .ref hl⟩] dn)], LCg.lst ys, ys.length, rfl, rfl, F₁, fun p hp => N₁ p ?_, rfl, rfl, .inr ⟨.tail _ (.head _), ?_⟩, .mk n1 ts ?_ rfl rfl rfl rfl rfl, ?_, ?_⟩
    · rcases List.mem_cons.mp hp with rfl | hp
      · exact .tail _ (mem_at 3 rfl)
      rcases List.mem_cons.mp hp with rfl | hp
      · exact .head _
      rcases List.mem_cons.mp hp with rfl | hp
      · exact .tail _ (.tail _ (.head _))
      rcases List.mem_cons.mp hp with rfl | hp
      · exact .tail _ (mem_at 2 rfl)
      · exact .tail _ (mem_drop 4 hp)
    · intro i m nw hz3q
      refine absG fun G9 hG9 => ?_
      obtain ⟨n', ts', _⟩ := hz3q
      refine hG9 ?_; clear hG9
      exact .tail _ (.head _)
    · rw [show (tab.filter fun p => !((fl.take 0).any fun q => q.1 == p.1)) = tab from List.filter_eq_self.mpr fun _ _ => rfl]
      exact gts
    · intro i v m₁ news₁ h tk I oI hv hz9q hcI F₁ N₁ off2
      refine absG fun G9 hG9 => ?_
      obtain ⟨n', ts', hE, m1, m2, m3, m4, m5⟩ := hz9q
      obtain ⟨p, tp, hp, rfl⟩ := S.item hv
      obtain ⟨hp4, hpg⟩ := fl4 p (List.mem_of_getElem? hp)
      have b0 : @Ne Nat D I := off2 _ (.head _)
      have b1 : @Ne Nat D4 I := off2 _ (.tail _ (.head _))
      have b2 : @Ne Nat x2 I := off2 _ (mem_at 2 rfl)
      have b3 : @Ne Nat d2 I := off2 _ (mem_at 3 rfl)
      refine hG9 ?_; clear hG9
      dsimp only
      refine absT fun Q9 K9 => ?_
      repeat' (first | (k_unfold; (try dsimp only)) | (k_extra "mycall") | (k_extra "mystep") | (k_extra "no for"; (fail_if_success (with_reducible show wpAny _ _ (eval (PySem.Expr.IfExp _ _ _ _) _) _ _ _)); (fail_if_success (with_reducible show wpAny _ _ (call (Value.ref _) _ _) _ _ _)); k_extra "head"))
      ((with_reducible rename Fr _ _ _ _ => F9); (with_reducible rename News _ _ _ _ => N9))
      refine joinI (s := s) F9 N9 (fun v => Ex2 fun nm t => Cj3 (v = .str nm t) (Txt.lower nm = low p.1) (nm.length < 100)) ?_ ?_
      · have hnl := name_len (g := p.2) hp4
        repeat' (first | (k_unfold; (try dsimp only)) | (k_extra "mycall") | (k_extra "mystep") | (k_extra "no for"; (fail_if_success (with_reducible show wpAny _ _ (call (Value.ref _) _ _) _ _ _)); k_extra "head"))
        · ((with_reducible rename Fr _ _ _ _ => F9); (with_reducible rename News _ _ _ _ => N9))
          exact ⟨_, _, ⟨_, _, rfl, by rw [low_name hp4]; exact low_low _ hp4, by rw [low_name hp4]; exact len_low _ hp4⟩, rfl, F9, N9⟩
        · ((with_reducible rename Fr _ _ _ _ => F9); (with_reducible rename News _ _ _ _ => N9))
          exact ⟨_, _, ⟨_, _, rfl, by rw [up_name hp4]; exact low_upp _ hp4, by rw [up_name hp4]; exact len_upp _ hp4⟩, rfl, F9, N9⟩
      intro v5 h5 tk5 hz3q F5 N5 _
      refine absG fun G9 hG9 => ?_
      obtain ⟨nm, t5, rfl, hnm, hnl⟩ := hz3q
      clear F9 N9
      refine hG9 ?_; clear hG9
      repeat' (first | (k_unfold; (try dsimp only)) | (k_extra "mycall") | (k_extra "mystep") | (k_extra "no for"; (fail_if_success (with_reducible show wpAny _ _ (call (Value.ref _) _ _) _ _ _)); k_extra "head"))
      ((with_reducible rename Fr _ _ _ _ => F9); (with_reducible rename News _ _ _ _ => N9))
      have htf : ∀ q ∈ (tab.filter fun q => !((fl.take i).any fun r => r.1 == q.1)), q.1 < 4 ∧ q.2 < 4 := fun q hq => htab q (List.mem_filter.mp hq).1
      refine' c_delF (hl := D) X' T' rfl ?e9 ?r9 (Tab.in4 N9 ?s9 rfl (hE.keeps fun t _ o e => F9.keep t o e) (ents_hel htf)) (N9 (D, listOf (refs ts').toArray n') (.tail _ (.head _))).2.2 nm t5 (by rw [hnm]; exact miss_low _ hp4) hnl ?z9 ?_
      (case e9 => exact F9.keep)
      (case r9 => k_extra "room")
      (case s9 =>
        intro q hq
        rcases List.mem_cons.mp hq with rfl | hq
        · exact .tail _ (mem_at 2 rfl)
        rcases List.mem_cons.mp hq with rfl | hq
        · exact .tail _ (mem_at 3 rfl)
        · rw [List.mem_singleton.mp hq]; exact .tail _ (.head _))
      (case z9 => simp only [ents, List.length_map]; exact Nat.lt_of_le_of_lt (Nat.le_trans (List.length_filter_le _ _) hsz) (by decide))
      intro h6 tk6 n6 e6 TB6
      refine' with_upd N9 e6 TB6.hol ?kU9 fun N6 => ?_
      (case kU9 => k_upd)
      have F6 := Mine.Fr.extx F9 e6 (fun x hx => by rw [List.mem_singleton.mp hx]; exact ⟨(N9 (D, listOf (refs ts').toArray n') (.tail _ (.head _))).2.2, (N9 (D, listOf (refs ts').toArray n') (.tail _ (.head _))).2.1⟩)
      clear F9 N9 e6
      repeat' (first | (k_unfold; (try dsimp only)) | (k_extra "mycall") | (k_extra "mystep") | (k_extra "no for"; k_extra "head"))
      ((with_reducible rename Fr _ _ _ _ => F9); (with_reducible rename News _ _ _ _ => N9))
      refine K9 _ _ (TurnEndM.mk F9 N9 (off_same (by rfl) off2) (.mk n6 _ ?_ m1 m2 m3 m4 m5))
      have hE2 := hE.filter (keepsName nm)
      rw [keeps_low (fun q hq => (htf q hq).1) hp4 hnm, filt_step hp] at hE2
      rw [keeps_low (fun q hq => (htf q hq).1) hp4 hnm, filt_step hp] at TB6
      exact hE2
    · intro m₁ news₁ h tk hz4q F₁ N₁
      refine absG fun G9 hG9 => ?_
      obtain ⟨n', ts', hE, m1, m2, m3, m4, m5⟩ := hz4q
      refine hG9 ?_; clear hG9
      rw [S.len, List.take_of_length_le (Nat.le_refl _), hfl, filt_end hkey] at hE
      refine gen (tab.filter fun p => p.2 != g) fun T0 hT0 => ?_
      rw [← hT0] at hE ret
      have hT4 : ∀ p ∈ T0, p.1 < 4 ∧ p.2 < 4 := fun p hp => by rw [hT0] at hp; exact htab p (List.mem_filter.mp hp).1
      have hTl : T0.length ≤ 4 := by rw [hT0]; exact Nat.le_trans (List.length_filter_le _ _) hsz
      dsimp only
      repeat' (first | (k_unfold; (try dsimp only)) | (k_extra "mycall") | (k_extra "mystep") | (k_extra "no for"; k_extra "head"))
      ((with_reducible rename Fr _ _ _ _ => F9); (with_reducible rename News _ _ _ _ => N9))
      refine forL ?_
      repeat' (first | (k_unfold; (try dsimp only)) | (k_extra "mycall") | (k_extra "mystep") | (k_extra "no for"; k_extra "head"))
      ((with_reducible rename Fr _ _ _ _ => F9); (with_reducible rename News _ _ _ _ => N9))
      refine ⟨g', wol, wvs, GoJ2 g' L' D x2 d2 (L' + 1) tb d rl nrl (hdict hk2 kt2 D dn2) oG (dictOf [⟨hk, .str (Str.ofString "_headers") kt, .ref hl⟩] dn) (fun j => nn.getD j []) g T0 wo, _, (D, listOf (refs ts').toArray n') :: (x2, instObj 242 d2) :: (d2, hdict hk2 kt2 D dn2) :: (L' + 1, oG) :: (tb, instObj 242 d) :: (d, dictOf [⟨hk, .str (Str.ofString "_headers") kt, .ref hl⟩] dn) :: [], owl, nwl, rfl, rfl, F9, fun p hp => N9 p ?_, hwc, hwd, .inl gow, .mk n' ts' T0 N₀ [] rfl hT4 hTl (fun p hp => nomatch hp) (fun h2 k2 _ => hE.keeps fun t _ o e => k2 t o e) m2 m3 m5, ?_, ?_⟩
      · rcases List.mem_cons.mp hp with rfl | hp
        · exact .head _
        · exact .tail _ (.tail _ hp)
      · intro i v m₁ news₁ h tk I oI hv hz9q hcI F₁ N₁ off2
        refine absG fun G9 hG9 => ?_
        obtain ⟨n', ts', tabx, N, tl, htx, htx4, htxl, htc, hEx, m1, m2, m3⟩ := hz9q
        clear F9 N9
        obtain ⟨u, tu, rfl, hu⟩ := hwn.item hv
        have hu4 := hw4 u (List.mem_of_getElem? hu)
        have hi4 : i < wo.length := (List.getElem?_eq_some_iff.mp hu).1
        have hstep : (wo.take (i + 1)).foldl (goG (fun j => nn.getD j []) g) T0 = goG (fun j => nn.getD j []) g tabx u := by rw [List.take_add_one, hu, List.foldl_append, ← htx]; rfl
        have b0 : @Ne Nat D I := off2 _ (.head _)
        have b1 : @Ne Nat x2 I := off2 _ (.tail _ (.head _))
        have b2 : @Ne Nat d2 I := off2 _ (mem_at 2 rfl)
        have hoff2 : OwnOff tl [I] := fun p hp b hb => by rw [List.mem_singleton.mp hb]; exact off2 p (mem_drop 6 hp)
        refine hG9 ?_; clear hG9
        dsimp only
        refine absT fun Q9 K9 => ?_
        repeat' (first | (k_unfold; (try dsimp only)) | (k_extra "mycall") | (k_extra "mystep") | (k_extra "no for"; (fail_if_success (with_reducible show wpAny _ _ (call (Value.ref _) _ _) _ _ _)); k_extra "head"))
        · ((with_reducible rename Fr _ _ _ _ => F9); (with_reducible rename News _ _ _ _ => N9))
          rename_i ofl _ lo1 ldl h10 lo2
          rename (_ ≠ ((g : Nat) : Int)) => hug
          have hug2 : u ≠ g := fun q => hug (by rw [q])
          have p1 : @Ne Nat D ofl := Nat.ne_of_lt lo1.2.1
          have p2 : @Ne Nat D ldl := Nat.ne_of_lt lo2.2.2.1
          have p3 : @Ne Nat ofl ldl := Nat.ne_of_lt lo2.1
          have nD := N9 (D, listOf (refs ts').toArray n') (mem_at 3 rfl)
          have nO := N9 _ (.tail _ (.head _))
          have nL := N9 _ (.head _)
          have gro9 : ∀ b o, g'.get? b = some o → o.cls = .type "list" → (hideAll h10 [D, ofl, ldl]).get? b = some o := fun b o e _ => hideAll_get _ (F9.keep _ _ e) fun hb => by
            rcases List.mem_cons.mp hb with rfl | hb
            · rw [nD.2.2] at e; cases e
            rcases List.mem_cons.mp hb with rfl | hb
            · rw [nO.2.2] at e; cases e
            · rw [List.mem_singleton.mp hb, nL.2.2] at e; cases e
          have Nt : News g' L' h10 tl := fun p hp => N9 p (mem_drop 9 hp)
          have gn : goG (fun j => nn.getD j []) g tabx u = goT (fun j => nn.getD j []) tabx u := by rw [goG, if_neg hug2]
          refine' seat_fr (laid := []) (lts := []) (nd := 0) (N₀ := N) X' T' rfl ?r9 F9 N9 (mem_at 4 rfl) (mem_at 5 rfl) (mem_at 3 rfl) (.tail _ (.head _)) (.head _) ?e9 Ents.nil ⟨p1, p2, p3⟩ ?rr9 ?nn9 hnn hnk htx4 ?z9 u _ hu4 ?_ ?_
          (case e9 => exact hEx _ F9.keep Nt)
          (case rr9 => exact RRg.mono gro9)
          (case nn9 => exact NNg.mono gro9)
          (case r9 => k_extra "room")
          (case z9 => simp only [List.length_nil]; first | (k_extra "clr"; omega) | omega)
          · intro h8 tk8 hres F8 e8 _
            have N8 : News g' L' h8 ((I, oI) :: (D, listOf (refs ts').toArray n') :: (x2, instObj 242 d2) :: (d2, hdict hk2 kt2 D dn2) :: (L' + 1, oG) :: (tb, instObj 242 d) :: (d, dictOf [⟨hk, .str (Str.ofString "_headers") kt, .ref hl⟩] dn) :: tl) := fun p hp => by
              have z := N9 p (.tail _ (.tail _ hp))
              exact ⟨e8 _ _ z.1 (by rw [List.mem_singleton]; exact Nat.ne_of_lt (allLt_mem (l := (I, oI) :: (D, listOf (refs ts').toArray n') :: (x2, instObj 242 d2) :: (d2, hdict hk2 kt2 D dn2) :: (L' + 1, oG) :: (tb, instObj 242 d) :: (d, dictOf [⟨hk, .str (Str.ofString "_headers") kt, .ref hl⟩] dn) :: tl) lo1 p hp)), z.2⟩
            clear F9 N9
            repeat' (first | (k_unfold; (try dsimp only)) | (k_extra "mycall") | (k_extra "mystep") | (k_extra "no for"; k_extra "head"))
            ((with_reducible rename Fr _ _ _ _ => F9); (with_reducible rename News _ _ _ _ => N9))
            exact K9 _ _ (TurnEndM.mk F9 N9 off2 (.mk n' ts' tabx N tl (by rw [hstep, gn, goT, hres]) htx4 (Nat.le_trans htxl (Nat.add_le_add_left (Nat.mul_le_mul_left 5 (Nat.le_succ i)) 4)) htc hEx m1 m2 m3))
          · intro h8 tk8 nl8 ts8 lts8 nd8 ds tl8 hres F8 e8 hD8 _ tn8 tcd8 hE8 _
            have tc8 := fun p hp => (tcd8 p hp).1
            have N8 : News g' L' h8 ((I, oI) :: (D, listOf (refs ts8).toArray nl8) :: (x2, instObj 242 d2) :: (d2, hdict hk2 kt2 D dn2) :: (L' + 1, oG) :: (tb, instObj 242 d) :: (d, dictOf [⟨hk, .str (Str.ofString "_headers") kt, .ref hl⟩] dn) :: tl8) := ledger3 N9 e8 tn8 (fa_cons (.inl ⟨.tail _ (.tail _ (.head _)), b0.symm, Nat.ne_of_lt lo1.1, Nat.ne_of_lt lo2.2.1⟩) (fa_cons (.inr (.inl ⟨hD8, _, .tail _ (mem_at 2 rfl)⟩)) (fa_cons (.inl ⟨.tail _ (mem_at 3 rfl), z2, Nat.ne_of_lt lo1.2.2.1, Nat.ne_of_lt lo2.2.2.2.1⟩) (fa_cons (.inl ⟨.tail _ (mem_at 4 rfl), z3, Nat.ne_of_lt lo1.2.2.2.1, Nat.ne_of_lt lo2.2.2.2.2.1⟩) (fa_cons (.inl ⟨.tail _ (mem_at 5 rfl), z4, Nat.ne_of_lt lo1.2.2.2.2.1, Nat.ne_of_lt lo2.2.2.2.2.2.1⟩) (fa_cons (.inl ⟨.tail _ (mem_at 6 rfl), z5, Nat.ne_of_lt lo1.2.2.2.2.2.1, Nat.ne_of_lt lo2.2.2.2.2.2.2.1⟩) (fa_cons (.inl ⟨.tail _ (mem_at 7 rfl), z6, Nat.ne_of_lt lo1.2.2.2.2.2.2.1, Nat.ne_of_lt lo2.2.2.2.2.2.2.2.1⟩) (fun p hp => .inr (.inr hp)))))))))
            have o8 : OwnOff tl8 [I] := tail_off tn8 tc8 fun a ha => by rw [List.mem_singleton.mp ha]; exact ⟨_, (N8 _ (.head _)).1, hcI ▸ type_ne (by decide)⟩
            clear F9 N9
            repeat' (first | (k_unfold; (try dsimp only)) | (k_extra "mycall") | (k_extra "mystep") | (k_extra "no for"; k_extra "head"))
            ((with_reducible rename Fr _ _ _ _ => F9); (with_reducible rename News _ _ _ _ => N9))
            have hds := seatN_len _ _ _ _ hres
            have hsl := setAll_len ds tabx
            refine K9 _ _ (TurnEndM.mk F9 N9 ?_ (.mk nl8 ts8 (ds.foldl setT tabx) (max N tk8) tl8 (by rw [hstep, gn, goT, hres]) (setAll_ok htx4 (seatN_ok (fun k g e => lookT_lt htx4 e) ?_ 5 u [] ds hu4 hres)) (by first | (k_extra "clr"; omega) | omega) tc8 (fun h2 k2 n2 => (hE8 h2 k2 n2).1) m1 m2 m3))
            · intro p hp
              rcases List.mem_cons.mp hp with rfl | hp
              · exact b0
              rcases List.mem_cons.mp hp with rfl | hp
              · exact b1
              rcases List.mem_cons.mp hp with rfl | hp
              · exact b2
              rcases List.mem_cons.mp hp with rfl | hp
              · exact off2 _ (mem_at 3 rfl)
              rcases List.mem_cons.mp hp with rfl | hp
              · exact off2 _ (mem_at 4 rfl)
              rcases List.mem_cons.mp hp with rfl | hp
              · exact off2 _ (mem_at 5 rfl)
              · exact o8 p hp _ (.head _)
            · exact near_lt hnk
        · ((with_reducible rename Fr _ _ _ _ => F9); (with_reducible rename News _ _ _ _ => N9))
          rename (((u : Nat) : Int) = _) => hug
          have hug2 : u = g := Int.ofNat.inj hug
          exact K9 _ _ (TurnEndM.mk F9 N9 off2 (.mk n' ts' tabx N tl (by rw [hstep, goG, if_pos hug2]) htx4 (Nat.le_trans htxl (Nat.add_le_add_left (Nat.mul_le_mul_left 5 (Nat.le_succ i)) 4)) htc hEx m1 m2 m3))
      · intro m₁ news₁ h tk hz4q F₁ N₁
        refine absG fun G9 hG9 => ?_
        obtain ⟨n', ts', tabx, N, tl, htx, htx4, htxl, htc, hEx, m1, m2, m3⟩ := hz4q
        clear F9 N9
        have hwl2 : wvs.length = wo.length := by have := IntsAre.length hwn; simpa [nums] using this
        refine hG9 ?_; clear hG9
        rw [hwl2, List.take_of_length_le (Nat.le_refl _)] at htx
        rw [← htx] at ret
        dsimp only
        repeat' (first | (k_unfold; (try dsimp only)) | (k_extra "mycall") | (k_extra "mystep") | (k_extra "no for"; (fail_if_success (with_reducible show wpAny _ _ (call (Value.ref _) _ _) _ _ _)); k_extra "head"))
        ((with_reducible rename Fr _ _ _ _ => F9); (with_reducible rename News _ _ _ _ => N9))
        refine' c_hintT (hl := D) X' T' rfl ?e9 ?r9 (Tab.in4 N9 ?s9 rfl (hEx _ F9.keep fun p hp => N9 p (mem_drop 6 hp)) (ents_hel htx4)) ?z9 ?_
        (case e9 => exact F9.keep)
        (case r9 => k_extra "room")
        (case s9 =>
          intro q hq
          rcases List.mem_cons.mp hq with rfl | hq
          · exact .tail _ (.head _)
          rcases List.mem_cons.mp hq with rfl | hq
          · exact .tail _ (.tail _ (.head _))
          · rw [List.mem_singleton.mp hq]; exact .head _)
        (case z9 => simp only [ents, List.length_map]; first | (k_extra "clr"; omega) | omega)
        intro t9 h9 tk9 e9
        have F6 := Mine.Fr.ext F9 e9
        have N6 := Mine.News.ext N9 e9
        clear F9 N9 e9
        repeat' (first | (k_unfold; (try dsimp only)) | (k_extra "mycall") | (k_extra "mystep") | (k_extra "no for"; k_extra "head"))
        ((with_reducible rename Fr _ _ _ _ => F9); (with_reducible rename News _ _ _ _ => N9))
        ((repeat' (first | k_unfold | dsimp only)))
        rw [show (ents tabx).length = tabx.length from List.length_map ..]
        refine ret _ _ _ (ext_ms (fun q hq => (hms q hq).1) G' F9 N9 (fun q hq => .inl ?_))
        rcases List.mem_cons.mp hq with rfl | hq
        · exact .tail _ (mem_at 3 rfl)
        · rw [List.mem_singleton.mp hq]; exact .tail _ (mem_at 4 rfl)

noncomputable def gb (bd : Int) (g r : List Nat) : Bool := (decide (lev g r bd ≤ bd) == decide (prOf g r ≤ bd)) && (!decide (lev g r bd ≤ bd) || lev g r bd == prOf g r)
noncomputable def words1 : List (List Nat) := abAB.map fun a => [a]
noncomputable def words2 : List (List Nat) := abAB.flatMap fun a => abAB.map fun b => [a, b]
noncomputable def words3 (a : Nat) : List (List Nat) := abAB.flatMap fun b => abAB.map fun c => [a, b, c]
noncomputable def allW : List (List Nat) := words1 ++ words2 ++ (words3 97 ++ words3 65 ++ words3 98 ++ words3 66)
noncomputable def roomsL (k : Nat) : List (List Nat) := [roomW k false false, roomW k false true, roomW k true false, roomW k true true]
noncomputable def gk (k : Nat) (bd : Int) : Bool := allW.all fun g => (roomsL k).all fun r => gb bd g r
theorem g02 : gk 0 2 = true := by decide +kernel
theorem g03 : gk 0 3 = true := by decide +kernel
theorem g04 : gk 0 4 = true := by decide +kernel
theorem g12 : gk 1 2 = true := by decide +kernel
theorem g13 : gk 1 3 = true := by decide +kernel
theorem g14 : gk 1 4 = true := by decide +kernel
theorem g22 : gk 2 2 = true := by decide +kernel
theorem g23 : gk 2 3 = true := by decide +kernel
theorem g24 : gk 2 4 = true := by decide +kernel
theorem g32 : gk 3 2 = true := by decide +kernel
theorem g33 : gk 3 3 = true := by decide +kernel
theorem g34 : gk 3 4 = true := by decide +kernel
theorem gk_all : ∀ k, k < 4 → ∀ bd : Int, (bd = 2 ∨ bd = 4 ∨ bd = 3) → gk k bd = true := by
  rintro k hk bd (rfl | rfl | rfl)
  · match k, hk with
    | 0, _ => exact g02
    | 1, _ => exact g12
    | 2, _ => exact g22
    | 3, _ => exact g32
  · match k, hk with
    | 0, _ => exact g04
    | 1, _ => exact g14
    | 2, _ => exact g24
    | 3, _ => exact g34
  · match k, hk with
    | 0, _ => exact g03
    | 1, _ => exact g13
    | 2, _ => exact g23
    | 3, _ => exact g33
theorem GW_mem {g : List Nat} (h : GW g) : g ∈ allW := by
  obtain ⟨h1, h2, h3⟩ := h
  have m3 : ∀ a ∈ abAB, ∀ b ∈ abAB, ∀ c ∈ abAB, [a, b, c] ∈ allW := by decide +kernel
  have m2 : ∀ a ∈ abAB, ∀ b ∈ abAB, [a, b] ∈ allW := by decide +kernel
  have m1 : ∀ a ∈ abAB, [a] ∈ allW := by decide +kernel
  match g, h1, h2, h3 with
  | [a], _, _, h => exact m1 a (h a (by simp))
  | [a, b], _, _, h => exact m2 a (h a (by simp)) b (h b (by simp))
  | [a, b, c], _, _, h => exact m3 a (h a (by simp)) b (h b (by simp)) c (h c (by simp))
theorem RW_mem {k : Nat} {r : List Nat} (h : RW k r) : r ∈ roomsL k := by
  obtain ⟨b0, b1, rfl⟩ := h
  cases b0 <;> cases b1 <;> simp [roomsL]
theorem good_all {g r : List Nat} {k : Nat} {bd : Int} (hg : GW g) (hk : k < 4) (hr : RW k r) (hb : bd = 2 ∨ bd = 4 ∨ bd = 3) : goodP g r bd := by
  have h := gk_all k hk bd hb
  unfold gk at h
  have h2 := List.all_eq_true.mp (List.all_eq_true.mp h g (GW_mem hg)) r (RW_mem hr)
  unfold gb at h2
  rw [Bool.and_eq_true, beq_iff_eq, Bool.or_eq_true] at h2
  obtain ⟨a, b⟩ := h2
  refine ⟨by rw [← decide_eq_decide]; exact a, fun hl => ?_⟩
  rcases b with b | b
  · rw [decide_eq_true hl] at b; cases b
  · simpa using b
theorem room_facts : ∀ k, k < 4 → ∀ b0 b1 : Bool, Txt.lower (S (roomW k b0 b1)) = low k ∧ Txt.upper (S (roomW k b0 b1)) = upp k ∧ (roomW k b0 b1).length < 20 := by decide +kernel
theorem RW_facts {k : Nat} {r : List Nat} (hk : k < 4) (h : RW k r) : Txt.lower (S r) = low k ∧ Txt.upper (S r) = upp k ∧ r.length < 20 := by
  obtain ⟨b0, b1, rfl⟩ := h; exact room_facts k hk b0 b1

noncomputable def dEnt (e : Str × Str) : PyData := .tuple [.str e.1, .str e.2]
theorem ents_reads {P : Tok → Prop} {h : Heap} : ∀ {ts : List Addr} {es : List (Str × Str)}, Ents P h ts es → ∃ as, ReadsAll h (refs ts) (es.map dEnt) as
  | [], [], _ => ⟨[], .nil⟩
  | [], _ :: _, E => absurd E.1 (by simp)
  | _ :: _, [], E => absurd E.1 (by simp)
  | t :: ts, e :: es, E => by
    obtain ⟨as, r⟩ := ents_reads E.uncons.2
    obtain ⟨k1, k2, _, o, ho, hc, n, hd⟩ := E.2 0 t e rfl rfl
    exact ⟨_, .cons (.tuple ho hc hd (.cons (.str _ _) (.cons (.str _ _) .nil))) r⟩
theorem dEnt_eqv : ∀ es : List (Str × Str), PyData.eqvAll (es.map dEnt) (es.map dEnt) = true
  | [] => by simp [PyData.eqvAll]
  | e :: es => by
    rw [List.map_cons, PyData.eqvAll, dEnt_eqv es]
    simp [dEnt, PyData.eqv, PyData.eqvAll]
theorem dEnt_lay : ∀ es : List (Str × Str), (∀ e ∈ es, PyData.strOk e.1 = true ∧ PyData.strOk e.2 = true) → PyData.canLayAll0 (es.map dEnt) = true
  | [], _ => by simp [PyData.canLayAll0]
  | e :: es, h => by
    rw [List.map_cons, PyData.canLayAll0, dEnt_lay es fun x hx => h x (List.mem_cons_of_mem _ hx)]
    obtain ⟨h1, h2⟩ := h e List.mem_cons_self
    simp [dEnt, PyData.canLay0, PyData.canLayAll0, h1, h2]
theorem low_sok : ∀ k, k < 4 → PyData.strOk (low k) = true ∧ PyData.strOk (upp k) = true ∧ PyData.strOk (fig k) = true := by decide +kernel
theorem ents_sok {tab : List (Nat × Nat)} (ht : ∀ p ∈ tab, p.1 < 4 ∧ p.2 < 4) : ∀ e ∈ ents tab, PyData.strOk e.1 = true ∧ PyData.strOk e.2 = true := fun e he => by
  obtain ⟨p, hp, rfl⟩ := List.mem_map.mp he
  obtain ⟨h1, h2⟩ := ht p hp
  refine ⟨?_, (low_sok _ h2).2.2⟩
  show PyData.strOk (nameOf p.2 p.1) = true
  unfold nameOf; split
  · exact (low_sok _ h1).2.1
  · exact (low_sok _ h1).1
theorem dEnt_depth : ∀ es : List (Str × Str), PyData.depthAll (es.map dEnt) ≤ 4
  | [] => by simp [PyData.depthAll]
  | e :: es => by
    have ih := dEnt_depth es
    rw [List.map_cons, PyData.depthAll]
    simp only [dEnt, PyData.depth, PyData.depthAll]
    omega
theorem ne_ents {prog : Program} {w : World} {A : Around} {E : Value → Shared → Prop} {s : Shared} {a b : Addr} {P P2 : Tok → Prop} {ts ts2 : List Addr} {es : List (Str × Str)} {oa ob : Obj} {n n2 : Nat} {Q : Value → Shared → Prop}
    (ha : s.heap.get? a = some oa) (ca : oa.cls = .type "list") (da : oa.data = .seq (refs ts).toArray n) (hb : s.heap.get? b = some ob) (cb : ob.cls = .type "list") (db : ob.data = .seq (refs ts2).toArray n2) (E1 : Ents P s.heap ts es) (E2 : Ents P2 s.heap ts2 es) (hok : ∀ e ∈ es, PyData.strOk e.1 = true ∧ PyData.strOk e.2 = true) (hu : A.units + 10 < cLine) (h : Q (.bool false) s) :
    wpAny (model prog w) A (compareOp .NotEq (.ref a) (.ref b)) Q E s := by
  obtain ⟨as, r1⟩ := ents_reads E1
  obtain ⟨bs, r2⟩ := ents_reads E2
  have hd := dEnt_depth es
  refine SeqAt.compareNe_reads (da := .list (es.map dEnt)) (db := .list (es.map dEnt)) (.list ha ca da (by rw [List.toList_toArray]; exact r1)) (.list hb cb db (by rw [List.toList_toArray]; exact r2)) ?_ ?_ ?_ ?_
  · rw [PyData.canLay0]; exact dEnt_lay es hok
  · rw [PyData.canLay0]; exact dEnt_lay es hok
  · rw [Nat.min_self, PyData.depth]; omega
  · rw [PyData.eqv, dEnt_eqv es]; exact h
theorem ints_reads {h : Heap} : ∀ {vs : List Value} {ns : List Int}, IntsAre vs ns → ∃ as, ReadsAll h vs (ns.map PyData.int) as
  | _, _, .nil => ⟨[], .nil⟩
  | _, _, .cons n t r => let ⟨as, q⟩ := ints_reads r; ⟨_, .cons (.int n t) q⟩
theorem int_eqv : ∀ ns : List Int, PyData.eqvAll (ns.map .int) (ns.map .int) = true
  | [] => by simp [PyData.eqvAll]
  | n :: ns => by rw [List.map_cons, PyData.eqvAll, int_eqv ns]; simp [PyData.eqv]
theorem int_lay : ∀ ns : List Int, PyData.canLayAll0 (ns.map .int) = true
  | [] => by simp [PyData.canLayAll0]
  | n :: ns => by rw [List.map_cons, PyData.canLayAll0, int_lay ns]; simp [PyData.canLay0]
theorem int_depth : ∀ ns : List Int, PyData.depthAll (ns.map .int) ≤ 4
  | [] => by simp [PyData.depthAll]
  | n :: ns => by
    have ih := int_depth ns
    rw [List.map_cons, PyData.depthAll, PyData.depth]
    omega
section
variable {prog : Program} {w : World} {A : Around} {E : Value → Shared → Prop} {s : Shared} {a b : Addr} {vs ws : List Value} {ns : List Int} {oa ob : Obj} {n n2 : Nat} {Q : Value → Shared → Prop}
theorem ne_ints (ha : s.heap.get? a = some oa) (ca : oa.cls = .type "list") (da : oa.data = .seq vs.toArray n) (hb : s.heap.get? b = some ob) (cb : ob.cls = .type "list") (db : ob.data = .seq ws.toArray n2) (I1 : IntsAre vs ns) (I2 : IntsAre ws ns) (hu : A.units + 10 < cLine) (h : Q (.bool false) s) :
    wpAny (model prog w) A (compareOp .NotEq (.ref a) (.ref b)) Q E s := by
  obtain ⟨as, r1⟩ := ints_reads (h := s.heap) I1
  obtain ⟨bs, r2⟩ := ints_reads (h := s.heap) I2
  have hd := int_depth ns
  refine SeqAt.compareNe_reads (da := .list (ns.map .int)) (db := .list (ns.map .int)) (.list ha ca da (by rw [List.toList_toArray]; exact r1)) (.list hb cb db (by rw [List.toList_toArray]; exact r2)) ?_ ?_ ?_ ?_
  · rw [PyData.canLay0]; exact int_lay ns
  · rw [PyData.canLay0]; exact int_lay ns
  · rw [Nat.min_self, PyData.depth]; omega
  · rw [PyData.eqv, int_eqv ns]; exact h
theorem eq_ints (ha : s.heap.get? a = some oa) (ca : oa.cls = .type "list") (da : oa.data = .seq vs.toArray n) (hb : s.heap.get? b = some ob) (cb : ob.cls = .type "list") (db : ob.data = .seq ws.toArray n2) (I1 : IntsAre vs ns) (I2 : IntsAre ws ns) (hu : A.units + 10 < cLine) (h : Q (.bool true) s) :
    wpAny (model prog w) A (compareOp .Eq (.ref a) (.ref b)) Q E s := by
  obtain ⟨as, r1⟩ := ints_reads (h := s.heap) I1
  obtain ⟨bs, r2⟩ := ints_reads (h := s.heap) I2
  have hd := int_depth ns
  refine SeqAt.compareEq_reads (da := .list (ns.map .int)) (db := .list (ns.map .int)) (.list ha ca da (by rw [List.toList_toArray]; exact r1)) (.list hb cb db (by rw [List.toList_toArray]; exact r2)) ?_ ?_ ?_ ?_
  · rw [PyData.canLay0]; exact int_lay ns
  · rw [PyData.canLay0]; exact int_lay ns
  · rw [Nat.min_self, PyData.depth]; omega
  · rw [PyData.eqv, int_eqv ns]; exact h
end

noncomputable def lastP (laid : List (Nat × Nat)) (k : Nat) : Bool := !((laid.drop (k + 1)).any fun q => q.1 == (laid.getD k (0, 0)).1)
theorem Ents.drop {P : Tok → Prop} {h : Heap} {ts : List Addr} {es : List (Str × Str)} (E : Ents P h ts es) (n : Nat) : Ents P h (ts.drop n) (es.drop n) :=
  ⟨by rw [List.length_drop, List.length_drop, E.1], fun i t e h1 h2 => by rw [List.getElem?_drop] at h1 h2; exact E.2 _ t e h1 h2⟩
theorem ents_drop (laid : List (Nat × Nat)) (n : Nat) : (ents laid).drop n = ents (laid.drop n) := by unfold ents; rw [List.map_drop]
theorem slice_refs {prog : Program} {w : World} {A : Around} {E : Value → Shared → Prop} {s : Shared} {h₀ : Heap} {L : Addr} {m : Str → Option Value} {news : List (Addr × Obj)} {value slice : PySem.Expr} {Q : Value → Shared → Prop} {l : Addr} {lts : List Addr} {i : Nat} {z : Int} {ui : Tok} (F : Fr h₀ L s.heap m) (N : News h₀ L s.heap news) (hl : s.heap.IsList l (refs lts).toArray) (hz : z = (i : Nat)) (hi : i ≤ lts.length) (h9 : lts.length < 1000)
    (k : ∀ D h', Fr h₀ L h' m → News h₀ L h' ((D, listOf (refs (lts.drop i)).toArray 0) :: news) → (∀ p ∈ news, p.1 < D) → Q (.ref D) { s with heap := h' })
    (hs : subscripted slice false (.ref l) (.ref s.heap.objs.size) = operate [.ref s.heap.objs.size, .ref l] (getItem (.ref l) (.ref s.heap.objs.size)) := by with_unfolding_all rfl) (ht : ∀ r, letTemporaryGo value (.ref l) r = pure () := by intro _; with_unfolding_all rfl) :
    wpAny (model prog w) A (subscriptTail value slice (.ref l) (.ref s.heap.objs.size)) Q E { s with heap := s.heap.push { cls := .type "slice", data := .fields #[.int z ui, .none, .none] } } := by
  subst hz
  refine kms_slice_lit (lo := some ((i : Nat) : Int)) (hi := none) F N hl (.int _ _) .none ?_ k hs ht (by rw [List.size_toArray, refs, List.length_map, sizeLine_eq]; omega)
  have h0 : ¬ ((i : Nat) : Int) < 0 := by omega
  unfold kms_pick kms_lo kms_hi
  simp only [h0, if_false, Int.toNat_natCast, List.toList_toArray]
  rw [show (refs lts).length = lts.length from List.length_map .., Nat.min_eq_left hi, refs, refs, List.map_drop]
  exact List.take_of_length_le (by rw [List.length_drop, List.length_map]; exact Nat.le_refl _)
theorem take_rangeN {i : Nat} {p : Nat → Bool} : (List.range (i + 1)).filter p = (List.range i).filter p ++ (if p i then [i] else []) := by
  rw [List.range_succ, List.filter_append]; congr 1; simp [List.filter_cons]
theorem getD_snoc {l : List (Nat × Nat)} {p : Nat × Nat} {k : Nat} (h : k < l.length) : (l ++ [p]).getD k (0, 0) = l.getD k (0, 0) := by
  rw [List.getD_eq_getElem?_getD, List.getD_eq_getElem?_getD, List.getElem?_append_left h]
theorem lastP_snoc {l : List (Nat × Nat)} {p : Nat × Nat} {k : Nat} (h : k < l.length) : lastP (l ++ [p]) k = (lastP l k && (l.getD k (0, 0)).1 != p.1) := by
  unfold lastP
  rw [getD_snoc h, List.drop_append_of_le_length (by first | (k_extra "clr"; omega) | omega), List.any_append]
  simp only [List.any_cons, List.any_nil, Bool.or_false, Bool.not_or, bne]
  rw [Bool.beq_comm (a := p.1)]
theorem foldl_last' (r : List (Nat × Nat)) : r.reverse.foldl setT [] = ((List.range r.reverse.length).filter (lastP r.reverse)).map fun k => r.reverse.getD k (0, 0) := by
  induction r with
  | nil => rfl
  | cons p r ih =>
    rw [List.reverse_cons]
    refine gen (r.reverse) fun l hl => ?_
    rw [← hl] at ih ⊢
    rw [List.foldl_append, List.foldl_cons, List.foldl_nil, setT, ih, List.length_append, List.length_singleton, List.range_succ, List.filter_append, List.map_append]
    congr 1
    · rw [List.filter_map, List.filter_filter, List.filter_congr (q := lastP (l ++ [p])) fun k hk => by
        rw [lastP_snoc (List.mem_range.mp hk), Bool.and_comm]; rfl]
      refine List.map_congr_left fun k hk => ?_
      exact (getD_snoc (List.mem_range.mp (List.mem_filter.mp hk).1)).symm
    · have : lastP (l ++ [p]) l.length = true := by
        unfold lastP; rw [List.drop_of_length_le (by rw [List.length_append, List.length_singleton]; exact Nat.le_refl _)]; rfl
      rw [List.filter_cons, if_pos this, List.filter_nil, List.map_cons, List.map_nil, List.getD_eq_getElem?_getD, List.getElem?_append_right (Nat.le_refl _), Nat.sub_self]
      rfl
theorem foldl_last (laid : List (Nat × Nat)) : laid.foldl setT [] = ((List.range laid.length).filter (lastP laid)).map fun k => laid.getD k (0, 0) := by
  have := foldl_last' laid.reverse; rwa [List.reverse_reverse] at this
theorem wo_len' (tab : List (Nat × Nat)) : (withoutT tab).length ≤ 4 := by unfold withoutT; exact Nat.le_trans (List.length_filter_le _ _) (Nat.le_refl 4)
theorem one_small60 : ∀ n : Nat, n < 60 → Builtin.Range.small 0 (n : Nat) 1 = true := by decide +kernel
set_option hygiene false

theorem c_holds {w : World} {loose : List Str} {mean : ExcName → Option Value} {mg mb : Str → Option Value} {ht : Heap} (X : (Mine.hd.heap_1 w.params).In ht) (T : Top Mine.hd.view_1 loose mean mg mb ht) {A : Around} (hA : A.handled = none) {s : Shared} (ek : ht.StaysIn s.heap) {Q E : Value → Shared → Prop} (hroom : A.depth + 30 < recursionLimit) (hun : A.units + 200 < cLine) {N₀ : Nat} {tb d hl rl nrl ldl cml : Addr} {ol : Obj} {nl nd cn : Nat} {ts lts : List Addr} {tab laid : List (Nat × Nat)} {nn : List (List Nat)} {cvs : List Value} {cs : List Nat}
    (TB : Tab (tokP N₀) ht s.heap tb d hl ol nl ts (ents tab)) (hN : N₀ ≤ s.toks) (h1 : 1 ≤ s.toks) (RR : RoomsAt s.heap rl) (NN : NearAt s.heap nrl nn) (hnn : nn.length = 4) (hnk : ∀ ks ∈ nn, ∀ k ∈ ks, k < 4) (htab : ∀ p ∈ tab, p.1 < 4 ∧ p.2 < 4) (hlaid : ∀ p ∈ laid, p.1 < 4 ∧ p.2 < 4)
    (hld : s.heap.get? ldl = some (listOf (refs lts).toArray nd)) (EL : Ents (fun _ => True) s.heap lts (ents laid)) (hll : laid.length < 60) (htb : tab = laid.foldl setT []) (hcm : s.heap.get? cml = some (listOf cvs.toArray cn)) (hcs : NumsAre cvs cs)
    (mst : Int) (tm : Tok) (hm : (tab.length : Int) = 4 - mst) (hm2 : ((withoutT tab).length : Int) = mst)
    (R : Nat → Prop) (hR : ∀ g, R g → g < 4 → ∀ k ∈ nn.getD g [], ∃ q, lookT tab k = some q ∧ R q) (hwo : ∀ g ∈ withoutT tab, g < 4 ∧ R g)
    (hwk : ∀ ns : List Int, ns.Perm (nums (wOf (fun j => nn.getD j []) tab)) → ns.Pairwise (· ≤ ·) → ns = nums cs)
    (ret : ∀ h' tk', Ext [] s.heap h' → Q (.bool true) { s with heap := h', toks := tk' }) :
    wpAny (model PySem.Challenge.rw_ti0061_01.prog w) A (call (.ref 306) [.ref tb, .ref rl, .ref nrl, .ref ldl, .int mst tm, .ref cml] []) Q E s := by
  ((revert X; k_fill; intro X; obtain ⟨hh, dp, fr, gd, un⟩ := A; cases hA; (dsimp only at hroom)))
  dsimp only at hun
  refine absG fun G9 hG9 => ?_
  obtain ⟨hk, kt, dn, hms⟩ := Tab.ms TB.toTabI
  refine hG9 ?_; clear hG9
  refine' callMT [(tb, instObj 242 d), (d, dictOf [⟨hk, .str (Str.ofString "_headers") kt, .ref hl⟩] dn)] ?k1 ?k2 ?k3 ?k4 ?k6 ?k7 ?k8 ?k9 ?kB ?kD ?_ ?c2 ?c3 ?c4
  (case k4 => exact hms)
  ((case k1 => assumption); (case k2 => assumption); (case k3 => assumption); (case k6 => k_is); (case k7 => k_is); (case k8 => k_extra "room"); (case k9 => first | exact BindsTo.of_eq rfl | exact binds_K (Frag.In.keeps (by assumption) (by assumption)) rfl (by k_is) rfl rfl rfl); (case kB => exact rfl); (case kD => decide +kernel); (case c2 => exact rfl); (case c3 => exact rfl); (case c4 => exact rfl))
  ((intro g' L' h' tk' cells' F' N' Y' X' T' G' st' l' l1'; (try k_lt l1'); k_cells Y'; (try simp only [List.cons_append, List.nil_append] at N'); (try dsimp only); (try k_fold)))
  rename_i oL dL
  intro htk0
  have gro : ∀ b o, s.heap.get? b = some o → o.cls = .type "list" → g'.get? b = some o := fun b o e hc => G' b o e (by
    have m4 : b ≠ tb := ne_cls e TB.inst (hc ▸ type_ref)
    have m5 : b ≠ d := ne_cls e (hms _ (.tail _ (.head _))).1 (hc ▸ type_ne (by decide))
    simp [m4, m5])
  have gld := gro _ _ hld rfl
  have glts : Ents (fun _ => True) g' lts (ents laid) := EL.keeps2 fun t o ho hc => G' _ _ ho (by
    have m4 : t ≠ tb := ne_cls ho TB.inst (hc ▸ type_ref)
    have m5 : t ≠ d := ne_cls ho (hms _ (.tail _ (.head _))).1 (hc ▸ type_ne (by decide))
    simp [m4, m5])
  have hlt : lts.length = laid.length := by have := glts.1; simpa [ents] using this
  (repeat' (first | (k_unfold; (try dsimp only)) | (k_extra "mycall") | (k_extra "mystep") | (k_extra "no for"; k_extra "head")))
  ((with_reducible rename Fr _ _ _ _ => F9); (with_reducible rename News _ _ _ _ => N9))
  refine compAE F9 (by with_unfolding_all rfl) (by with_unfolding_all rfl) (by decide) (by rfl) (by decide) (by rfl) (by rfl) ?_
  refine wpAny_toks ?_
  have hrl : (refs lts).length = laid.length := by rw [refs, List.length_map, hlt]
  have hil : h'.IsList ldl (refs lts).toArray := ⟨_, F9.keep _ _ gld, rfl, _, rfl⟩
  repeat' (first | (k_unfold; (try dsimp only)) | (k_extra "mycall") | (k_extra "mystep") | (k_extra "no for"; k_extra "head"))
  ((with_reducible rename Fr _ _ _ _ => F9); (with_reducible rename News _ _ _ _ => N9))
  intro htk1
  dsimp only at htk1
  rename IsRange _ _ _ _ _ _ _ _ => hr1
  rw [show (refs lts).toArray.size = laid.length by rw [List.size_toArray, hrl]] at hr1
  refine .inr ⟨_, 0, (laid.length : Nat), _, _, _, laid.length, _, fun v m => m (Str.ofString "k") = some v, fun i tk ys nw => nw = [(L' + 1, oL), (tb, instObj 242 d), (d, dictOf [⟨hk, .str (Str.ofString "_headers") kt, .ref hl⟩] dn)] ∧ (N₀ ≤ tk ∧ 1 ≤ tk) ∧ NumsAre ys ((List.range i).filter (lastP laid)), rfl, rfl, F9, N9, hr1, one_small60 _ hll, one_size _, Nat.le_trans (Nat.le_of_lt hll) (by decide), ?_, ?_, ?_, ?_⟩
  · intro i tk ys nw hz4q
    refine absG fun G9 hG9 => ?_
    obtain ⟨_, _, S⟩ := hz4q
    have h1 := IntsAre.length S
    have h2 := List.length_filter_le (lastP laid) (List.range i)
    refine hG9 ?_; clear hG9
    simp only [nums, List.length_map, List.length_range] at h1 h2
    omega
  · intro tk htk
    dsimp only at htk
    exact ⟨rfl, ⟨by omega, by omega⟩, .nil⟩
  · rintro s₂ ⟨hs2, rfl⟩
    constructor
    · intro i t hi
      exact asgName rfl rfl _
    · intro i v tk₀ tk ys nw I oI D C oC m₂ h E' hi hz15q hz16q htk hNs hKV F₁ N₁ off hz23q
      refine absG fun G9 hG9 => ?_
      obtain ⟨tv, rfl⟩ := hz15q
      obtain ⟨rfl, hT, S⟩ := hz16q
      obtain ⟨ne1, ne2, ne3, ne4, _⟩ := hz23q
      clear F9 N9
      refine hG9 ?_; clear hG9
      rw [Int.zero_add] at hKV
      obtain ⟨vt, hvt⟩ : ∃ v, (refs lts)[i]? = some v:= ⟨_, List.getElem?_eq_getElem (by first | (k_extra "clr"; omega) | omega)⟩
      refine absG fun G9 hG9 => ?_
      obtain ⟨t, e, k1, k2, rfl, he, _, htup⟩ := glts.item hvt
      obtain ⟨p, hp, rfl⟩ := ents_at he
      have hpt := hlaid p (List.mem_of_getElem? hp)
      have hnl := name_len (g := p.2) hpt.1
      have htup2 : h.IsTuple t #[.str (entOf p).1 k1, .str (entOf p).2 k2] := let ⟨o, a, b⟩ := htup; ⟨o, F₁.keep _ _ a, b⟩
      refine hG9 ?_; clear hG9
      dsimp only [entOf] at htup2
      have oo : ∀ p ∈ [(L' + 1, oL), (tb, instObj 242 d), (d, dictOf [⟨hk, .str (Str.ofString "_headers") kt, .ref hl⟩] dn)], p.1 ≠ C := fun p hp q => off p hp (by rw [q]; exact .tail _ (.tail _ (.head _)))
      refine TestM.one ?_
      refine wpAny_toks ?_
      try dsimp only
      repeat' (first | (k_unfold; (try dsimp only)) | (k_extra "mycall") | (k_extra "mystep") | (k_extra "no for"; (fail_if_success (with_reducible show wpAny _ _ (subscriptTail _ _ (Value.ref _) _) _ _ _)); k_extra "head"))
      ((with_reducible rename Fr _ _ _ _ => F9); (with_reducible rename News _ _ _ _ => N9))
      refine sub_list ⟨_, F9.keep _ _ gld, rfl, _, rfl⟩ hvt (by first | (k_extra "clr"; omega) | omega) ?_
      repeat' (first | (k_unfold; (try dsimp only)) | (k_extra "mycall") | (k_extra "mystep") | (k_extra "no for"; k_extra "head"))
      ((with_reducible rename Fr _ _ _ _ => F9); (with_reducible rename News _ _ _ _ => N9))
      refine absG fun G9 hG9 => ?_
      obtain ⟨oF, hF, F2, N2⟩ := into (nw' := [(I, oI), (D, LCg.lst ys), (L' + 1, oL), (tb, instObj 242 d), (d, dictOf [⟨hk, .str (Str.ofString "_headers") kt, .ref hl⟩] dn)]) F9 N9 (mem_at 2 rfl) hNs ne4 ((fa_cons (⟨.head _, ne1⟩) (fa_cons (⟨.tail _ (.head _), Ne.symm ne3⟩) (fun p hp => ⟨.tail _ (.tail _ (.tail _ hp)), oo p hp⟩))))
      have HF : Hid (Fr g' C h m₂) := F2
      refine hG9 ?_; clear hG9
      clear F2 N2 oF hF
      refine compE (show Fr g' C h m₂ from HF) (by with_unfolding_all rfl) (by decide) (by rfl) (by decide) ?_
      clear HF
      have hil2 : h.IsList ldl (refs lts).toArray := ⟨_, F9.keep _ _ gld, rfl, _, rfl⟩
      have hi1 : i + 1 ≤ (refs lts).length := by omega
      repeat' (first | (k_unfold; (try dsimp only)) | (k_extra "mycall") | (k_extra "mystep") | (k_extra "no for"; (fail_if_success (with_reducible show wpAny _ _ (subscriptTail _ _ (Value.ref _) _) _ _ _)); k_extra "head"))
      ((with_reducible rename Fr _ _ _ _ => F9); (with_reducible rename News _ _ _ _ => N9))
      refine slice_refs (s := ⟨_, _, _, _, _⟩) (i := i + 1) F9 N9 hil2 (by first | (k_extra "clr"; omega) | omega) (by first | (k_extra "clr"; omega) | omega) (by first | (k_extra "clr"; omega) | omega) fun D6 h6 F6 N6 l6 => ?_
      have hIo : OffC [I, D, C] [(L' + 1, oL), (tb, instObj 242 d), (d, dictOf [⟨hk, .str (Str.ofString "_headers") kt, .ref hl⟩] dn)] := off
      refine absG fun G9 hG9 => ?_
      obtain ⟨oF, hF, F7, N7⟩ := into (nw' := [(D6, listOf (refs (lts.drop (i + 1))).toArray 0), (I, oI), (D, LCg.lst ys), (L' + 1, oL), (tb, instObj 242 d), (d, dictOf [⟨hk, .str (Str.ofString "_headers") kt, .ref hl⟩] dn)]) F6 N6 (mem_at 3 rfl) hNs ne4 ((fa_cons (⟨.head _, (Nat.ne_of_lt (l6 _ (mem_at 2 rfl))).symm⟩) (fa_cons (⟨.tail _ (.head _), ne1⟩) (fa_cons (⟨.tail _ (.tail _ (.head _)), Ne.symm ne3⟩) (fun p hp => ⟨.tail _ (mem_drop 3 hp), oo p hp⟩)))))
      have gl2 : Ents (fun _ => True) g' (lts.drop (i + 1)) (ents (laid.drop (i + 1))) := by rw [← ents_drop]; exact glts.drop _
      have ha := F6.above
      have NL : Hid (News _ _ _ _) := N6
      clear F9 N9 F6 N6
      refine hG9 ?_; clear hG9
      ((with_reducible rename Fr _ _ _ _ => F9); (with_reducible rename News _ _ _ _ => N9))
      refine .inl ⟨D6, refs (lts.drop (i + 1)), _, listOf (refs (lts.drop (i + 1))).toArray 0, 0, KVP g' (Str.ofString "name") (Str.ofString "value"), fun j tk ks nw => nw = [(L', oF), (D6, listOf (refs (lts.drop (i + 1))).toArray 0), (I, oI), (D, LCg.lst ys), (L' + 1, oL), (tb, instObj 242 d), (d, dictOf [⟨hk, .str (Str.ofString "_headers") kt, .ref hl⟩] dn)] ∧ ks.length ≤ j ∧ StrsAre ks (((laid.drop (i + 1)).take j).map fun q => low q.1), rfl, rfl, F9, N9, rfl, rfl, .inr ⟨.tail _ (.head _), ?_⟩, ?_, ?_, ?_, ?_, ?_⟩
      · rintro j tk ks nw ⟨rfl, _⟩
        exact .tail _ (.head _)
      · rw [refs, List.length_map, List.length_drop]; exact Nat.le_trans (Nat.sub_le _ _) (Nat.le_trans (Nat.le_of_lt (by omega : lts.length < 60)) (by decide))
      · exact fun j tk ks nw h => h.2.1
      · exact fun tk h => ⟨rfl, Nat.le_refl _, .nil⟩
      · rintro s₃ ⟨hs3, rfl⟩
        constructor
        · intro j v hv
          refine absG fun G9 hG9 => ?_
          obtain ⟨t3, e3, k3, k4, rfl, he3, _, htup3⟩ := gl2.item hv
          refine hG9 ?_; clear hG9
          exact asgPair2 rfl rfl rfl rfl (by decide) htup3
        · intro j v tk₀ tk ks nw I3 oI3 D7 C3 oC3 m₃ h E' hj hv hz16q htk hNs3 hKV3 F₁ N₁ off3 ne5
          refine absG fun G9 hG9 => ?_
          obtain ⟨rfl, hkl, S3⟩ := hz16q
          clear F9 N9
          obtain ⟨t3, e3, k3, k4, rfl, he3, _, htup3⟩ := gl2.item hv
          obtain ⟨t', v1, v2, e1, ht', hk', hv'⟩ := hKV3
          refine hG9 ?_; clear hG9
          cases e1
          have e2 := tup_inj ht' htup3
          cases e2
          refine absG fun G9 hG9 => ?_
          obtain ⟨q, hq, rfl⟩ := ents_at he3
          have hqt := hlaid q (List.mem_of_mem_drop (List.mem_of_getElem? hq))
          have hql := name_len (g := q.2) hqt.1
          refine hG9 ?_; clear hG9
          refine TestM.nil ?_
          refine absQ fun Q7 K7 => ?_
          dsimp only [entOf] at hk'
          try dsimp only
          repeat' (first | (k_unfold; (try dsimp only)) | (k_extra "mycall") | (k_extra "mystep") | (k_extra "no for"; k_extra "head"))
          ((with_reducible rename Fr _ _ _ _ => F9); (with_reducible rename News _ _ _ _ => N9))
          refine K7 _ _ ?_
          refine ⟨_, _, _, rfl, F9, N9, off3, rfl, by rw [List.length_append]; exact Nat.succ_le_succ hkl, ?_⟩
          rw [List.take_add_one, hq, List.map_append, low_name hqt.1]
          exact StrsAre.append' S3 (.cons _ _ .nil)
      · intro D7 tk₀ tk ks nw h hz6q htk F₁ N₁ off3
        refine absG fun G9 hG9 => ?_
        obtain ⟨rfl, hkl, S3⟩ := hz6q
        clear F9 N9
        have F9 : Fr g' C h m₂ := F₁
        refine hG9 ?_; clear hG9
        clear F₁
        rw [show (laid.drop (i + 1)).take (refs (lts.drop (i + 1))).length = laid.drop (i + 1) from List.take_of_length_le (by rw [refs, List.length_map, List.length_drop, List.length_drop, hlt]; exact Nat.le_refl _)] at S3
        rw [low_name hpt.1]
        try dsimp only
        repeat' (first | (k_unfold; (try dsimp only)) | (k_extra "mycall") | (k_extra "mystep") | (k_extra "no for"; k_extra "head"))
        ((with_reducible rename Fr _ _ _ _ => F9); (with_reducible rename News _ _ _ _ => N9))
        intro htk2
        have hlp : (!((laid.drop (i + 1)).map fun q => low q.1).any fun x => x == low p.1) = lastP laid i := by
          unfold lastP
          congr 1
          rw [List.any_map]
          have hpi : (laid.getD i (0, 0)).1 = p.1 := by rw [List.getD_eq_getElem?_getD, hp]; rfl
          rw [hpi, Bool.eq_iff_iff, List.any_eq_true, List.any_eq_true]
          constructor
          · intro hz0q
            refine absG fun G9 hG9 => ?_
            obtain ⟨q, a, b⟩ := hz0q
            refine hG9 ?_; clear hG9
            exact ⟨q, a, by rw [← low_inj _ (hlaid q (List.mem_of_mem_drop a)).1 _ hpt.1]; exact b⟩
          · intro hz0q
            refine absG fun G9 hG9 => ?_
            obtain ⟨q, a, b⟩ := hz0q
            refine hG9 ?_; clear hG9
            exact ⟨q, a, by show (low q.1 == low p.1) = true; rw [low_inj _ (hlaid q (List.mem_of_mem_drop a)).1 _ hpt.1]; exact b⟩
        rw [show (!((laid.drop (i + 1)).map fun q => low q.1).any fun x => x == low p.1) = lastP laid i from hlp]
        refine absG fun G9 hG9 => ?_
        obtain ⟨F5, oC5, hN5, hC5⟩ := back F9 N9 (.tail _ (.head _)) hF ha
        have N5 : News g' L' h [(I, oI), (D, LCg.lst ys), (C, oC5), (L' + 1, oL), (tb, instObj 242 d), (d, dictOf [⟨hk, .str (Str.ofString "_headers") kt, .ref hl⟩] dn)] := ret_news N9 NL hC5 ⟨_, .tail _ (mem_at 2 rfl)⟩ (fa_cons (.inr ⟨.tail _ (mem_at 2 rfl), .tail _ (.head _)⟩) (fa_cons (.inr ⟨.tail _ (mem_at 3 rfl), .tail _ (.tail _ (.head _))⟩) (fa_cons (.inl rfl) (fun p hp => .inr ⟨.tail _ (mem_drop 4 hp), .tail _ (mem_drop 3 hp)⟩))))
        clear F9 N9 NL
        refine hG9 ?_; clear hG9
        cases hq : lastP laid i with
        | true =>
          rw [if_pos rfl]
          repeat' (first | (k_unfold; (try dsimp only)) | (k_extra "mycall") | (k_extra "mystep") | (k_extra "no for"; k_extra "head"))
          ((with_reducible rename Fr _ _ _ _ => F9); (with_reducible rename News _ _ _ _ => N9))
          refine ⟨[(C, oC5)], _, _, _, ⟨oC5, m₂, rfl, hN5⟩, rfl, rfl, F9, N9, off, rfl, ⟨by omega, by omega⟩, ?_⟩
          rw [take_rangeN, if_pos hq]
          exact S.snoc i tv
        | false =>
          rw [if_neg (by decide)]
          refine ⟨[(C, oC5)], _, _, _, ⟨oC5, m₂, rfl, hN5⟩, rfl, rfl, F5, N5, off, rfl, ⟨by omega, by omega⟩, ?_⟩
          rw [take_rangeN, if_neg (by rw [hq]; decide), List.append_nil]
          exact S
  · intro D tk₀ tk ys nw h hz6q htk F₁ N₁ off
    refine absG fun G9 hG9 => ?_
    obtain ⟨rfl, hT, S⟩ := hz6q
    clear F9 N9
    refine hG9 ?_; clear hG9
    try dsimp only at F₁
    refine gen ((List.range laid.length).filter (lastP laid)) fun ks hks => ?_
    rw [← hks] at S
    have e1 : @Ne Nat D (L' + 1) := fun q => off _ (.head _) (List.mem_singleton.mpr q.symm)
    have hkl : ∀ k ∈ ks, k < laid.length := fun k hk => by rw [hks] at hk; exact List.mem_range.mp (List.mem_filter.mp hk).1
    have hksl : ks.length ≤ laid.length := by rw [hks]; exact Nat.le_trans (List.length_filter_le _ _) (by rw [List.length_range]; exact Nat.le_refl _)
    have hyl : ys.length = ks.length := by have := IntsAre.length S; simpa [nums] using this
    repeat' (first | (k_unfold; (try dsimp only)) | (k_extra "mycall") | (k_extra "mystep") | (k_extra "no for"; (fail_if_success (with_reducible show wpAny _ _ (call (Value.ref _) _ _) _ _ _)); k_extra "head"))
    ((with_reducible rename Fr _ _ _ _ => F9); (with_reducible rename News _ _ _ _ => N9))
    refine wpAny_toks ?_
    refine' c_items X' T' rfl ?e9 ?r9 (Tab.again TB G' F9 N9 ?m91 ?m92) ?z9 ?_
    (case e9 => exact F9.keep)
    (case r9 => k_extra "room")
    (case m91 => k_mem)
    (case m92 => k_mem)
    (case z9 => simp only [ents, List.length_map]; first | (k_extra "clr"; omega) | omega)
    intro D8 n8 h8 tk8 e8 hn8 hd8 htk8
    dsimp only at htk8
    have N8 := news_add F9 N9 e8 hn8 hd8
    have F8 := Mine.Fr.ext F9 e8
    clear F9 N9 e8
    try dsimp only
    repeat' (first | (k_unfold; (try dsimp only)) | (k_extra "mycall") | (k_extra "mystep") | (k_extra "no for"; (fail_if_success (with_reducible show wpAny _ _ (call (Value.ref _) _ _) _ _ _)); k_extra "head"))
    ((with_reducible rename Fr _ _ _ _ => F9); (with_reducible rename News _ _ _ _ => N9))
    refine compE F9 (by with_unfolding_all rfl) (by decide) (by rfl) (by decide) ?_
    refine wpAny_toks ?_
    repeat' (first | (k_unfold; (try dsimp only)) | (k_extra "mycall") | (k_extra "mystep") | (k_extra "no for"; (fail_if_success (with_reducible show wpAny _ _ (call (Value.ref _) _ _) _ _ _)); k_extra "head"))
    ((with_reducible rename Fr _ _ _ _ => F9); (with_reducible rename News _ _ _ _ => N9))
    intro htk9
    dsimp only at htk9
    refine .inl ⟨D, ys, _, LCg.lst ys, ys.length, fun v m => m (Str.ofString "k") = some v, fun i tk zs nw => nw = [(D8, listOf (refs ts).toArray n8), (D, LCg.lst ys), (L' + 1, oL), (tb, instObj 242 d), (d, dictOf [⟨hk, .str (Str.ofString "_headers") kt, .ref hl⟩] dn)] ∧ (N₀ ≤ tk ∧ 1 ≤ tk) ∧ ∃ us : List Addr, zs = refs us ∧ us.length ≤ i ∧ Ents (fun _ => True) g' us (ents ((ks.take i).map fun k => laid.getD k (0, 0))), rfl, rfl, F9, N9, rfl, rfl, .inr ⟨.tail _ (.head _), ?_⟩, ?_, ?_, ?_, ?_, ?_⟩
    · rintro i tk zs nw ⟨rfl, _⟩
      exact .tail _ (.head _)
    · rw [hyl]; exact Nat.le_trans hksl (Nat.le_trans (Nat.le_of_lt hll) (by decide))
    · intro i tk zs nw hz4q
      refine absG fun G9 hG9 => ?_
      obtain ⟨_, _, us, rfl, h, _⟩ := hz4q
      refine hG9 ?_; clear hG9
      rw [refs, List.length_map]; exact h
    · intro tk htk
      dsimp only at htk
      exact ⟨rfl, ⟨by omega, by omega⟩, [], rfl, Nat.le_refl _, Ents.nil⟩
    · rintro s₃ ⟨hs3, rfl⟩
      constructor
      · intro i v hv
        exact asgName rfl rfl _
      · intro i v tk₂ tk3 zs nw I oI D9 C oC m₂ h E' hi hv hz16q htk3 hNs hKV F₁ N₁ off3 ne
        refine absG fun G9 hG9 => ?_
        obtain ⟨rfl, hT2, us, rfl, hul, hus⟩ := hz16q
        clear F9 N9
        obtain ⟨k, tkk, rfl, hki⟩ := S.item hv
        have hk1 := hkl k (List.mem_of_getElem? hki)
        refine hG9 ?_; clear hG9
        obtain ⟨vt, hvt⟩ : ∃ v, (refs lts)[k]? = some v:= ⟨_, List.getElem?_eq_getElem (by rw [refs, List.length_map, hlt]; exact hk1)⟩
        refine absG fun G9 hG9 => ?_
        obtain ⟨t, e, k1, k2, rfl, he, _, htup⟩ := glts.item hvt
        obtain ⟨p, hp, rfl⟩ := ents_at he
        refine hG9 ?_; clear hG9
        refine TestM.nil ?_
        refine absQ fun Q7 K7 => ?_
        refine wpAny_toks ?_
        try dsimp only
        repeat' (first | (k_unfold; (try dsimp only)) | (k_extra "mycall") | (k_extra "mystep") | (k_extra "no for"; (fail_if_success (with_reducible show wpAny _ _ (subscriptTail _ _ (Value.ref _) _) _ _ _)); k_extra "head"))
        ((with_reducible rename Fr _ _ _ _ => F9); (with_reducible rename News _ _ _ _ => N9))
        refine sub_list ⟨_, F9.keep _ _ gld, rfl, _, rfl⟩ hvt (by first | (k_extra "clr"; omega) | omega) ?_
        repeat' (first | (k_unfold; (try dsimp only)) | (k_extra "mycall") | (k_extra "mystep") | (k_extra "no for"; k_extra "head"))
        ((with_reducible rename Fr _ _ _ _ => F9); (with_reducible rename News _ _ _ _ => N9))
        intro htk4
        dsimp only at htk4
        refine K7 _ _ ?_
        refine ⟨_, _, _, rfl, F9, N9, off3, rfl, ⟨by omega, by omega⟩, us ++ [t], by unfold refs; rw [List.map_append]; rfl, by rw [List.length_append]; exact Nat.succ_le_succ hul, ?_⟩
        rw [List.take_add_one, hki, List.map_append]
        have hpe : (Option.toList (some k)).map (fun k => laid.getD k (0, 0)) = [p] := by simp only [Option.toList, List.map_cons, List.map_nil]; rw [List.getD_eq_getElem?_getD, hp]; rfl
        rw [hpe, show ents (((ks.take i).map fun k => laid.getD k (0, 0)) ++ [p]) = ents ((ks.take i).map fun k => laid.getD k (0, 0)) ++ [entOf p] by unfold ents; rw [List.map_append]; rfl]
        exact hus.append (Ents.cons ⟨k1, k2, trivial, htup⟩ Ents.nil)
    · intro D9 tk₂ tk3 zs nw h hz6q htk3 F₁ N₁ off3
      refine absG fun G9 hG9 => ?_
      obtain ⟨rfl, hT2, us, rfl, hul, hus⟩ := hz6q
      clear F9 N9
      refine hG9 ?_; clear hG9
      try dsimp only at F₁
      rw [hyl, List.take_of_length_le (Nat.le_refl _), hks, ← foldl_last, ← htb] at hus
      ((with_reducible rename Fr _ _ _ _ => F9); (with_reducible rename News _ _ _ _ => N9))
      have gts : Ents (tokP N₀) g' ts (ents tab) := (TB.ground G').2
      try dsimp only
      repeat' (first | (k_unfold; (try dsimp only)) | (k_extra "mycall") | (k_extra "mystep") | (k_extra "no for"; (fail_if_success (with_reducible show wpAny _ _ (compareOp _ (Value.ref _) (Value.ref _)) _ _ _)); k_extra "head"))
      ((with_reducible rename Fr _ _ _ _ => F9); (with_reducible rename News _ _ _ _ => N9))
      refine ne_ents (N9 (D8, listOf (refs ts).toArray n8) (.tail _ (.head _))).1 rfl rfl (N9 (D9, LCg.lst (refs us)) (.head _)).1 rfl rfl (gts.keeps fun t _ o e => F9.keep t o e) (hus.keeps fun t _ o e => F9.keep t o e) (ents_sok htab) ?u9 ?_
      (case u9 => show un + 3 + 10 < cLine; exact room3 hun (by decide))
      repeat' (first | (k_unfold; (try dsimp only)) | (k_extra "mycall") | (k_extra "mystep") | (k_extra "no for"; (fail_if_success (with_reducible show wpAny _ _ (call (Value.ref _) _ _) _ _ _)); k_extra "head"))
      ((with_reducible rename Fr _ _ _ _ => F9); (with_reducible rename News _ _ _ _ => N9))
      refine' c_without X' T' rfl ?e9 ?r9 (Tab.again TB G' F9 N9 ?m91 ?m92) ?n91 ?n92 htab ?z9 ?_
      (case e9 => exact F9.keep)
      (case r9 => k_extra "room")
      (case m91 => k_mem)
      (case m92 => k_mem)
      (case n91 => dsimp only; first | (k_extra "clr"; omega) | omega)
      (case n92 => dsimp only; first | (k_extra "clr"; omega) | omega)
      (case z9 => first | (k_extra "clr"; omega) | omega)
      intro D10 vs10 h10 tk10 e10 hn10 hd10 hv10
      have N10 := news_add F9 N9 e10 hn10 hd10
      have F10 := Mine.Fr.ext F9 e10
      clear F9 N9 e10
      repeat' (first | (k_unfold; (try dsimp only)) | (k_extra "mycall") | (k_extra "mystep") | (k_extra "no for"; (fail_if_success (with_reducible show wpAny _ _ (call (Value.ref _) _ _) _ _ _)); k_extra "head"))
      ((with_reducible rename Fr _ _ _ _ => F9); (with_reducible rename News _ _ _ _ => N9))
      refine' c_hintT X' T' rfl ?e9 ?r9 (Tab.again TB G' F9 N9 ?m91 ?m92) ?z9 ?_
      (case e9 => exact F9.keep)
      (case r9 => k_extra "room")
      (case m91 => k_mem)
      (case m92 => k_mem)
      (case z9 => simp only [ents, List.length_map]; first | (k_extra "clr"; omega) | omega)
      intro t11 h11 tk11 e11
      have N11 := Mine.News.ext N9 e11
      have F11 := Mine.Fr.ext F9 e11
      clear F9 N9 e11
      have hv10l : (vs10.length : Int) = mst := by
        have := IntsAre.length hv10
        rw [← hm2, this, nums, List.length_map]
      rw [show ((ents tab).length : Int) = 4 - mst by rw [← hm]; simp only [ents, List.length_map]]
      repeat' (first | (k_unfold; (try dsimp only)) | (k_extra "mycall") | (k_extra "mystep") | (k_extra "no for"; (fail_if_success (with_reducible show wpAny _ _ (call (Value.ref _) _ _) _ _ _)); k_extra "head"))
      ((with_reducible rename Fr _ _ _ _ => F9); (with_reducible rename News _ _ _ _ => N9))
      have hd10 := (N9 (D10, LCg.lst vs10) (.head _)).1
      refine' c_hintL X' T' rfl ?e9 ?r9 (vs := vs10) ⟨_, hd10, rfl, _, rfl⟩ ?z9 ?_
      (case e9 => exact F9.keep)
      (case r9 => k_extra "room")
      (case z9 => have := wo_len' tab; first | (k_extra "clr"; omega) | omega)
      intro t12 h12 tk12 e12
      have N12 := Mine.News.ext N9 e12
      have F12 := Mine.Fr.ext F9 e12
      clear F9 N9 e12 hd10
      rw [hv10l]
      repeat' (first | (k_unfold; (try dsimp only)) | (k_extra "mycall") | (k_extra "mystep") | (k_extra "no for"; (fail_if_success (with_reducible show wpAny _ _ (call (Value.ref _) _ _) _ _ _)); (fail_if_success (with_reducible show wpAny _ _ (compareOp _ (Value.ref _) (Value.ref _)) _ _ _)); k_extra "head"))
      ((with_reducible rename Fr _ _ _ _ => F9); (with_reducible rename News _ _ _ _ => N9))
      refine ne_ints (vs := [_, _]) (ws := [_, _]) (ns := [4 - mst, mst]) (N9 _ (.tail _ (.head _))).1 rfl rfl (N9 _ (.head _)).1 rfl rfl (.cons _ _ (.cons _ _ .nil)) (.cons _ _ (.cons _ _ .nil)) ?u9 ?_
      (case u9 => show un + 3 + 10 < cLine; exact room3 hun (by decide))
      repeat' (first | (k_unfold; (try dsimp only)) | (k_extra "mycall") | (k_extra "mystep") | (k_extra "no for"; (fail_if_success (with_reducible show wpAny _ _ (call (Value.ref _) _ _) _ _ _)); k_extra "head"))
      ((with_reducible rename Fr _ _ _ _ => F9); (with_reducible rename News _ _ _ _ => N9))
      have hd10 := (N9 (D10, LCg.lst vs10) (mem_at 2 rfl)).1
      refine' c_walk (owl := LCg.lst vs10) (nwl := vs10.length) (wvs := vs10) (wo := withoutT tab) X' T' rfl ?e9 ?r9 ?u9 (Tab.again TB G' F9 N9 ?m91 ?m92) ?rr9 ?nn9 hnn hnk htab hd10 rfl rfl hv10 R hR hwo wo_nodup ?_
      (case e9 => exact F9.keep)
      (case r9 => k_extra "room")
      (case u9 => show un + 3 + 70 < cLine; exact room3 hun (by decide))
      (case m91 => k_mem)
      (case m92 => k_mem)
      (case rr9 => exact (RR.mono gro).mono fun b o e _ => F9.keep b o e)
      (case nn9 => exact (NN.mono gro).mono fun b o e _ => F9.keep b o e)
      intro Dw vsw nsw cw hw tkw ew hnw hdw hiw hpm hpw
      have hns := hwk nsw hpm hpw
      rw [hns] at hiw
      have Nw := news_add F9 N9 ew hnw hdw
      have Fw := Mine.Fr.ext F9 ew
      clear F9 N9 ew hd10
      repeat' (first | (k_unfold; (try dsimp only)) | (k_extra "mycall") | (k_extra "mystep") | (k_extra "no for"; (fail_if_success (with_reducible show wpAny _ _ (call (Value.ref _) _ _) _ _ _)); (fail_if_success (with_reducible show wpAny _ _ (compareOp _ (Value.ref _) (Value.ref _)) _ _ _)); k_extra "head"))
      ((with_reducible rename Fr _ _ _ _ => F9); (with_reducible rename News _ _ _ _ => N9))
      refine eq_ints (vs := vsw.toList) (ws := cvs) (N9 (Dw, listOf vsw cw) (.head _)).1 rfl rfl (F9.keep _ _ (gro _ _ hcm rfl)) rfl rfl hiw hcs ?u9 ?_
      (case u9 => show un + 3 + 10 < cLine; exact room3 hun (by decide))
      repeat' (first | (k_unfold; (try dsimp only)) | (k_extra "mycall") | (k_extra "mystep") | (k_extra "no for"; (fail_if_success (with_reducible show wpAny _ _ (call (Value.ref _) _ _) _ _ _)); k_extra "head"))
      ((with_reducible rename Fr _ _ _ _ => F9); (with_reducible rename News _ _ _ _ => N9))
      ((repeat' (first | k_unfold | dsimp only)))
      refine ret _ _ (ext_ms (fun q hq => (hms q hq).1) G' F9 N9 (fun q hq => .inl ?_))
      rcases List.mem_cons.mp hq with rfl | hq
      · k_mem
      · rw [List.mem_singleton.mp hq]; k_mem

inductive SeatV (g0 : Heap) (L y dl x i1 c3 c1 c2 c5 : Addr) (od o3 o1 o2 o5 : Obj) (f : Nat → List Nat) (ord : List Nat) (B : List (Addr × Obj)) : Nat → Nat → List Value → List (Addr × Obj) → Prop
  | mk {i tk : Nat} (ts1 lt1 : List Addr) (n1 m1 : Nat) (tab laid : List (Nat × Nat)) (oks : List Bool) (N : Nat) (tlT : List (Addr × Obj)) : PI f (ord.take i) tab laid oks → oks.length = i → (∀ p ∈ tlT, p.2.cls = .type "tuple" ∧ ∃ vs n, p.2.data = .seq vs n) →
    (∀ h2 : Heap, (∀ b o, g0.get? b = some o → h2.get? b = some o) → News g0 L h2 tlT → Ents (tokP N) h2 ts1 (ents tab) ∧ Ents (fun _ => True) h2 lt1 (ents laid)) → N ≤ tk → 1 ≤ tk →
    SeatV g0 L y dl x i1 c3 c1 c2 c5 od o3 o1 o2 o5 f ord B i tk (oks.map Value.bool) ((y, listOf (refs ts1).toArray n1) :: (dl, listOf (refs lt1).toArray m1) :: (c3, o3) :: (c1, o1) :: (c2, o2) :: (c5, o5) :: (x, instObj 242 i1) :: (i1, od) :: (tlT ++ B))
theorem PI.len {nn : Nat → List Nat} {gs : List Nat} {tab laid : List (Nat × Nat)} {oks : List Bool} (I : PI nn gs tab laid oks) : tab.length ≤ 4 := by
  have := len_vals I.m
  rw [← this]; unfold cnt; exact List.countP_le_length
theorem seat_turn {w : World} {loose : List Str} {mean : ExcName → Option Value} {mg mb : Str → Option Value} {g : Heap} (X : (Mine.hd.heap_1 w.params).In g) (T : Top Mine.hd.view_1 loose mean mg mb g) {A : Around} (hA : A.handled = none) {s s0 : Shared} {E : Value → Shared → Prop} (hroom : A.depth + 40 < recursionLimit) {L : Addr} {m : Str → Option Value}
    {y dl x i1 c3 c1 c2 c5 rl na ofl I D C : Addr} {od o3 o1 o2 o5 oI oC : Obj} {nn : List (List Nat)} {ord : List Nat} {B nw : List (Addr × Obj)} {i tk₀ u : Nat} {tu : Tok} {ys : List Value} {hk : Int} {kt : Tok} {dn : Nat}
    (hod : od = dictOf [⟨hk, .str (Str.ofString "_headers") kt, .ref y⟩] dn) (hs : ∃ h tk, s = { s0 with heap := h, toks := tk }) (F : Fr g L s.heap m) (N : News g L s.heap ((ofl, listOf (List.toArray []) 0) :: (I, oI) :: (D, LCg.lst ys) :: (C, oC) :: nw)) (hofl : ∀ p ∈ (I, oI) :: (D, LCg.lst ys) :: (C, oC) :: nw, p.1 < ofl)
    (hV : SeatV g L y dl x i1 c3 c1 c2 c5 od o3 o1 o2 o5 (fun j => nn.getD j []) ord B i tk₀ ys nw) (off : OffC [I, D, C] nw) (htk : tk₀ ≤ s.toks) (hu : ord[i]? = some u) (hnd : ord.Nodup) (ho4 : ∀ v ∈ ord, v < 4) (hol : ord.length = 4)
    (hyd : @Ne Nat y dl) (hB : ∀ p ∈ (c3, o3) :: (c1, o1) :: (c2, o2) :: (c5, o5) :: (x, instObj 242 i1) :: (i1, od) :: B, (@Ne Nat p.1 y) ∧ (@Ne Nat p.1 dl)) (RR : ∀ h9, News g L h9 B → RoomsAt h9 rl) (NN : ∀ h9, News g L h9 B → NearAt h9 na nn) (hnn : nn.length = 4) (hnk : ∀ ks ∈ nn, ∀ k ∈ ks, k < 4) (hIc : oI.cls ≠ .type "tuple") (hCd : ∃ m2, LCg.NsObj oC m2) :
    wpAny (model PySem.Challenge.rw_ti0061_01.prog w) A (call (.ref 284) [.ref x, .ref rl, .ref na, .int (u : Nat) tu, .ref ofl, .ref dl] []) (EndM g L m s0 [(I, oI), (D, LCg.lst ys), (C, oC)] [I, D, C] (fun tk' v nw' => SeatV g L y dl x i1 c3 c1 c2 c5 od o3 o1 o2 o5 (fun j => nn.getD j []) ord B (i + 1) tk' (ys ++ [v]) nw')) E s := by
  refine absG fun G9 hG9 => ?_
  obtain ⟨h0, t0, rfl⟩ := hs
  obtain ⟨ts1, lt1, n1, m1, tab, laid, oks, N₀, tlT, hPI, hok, htc, hEx, hN0, hN1⟩ := hV
  have hlt := near_lt hnk
  have hu4 := ho4 u (List.mem_of_getElem? hu)
  have hnu : u ∉ ord.take i := fun hm => by
    obtain ⟨j, hj⟩ := List.getElem?_of_mem hm
    have hjl := (List.getElem?_eq_some_iff.mp hj).1
    rw [List.length_take] at hjl
    rw [List.getElem?_take] at hj
    split at hj
    · rename_i hji
      have h1 := (List.getElem?_eq_some_iff.mp hu)
      have h2 := (List.getElem?_eq_some_iff.mp hj)
      exact (List.pairwise_iff_getElem.mp hnd) j i h2.1 h1.1 hji (h2.2.trans h1.2.symm)
    · cases hj
  have htk1 : ord.take (i + 1) = ord.take i ++ [u] := by rw [List.take_add_one, hu]; rfl
  have hi4 : i < 4 := by have := (List.getElem?_eq_some_iff.mp hu).1; omega
  have htab : ∀ p ∈ tab, p.1 < 4 ∧ p.2 < 4 := fun p hp => ⟨(hPI.m.e p hp).1, (hPI.m.e p hp).2.1⟩
  have hll : laid.length ≤ 20 := by
    have := hPI.n
    rw [List.length_take] at this
    have : min i ord.length ≤ 4 := by rw [hol]; exact Nat.min_le_right _ _
    omega
  have my : (y, listOf (refs ts1).toArray n1) ∈ (ofl, listOf (List.toArray []) 0) :: (I, oI) :: (D, LCg.lst (oks.map Value.bool)) :: (C, oC) :: (y, listOf (refs ts1).toArray n1) :: (dl, listOf (refs lt1).toArray m1) :: (c3, o3) :: (c1, o1) :: (c2, o2) :: (c5, o5) :: (x, instObj 242 i1) :: (i1, od) :: (tlT ++ B) := .tail _ (mem_at 3 rfl)
  have md : (dl, listOf (refs lt1).toArray m1) ∈ (ofl, listOf (List.toArray []) 0) :: (I, oI) :: (D, LCg.lst (oks.map Value.bool)) :: (C, oC) :: (y, listOf (refs ts1).toArray n1) :: (dl, listOf (refs lt1).toArray m1) :: (c3, o3) :: (c1, o1) :: (c2, o2) :: (c5, o5) :: (x, instObj 242 i1) :: (i1, od) :: (tlT ++ B) := .tail _ (mem_at 4 rfl)
  have yo : @Ne Nat y ofl := Nat.ne_of_lt (hofl _ (mem_at 3 rfl))
  have dof : @Ne Nat dl ofl := Nat.ne_of_lt (hofl _ (mem_at 4 rfl))
  have hTT : ∀ p ∈ tlT, (@Ne Nat p.1 y) ∧ (@Ne Nat p.1 dl) := fun p hp => by
    have z := N p (mem_drop 12 (List.mem_append_left _ hp))
    exact ⟨ne_cls z.1 (N _ my).1 ((htc p hp).1 ▸ type_ne (by decide)), ne_cls z.1 (N _ md).1 ((htc p hp).1 ▸ type_ne (by decide))⟩
  have hBh : News g L (hideAll h0 [y, ofl, dl]) B := fun p hp => by
    have z := N p (mem_drop 12 (List.mem_append_right _ hp))
    have z2 := hB p (mem_drop 6 hp)
    have z3 : @Ne Nat p.1 ofl := Nat.ne_of_lt (hofl p (mem_drop 11 (List.mem_append_right _ hp)))
    exact ⟨hideAll_get _ z.1 (by simp [z2.1, z2.2, z3]), z.2⟩
  have hE := hEx h0 F.keep fun p hp => N p (mem_drop 12 (List.mem_append_left _ hp))
  refine hG9 ?_; clear hG9
  -- what every object of the rest keeps
  have rest : ∀ p ∈ (I, oI) :: (D, LCg.lst (oks.map Value.bool)) :: (C, oC) :: (c3, o3) :: (c1, o1) :: (c2, o2) :: (c5, o5) :: (x, instObj 242 i1) :: (i1, od) :: B, p ∈ (ofl, listOf (List.toArray []) 0) :: (I, oI) :: (D, LCg.lst (oks.map Value.bool)) :: (C, oC) :: (y, listOf (refs ts1).toArray n1) :: (dl, listOf (refs lt1).toArray m1) :: (c3, o3) :: (c1, o1) :: (c2, o2) :: (c5, o5) :: (x, instObj 242 i1) :: (i1, od) :: (tlT ++ B) ∧ (@Ne Nat p.1 y) ∧ (@Ne Nat p.1 ofl) ∧ (@Ne Nat p.1 dl) := fun p hp => by
    have offy := off _ (.head _)
    have offd := off _ (.tail _ (.head _))
    rcases List.mem_cons.mp hp with rfl | hp
    · exact ⟨.tail _ (.head _), fun q => offy (by rw [← show I = y from q]; exact .head _), Nat.ne_of_lt (hofl _ (.head _)), fun q => offd (by rw [← show I = dl from q]; exact .head _)⟩
    rcases List.mem_cons.mp hp with rfl | hp
    · exact ⟨.tail _ (.tail _ (.head _)), fun q => offy (by rw [← show D = y from q]; exact .tail _ (.head _)), Nat.ne_of_lt (hofl _ (.tail _ (.head _))), fun q => offd (by rw [← show D = dl from q]; exact .tail _ (.head _))⟩
    rcases List.mem_cons.mp hp with rfl | hp
    · exact ⟨.tail _ (mem_at 2 rfl), fun q => offy (by rw [← show C = y from q]; exact .tail _ (.tail _ (.head _))), Nat.ne_of_lt (hofl _ (mem_at 2 rfl)), fun q => offd (by rw [← show C = dl from q]; exact .tail _ (.tail _ (.head _)))⟩
    · have mm : p ∈ (C, oC) :: (y, listOf (refs ts1).toArray n1) :: (dl, listOf (refs lt1).toArray m1) :: (c3, o3) :: (c1, o1) :: (c2, o2) :: (c5, o5) :: (x, instObj 242 i1) :: (i1, od) :: (tlT ++ B) := by
        refine .tail _ (.tail _ (.tail _ ?_))
        have hp2 : p ∈ [(c3, o3), (c1, o1), (c2, o2), (c5, o5), (x, instObj 242 i1), (i1, od)] ++ B := hp
        rcases List.mem_append.mp hp2 with q | q
        · exact List.mem_append_left (bs := tlT ++ B) (as := [(c3, o3), (c1, o1), (c2, o2), (c5, o5), (x, instObj 242 i1), (i1, od)]) q
        · exact List.mem_append_right [(c3, o3), (c1, o1), (c2, o2), (c5, o5), (x, instObj 242 i1), (i1, od)] (List.mem_append_right _ q)
      have z := hB p hp
      exact ⟨.tail _ (.tail _ (.tail _ mm)), z.1, Nat.ne_of_lt (hofl p (.tail _ (.tail _ mm))), z.2⟩
  refine seat_fr (hk := hk) (kt := kt) (dn := dn) (d := i1) (N₀ := N₀) X T hA hroom F N (mem_at 10 rfl) (hod ▸ .tail _ (mem_at 10 rfl)) my (.head _) md hE.1 hE.2 ⟨yo, hyd, dof.symm⟩ (RR _ hBh) (NN _ hBh) hnn hnk htab ?_ u tu hu4 ?_ ?_
  · have := hPI.len; omega
  · intro h8 tk8 hres F8 e8 ht8
    dsimp only at ht8 htk
    refine EndM.mk (s := s0) F8 (fun p hp => ⟨e8 _ _ (N p (.tail _ hp)).1 (by rw [List.mem_singleton]; exact Nat.ne_of_lt (hofl p hp)), (N p (.tail _ hp)).2⟩) off ?_
    rw [show oks.map Value.bool ++ [.bool false] = (oks ++ [false]).map Value.bool by rw [List.map_append]; rfl]
    exact .mk ts1 lt1 n1 m1 tab laid (oks ++ [false]) N₀ tlT (htk1 ▸ hPI.bad hlt hres) (by rw [List.length_append, hok]; rfl) htc hEx (by omega) (by omega)
  · intro h8 tk8 nl8 ts8 lts8 nd8 ds tl8 hres F8 e8 hy8 hd8 tn8 tcd8 hE8 ht8
    dsimp only at ht8 htk
    have N8 : News g L h8 ([(I, oI), (D, LCg.lst (oks.map Value.bool)), (C, oC)] ++ ((y, listOf (refs ts8).toArray nl8) :: (dl, listOf (refs lts8).toArray nd8) :: (c3, o3) :: (c1, o1) :: (c2, o2) :: (c5, o5) :: (x, instObj 242 i1) :: (i1, od) :: (tl8 ++ B))) := ledger3 N e8 tn8 fun p hp => by
      rcases List.mem_cons.mp hp with rfl | hp
      · exact .inl (rest _ (.head _))
      rcases List.mem_cons.mp hp with rfl | hp
      · exact .inl (rest _ (.tail _ (.head _)))
      rcases List.mem_cons.mp hp with rfl | hp
      · exact .inl (rest _ (mem_at 2 rfl))
      rcases List.mem_cons.mp hp with rfl | hp
      · exact .inr (.inl ⟨hy8, _, my⟩)
      rcases List.mem_cons.mp hp with rfl | hp
      · exact .inr (.inl ⟨hd8, _, md⟩)
      have hp2 : p ∈ [(c3, o3), (c1, o1), (c2, o2), (c5, o5), (x, instObj 242 i1), (i1, od)] ++ (tl8 ++ B) := hp
      rcases List.mem_append.mp hp2 with q | q
      · exact .inl (rest p (mem_drop 3 (List.mem_append_left (as := [(c3, o3), (c1, o1), (c2, o2), (c5, o5), (x, instObj 242 i1), (i1, od)]) B q)))
      rcases List.mem_append.mp q with q | q
      · exact .inr (.inr q)
      · exact .inl (rest p (mem_drop 3 (List.mem_append_right [(c3, o3), (c1, o1), (c2, o2), (c5, o5), (x, instObj 242 i1), (i1, od)] q)))
    refine EndM.mk (s := s0) F8 N8 (fun p hp q => ?_) ?_
    · rcases List.mem_cons.mp hp with rfl | hp
      · exact off _ (.head _) q
      rcases List.mem_cons.mp hp with rfl | hp
      · exact off _ (.tail _ (.head _)) q
      have hp2 : p ∈ [(c3, o3), (c1, o1), (c2, o2), (c5, o5), (x, instObj 242 i1), (i1, od)] ++ (tl8 ++ B) := hp
      rcases List.mem_append.mp hp2 with z | z
      · exact off p (.tail _ (.tail _ (List.mem_append_left (as := [(c3, o3), (c1, o1), (c2, o2), (c5, o5), (x, instObj 242 i1), (i1, od)]) (tlT ++ B) z))) q
      rcases List.mem_append.mp z with z | z
      · have e0 := (tn8 p z).1
        refine absG fun G9 hG9 => ?_
        obtain ⟨cc, vv, nn', hdd⟩ := tcd8 p z
        refine hG9 ?_; clear hG9
        rcases List.mem_cons.mp q with q | q
        · have e1 := (N8 _ (.head _)).1
          rw [show p.1 = I from q] at e0
          rw [show h8.get? I = some oI from e1] at e0; cases e0
          exact hIc cc
        rcases List.mem_cons.mp q with q | q
        · have e1 := (N8 _ (.tail _ (.head _))).1
          rw [show p.1 = D from q] at e0
          rw [show h8.get? D = some (LCg.lst (oks.map Value.bool)) from e1] at e0
          have := Option.some.inj e0
          rw [← this] at cc
          exact absurd cc (type_ne (by decide))
        · have e1 := (N8 _ (mem_at 2 rfl)).1
          rw [show p.1 = C from List.mem_singleton.mp q] at e0
          rw [show h8.get? C = some oC from e1] at e0; cases e0
          refine absG fun G9 hG9 => ?_
          obtain ⟨m2, es, ep, hde, _⟩ := hCd
          refine hG9 ?_; clear hG9
          rw [hdd] at hde; cases hde
      · exact off p (.tail _ (.tail _ (List.mem_append_right [(c3, o3), (c1, o1), (c2, o2), (c5, o5), (x, instObj 242 i1), (i1, od)] (List.mem_append_right _ z)))) q
    · rw [show oks.map Value.bool ++ [.bool true] = (oks ++ [true]).map Value.bool by rw [List.map_append]; rfl]
      exact .mk ts8 lts8 nl8 nd8 (ds.foldl setT tab) (laid ++ ds) (oks ++ [true]) (max N₀ tk8) tl8 (htk1 ▸ hPI.good hlt hu4 hnu hres) (by rw [List.length_append, hok]; rfl) tcd8 hE8 (by omega) (by omega)

set_option hygiene false
theorem c_setL {w : World} {loose : List Str} {mean : ExcName → Option Value} {mg mb : Str → Option Value} {ht : Heap} (X : (Mine.hd.heap_1 w.params).In ht) (T : Top Mine.hd.view_1 loose mean mg mb ht) {A : Around} (hA : A.handled = none) {s : Shared} (ek : ht.StaysIn s.heap) {Q E : Value → Shared → Prop} (hroom : A.depth + 1 < recursionLimit) {l : Addr} {ol : Obj} {nl : Nat} {vs : List Value} (hl : s.heap.get? l = some ol) (hlc : ol.cls = .type "list") (hld : ol.data = .seq vs.toArray nl) (n3 : ht.get? l = none) (i : Nat) (ti : Tok) (hi : i < vs.length) (hi9 : i < 100) (z : Int) (tz : Tok)
    (ret : ∀ h' tk' o' n', Ext [l] s.heap h' → h'.get? l = some o' → o'.cls = .type "list" → o'.data = .seq (vs.set i (.int z tz)).toArray n' → Q .none { s with heap := h', toks := tk' }) :
    wpAny (model PySem.Challenge.rw_ti0061_01.prog w) A (call (.ref 87) [.ref l, .int (i : Nat) ti, .int z tz] []) Q E s := by
  ((revert X; k_fill; intro X; obtain ⟨hh, dp, fr, gd, un⟩ := A; cases hA; (dsimp only at hroom)))
  have hms : ∀ q ∈ [(l, ol)], s.heap.get? q.1 = some q.2 ∧ ht.get? q.1 = none := fun q hq => by rw [List.mem_singleton.mp hq]; exact ⟨hl, n3⟩
  refine' callM [(l, ol)] ?k1 ?k2 ?k3 ?k4 ?k6 ?k7 ?k8 ?k9 ?kB ?_ ?c5 ?c2 ?c3 ?c4
  (case k4 => exact hms)
  ((case k1 => assumption); (case k2 => assumption); (case k3 => assumption); (case k6 => k_is); (case k7 => k_is); (case k8 => ((try simp only [depth_under_make, depth_under_kw, depth_in1, depth_deeper]); (try dsimp only); omega)); (case k9 => first | exact BindsTo.of_eq rfl | exact binds_K (Frag.In.keeps (by assumption) (by assumption)) rfl (by k_is) rfl rfl rfl); (case kB => exact locs rfl); (case c5 => decide); (case c2 => exact rfl); (case c3 => exact rfl); (case c4 => exact rfl))
  intro g' L' h' F' N' X' T' G' st' l'
  (try dsimp only); (try k_fold)
  repeat' (first | (k_unfold; (try dsimp only)) | (k_extra "mycall") | (k_extra "mystep") | (k_extra "no for"; (fail_if_success (with_reducible show wpAny _ _ (setItem _ _ _) _ _ _)); k_extra "head"))
  ((with_reducible rename Fr _ _ _ _ => F9); (with_reducible rename News _ _ _ _ => N9))
  have q1 : (0 : Int) ≤ (i : Int) := Int.natCast_nonneg _
  have q2 : (i : Int) < 2 ^ 63 := Int.lt_of_lt_of_le (Int.ofNat_lt.mpr hi9) (by decide)
  have q3 : (i : Int) < (vs.toArray.size : Int) := by rw [List.size_toArray]; exact Int.ofNat_lt.mpr hi
  have z9 := N9 _ (.head _)
  refine wpAny_setItem_list ⟨ol, z9.1, hlc, _, hld⟩ q1 q2 q3 fun h8 hl8 hs8 => ?_
  obtain ⟨o8, ho8, hc8, n8, hd8⟩ := hl8
  rw [Int.toNat_natCast, List.setIfInBounds_toArray] at hd8
  have e8 : Ext [l] _ h8 := fun b o e n => (hs8.2 b (by simpa using n)).trans e
  have F8 := Mine.Fr.extx F9 e8 (fun x hx => by rw [List.mem_singleton.mp hx]; exact ⟨z9.2.2, z9.2.1⟩)
  have N8 : News g' L' h8 [(l, o8)] := fun p hp => by rw [List.mem_singleton.mp hp]; exact ⟨ho8, z9.2⟩
  clear F9 N9
  repeat' (first | (k_unfold; (try dsimp only)) | (k_extra "mycall") | (k_extra "mystep") | (k_extra "no for"; k_extra "head"))
  ((with_reducible rename Fr _ _ _ _ => F9); (with_reducible rename News _ _ _ _ => N9))
  ((repeat' (first | k_unfold | dsimp only)))
  exact ret _ _ o8 n8 (ext_of G' F9) (N9 _ (.head _)).1 hc8 hd8

noncomputable def dueL (m : Int) (cs : List Nat) : List Int := [0, 1, 2, 3].map fun g => if cs.contains g then 4 - m else 3 - m
theorem dueL_set (m : Int) (cs : List Nat) {k : Nat} (hk : k < 4) : (dueL m cs).set k (4 - m) = dueL m (cs ++ [k]) := by
  have e : ∀ g : Nat, (cs ++ [k]).contains g = (cs.contains g || g == k) := fun g => by
    rw [Bool.eq_iff_iff, Bool.or_eq_true, List.contains_iff_mem, List.mem_append, List.mem_singleton, List.contains_iff_mem, beq_iff_eq]
  have hs : (if (cs ++ [k]).contains k then 4 - m else 3 - m) = 4 - m := by rw [e, beq_self_eq_true, Bool.or_true]; rfl
  have hn : ∀ g, (g == k) = false → (if (cs ++ [k]).contains g then 4 - m else 3 - m) = (if cs.contains g then 4 - m else 3 - m) := fun g h => by rw [e, h, Bool.or_false]
  have l4 : ∀ {a b c d a' b' c' d' : Int}, a = a' → b = b' → c = c' → d = d' → [a, b, c, d] = [a', b', c', d'] := fun a b c d => by rw [a, b, c, d]
  revert hs hn
  match k, hk with
  | 0, _ => exact fun hs hn => l4 hs.symm (hn 1 rfl).symm (hn 2 rfl).symm (hn 3 rfl).symm
  | 1, _ => exact fun hs hn => l4 (hn 0 rfl).symm hs.symm (hn 2 rfl).symm (hn 3 rfl).symm
  | 2, _ => exact fun hs hn => l4 (hn 0 rfl).symm (hn 1 rfl).symm hs.symm (hn 3 rfl).symm
  | 3, _ => exact fun hs hn => l4 (hn 0 rfl).symm (hn 1 rfl).symm (hn 2 rfl).symm hs.symm
theorem dueL_step {m : Int} {cs : List Nat} {k : Nat} (hk : k < 4) {vs : List Value} {t : Tok} (h : IntsAre vs (dueL m cs)) : IntsAre (vs.set k (.int (4 - m) t)) (dueL m (cs ++ [k])) := dueL_set m cs hk ▸ IntsAre.setAt h k _ _
theorem dueL_common {nn : Nat → List Nat} {tab : List (Nat × Nat)} (hn : ∀ g, ∀ k ∈ nn g, k < 4) (M : Mat nn tab) (hC : ∀ u ∈ withoutT tab, Cert nn tab u) {m : Int} (hm : m = (lackL nn 16).1) :
    ([0, 1, 2, 3].take 4).map (fun g => ((((withoutT tab).foldl (goG nn g) (tab.filter fun p => p.2 != g)).length : Nat) : Int)) = dueL m (commonT nn) := by
  refine List.map_congr_left fun g hg => ?_
  have hg4 : g < 4 := by
    rcases List.mem_cons.mp hg with rfl | hg
    · decide
    rcases List.mem_cons.mp hg with rfl | hg
    · decide
    rcases List.mem_cons.mp hg with rfl | hg
    · decide
    · rw [List.mem_singleton.mp hg]; decide
  have e : (commonT nn).contains g = bitc (lackL nn 16).2 g := by
    rw [Bool.eq_iff_iff, List.contains_iff_mem]
    unfold commonT
    rw [List.mem_filter, List.mem_range]
    exact ⟨fun h => h.2, fun h => ⟨hg4, h⟩⟩
  rw [goes_ok hn M hC hg4, e, hm]
inductive DueJ (dA D5 : Addr) (mst : Int) (tm : Tok) (cs : List Nat) (B : List (Addr × Obj)) : Nat → (Str → Option Value) → List (Addr × Obj) → Prop
  | mk {i : Nat} {m : Str → Option Value} (od : Obj) (vsd : List Value) (nd : Nat) : od.cls = .type "list" → od.data = .seq vsd.toArray nd → IntsAre vsd (dueL mst (cs.take i)) → m (Str.ofString "due") = some (.ref dA) → m (Str.ofString "left") = some (.ref D5) → m (Str.ofString "most") = some (.int mst tm) → DueJ dA D5 mst tm cs B i m ((dA, od) :: B)

theorem news_addL {g h h' : Heap} {L : Addr} {m : Str → Option Value} {nw l : List (Addr × Obj)} (F : Fr g L h m) (N : News g L h nw) (e : Ext [] h h') (hl : ∀ p ∈ l, h.get? p.1 = none ∧ h'.get? p.1 = some p.2) : News g L h' (l ++ nw) := fun p hp => by
  rcases List.mem_append.mp hp with hp | hp
  · have := news_add (D := p.1) (o := p.2) F N e (hl p hp).1 (hl p hp).2
    exact this p (.head _)
  · exact Mine.News.ext N e p hp
theorem new_off {g h : Heap} {L : Addr} {nw l : List (Addr × Obj)} (N : News g L h nw) (hl : ∀ p ∈ l, h.get? p.1 = none) : ∀ p ∈ l, ∀ q ∈ nw, @Ne Nat p.1 q.1 := fun p hp q hq e => by
  have := (N q hq).1
  rw [← (show p.1 = q.1 from e), hl p hp] at this; cases this
theorem reord {a : Addr × Obj} {tl nw : List (Addr × Obj)} : ∀ p ∈ a :: (nw ++ tl), p ∈ (a :: tl) ++ nw := (fa_cons (.head _) (fun p hp => (List.mem_append.mp hp).elim (fun hp => List.mem_append_right _ hp) (fun hp => List.mem_append_left _ (.tail _ hp))))
theorem near_k {rs : List (List Nat)} {bd : Int} {gs : List (List Nat)} : ∀ ks ∈ gs.map (nearOf rs bd), (∀ k ∈ ks, k < 4) ∧ ks.length < 20 := fun ks h => by
  refine absG fun G9 hG9 => ?_
  obtain ⟨g, _, rfl⟩ := List.mem_map.mp h
  refine hG9 ?_; clear hG9
  refine ⟨fun k hk => List.mem_range.mp (List.mem_filter.mp hk).1, ?_⟩
  unfold nearOf
  exact Nat.lt_of_le_of_lt (List.length_filter_le _ _) (by rw [List.length_range]; decide)
theorem at_of {rs : List (List Nat)} {r : List Nat} (h : r ∈ rs) : ∃ k : Nat, rs[k]? = some r ∧ k < rs.length := by
  obtain ⟨k, hk⟩ := List.getElem?_of_mem h
  exact ⟨k, hk, (List.getElem?_eq_some_iff.mp hk).1⟩
theorem lt_in {u : Nat} (h : u < 4) : u ∈ [0, 1, 2, 3] ∧ u ∈ [3, 2, 1, 0] := by
  match u, h with
  | 0, _ => decide
  | 1, _ => decide
  | 2, _ => decide
  | 3, _ => decide
theorem count_id (oks : List Bool) : oks.countP (· == true) = oks.countP id := by congr 1; funext b; cases b <;> rfl
set_option hygiene false
theorem c_law {w : World} {loose : List Str} {mean : ExcName → Option Value} {mg mb : Str → Option Value} {ht : Heap} (X : (Mine.hd.heap_1 w.params).In ht) (T : Top Mine.hd.view_1 loose mean mg mb ht) {A : Around} (hA : A.handled = none) {s : Shared} (ek : ht.StaysIn s.heap) {Q E : Value → Shared → Prop} (hroom : A.depth + 150 < recursionLimit) (hun : A.units + 400 < cLine) {sl : Addr} {vs : List Value} {ks : List Int} (hol : s.heap.IsList sl vs.toArray) (hks : IntsAre vs ks) (hlen : ks.length < 64)
    (ret : ∀ h' tk', Ext [] s.heap h' → Q (.bool true) { s with heap := h', toks := tk' }) :
    wpAny (model PySem.Challenge.rw_ti0061_01.prog w) A (call (.ref 311) [.ref sl] []) Q E s := by
  ((revert X; k_fill; intro X; obtain ⟨hh, dp, fr, gd, un⟩ := A; cases hA; (dsimp only at hroom)))
  dsimp only at hun
  refine' callMC [] ?k1 ?k2 ?k3 ?k4 ?k6 ?k7 ?k8 ?k9 ?kB ?kD ?_ ?c2 ?c3 ?c4
  (case k4 => ((intro q h9; exact nomatch h9)))
  ((case k1 => assumption); (case k2 => assumption); (case k3 => assumption); (case k6 => k_is); (case k7 => k_is); (case k8 => k_extra "room"); (case k9 => first | exact BindsTo.of_eq rfl | exact binds_K (Frag.In.keeps (by assumption) (by assumption)) rfl (by k_is) rfl rfl rfl); (case kB => exact rfl); (case kD => decide +kernel); (case c2 => exact rfl); (case c3 => exact rfl); (case c4 => exact rfl))
  ((intro g' L' h' tk' cells' F' N' Y' X' T' G' st' l' l1'; (try k_lt l1'); k_cells Y'; (try simp only [List.cons_append, List.nil_append] at N'); (try dsimp only); (try k_fold)))
  rename_i o7 o6 o5 o4 o3 o2 o1 d7 d6 d5 d4 d3 d2 d1
  have gol : g'.IsList sl vs.toArray := let ⟨o, ho, r⟩ := hol; ⟨o, G' _ _ ho (by simp), r⟩
  repeat' (first | (k_unfold; (try dsimp only)) | (k_extra "mycall") | (k_extra "mystep") | (k_extra "no for"; (fail_if_success (with_reducible show wpAny _ _ (call (Value.ref _) _ _) _ _ _)); k_extra "head"))
  ((with_reducible rename Fr _ _ _ _ => F9); (with_reducible rename News _ _ _ _ => N9))
  refine' c_words X' T' rfl ?e9 ?r9 (isl F9 gol) hks hlen ?_
  (case e9 => exact F9.keep)
  (case r9 => k_extra "room")
  intro T1 gl rl gws gn rws rn gs rs bd tb oT nT h1 tk1 e1 hT1 cT1 dT1 hgl hrl hTg hTr hgs4 hgw hrs4 hrw hbd nT1 ngl nrl
  have l1 := new_off (l := [(T1, oT), (rl, listOf (List.toArray rws) rn), (gl, listOf (List.toArray gws) gn)]) N9 ((fa_cons (nT1) (fa_cons (nrl) (fa_one (ngl)))))
  have N1 := news_addL (l := [(T1, oT), (rl, listOf (List.toArray rws) rn), (gl, listOf (List.toArray gws) gn)]) F9 N9 e1 ((fa_cons (⟨nT1, hT1⟩) (fa_cons (⟨nrl, hrl⟩) (fa_one (⟨ngl, hgl⟩)))))
  have F1 := Mine.Fr.ext F9 e1
  have hTup : h1.IsTuple T1 #[.ref gl, .ref rl, .int bd tb] := ⟨oT, hT1, cT1, _, dT1⟩
  clear F9 N9 e1
  dsimp only [List.cons_append, List.nil_append] at N1
  have a1 : @Ne Nat T1 (L' + 1) := l1 _ (.head _) _ (mem_at 6 rfl)
  have a2 : @Ne Nat rl (L' + 1) := l1 _ (.tail _ (.head _)) _ (mem_at 6 rfl)
  have a3 : @Ne Nat gl (L' + 1) := l1 _ (mem_at 2 rfl) _ (mem_at 6 rfl)
  repeat' (first | (k_unfold; (try dsimp only)) | (k_extra "mycall") | (k_extra "mystep") | (k_extra "no for"; (fail_if_success (with_reducible show wpAny _ _ (call (Value.ref _) _ _) _ _ _)); k_extra "head"))
  ((with_reducible rename Fr _ _ _ _ => F9); (with_reducible rename News _ _ _ _ => N9))
  rename_i o1b d1b hA1
  have hG : TextsAt hA1 gl gs := ⟨gws, gn, (N9 (gl, listOf (List.toArray gws) gn) (mem_at 2 rfl)).1, hTg.len, fun i v x a b => hTg.at a b⟩
  have hRo : TextsAt hA1 rl rs := ⟨rws, rn, (N9 (rl, listOf (List.toArray rws) rn) (.tail _ (.head _))).1, hTr.len, fun i v x a b => hTr.at a b⟩
  have N1 : News g' L' hA1 [(rl, listOf (List.toArray rws) rn), (L' + 1 + 1 + 1 + 1 + 1 + 1 + 1, o7), (L' + 1 + 1 + 1 + 1 + 1 + 1, o6), (L' + 1 + 1 + 1 + 1 + 1, o5), (L' + 1 + 1 + 1 + 1, o4), (L' + 1 + 1 + 1, o3), (L' + 1 + 1, o2), (L' + 1, o1b)] := (fa_cons (N9 _ (.tail _ (.head _))) (fun p hp => N9 _ (mem_drop 3 hp)))
  clear N9
  ((with_reducible rename Fr _ _ _ _ => F9); (with_reducible rename News _ _ _ _ => N9))
  refine' c_near X' T' rfl ?e9 ?r9 hG hRo hgs4 hrs4 ?l91 ?l92 ?l93 ?_
  (case e9 => exact F9.keep)
  (case r9 => k_extra "room")
  (case l91 => exact fun g hg => Nat.lt_of_le_of_lt (hgw g hg).2.1 (by decide))
  (case l92 => exact fun r hr => by obtain ⟨k, a, b⟩ := at_of hr; exact (RW_facts (by omega) (hrw k r a)).2.2)
  (case l93 => exact fun g hg r hr => by obtain ⟨k, a, b⟩ := at_of hr; exact good_all (hgw g hg) (by omega) (hrw k r a) hbd)
  intro T2 na oT2 nT2 h2 tk2 tl e2 hT2 cT2 dT2 htl hNear nfT2
  have l2 := new_off (l := (T2, oT2) :: tl) N9 ((fa_cons (nfT2) (fun p hp => (htl p hp).2.1)))
  have N2 := news_addL (l := (T2, oT2) :: tl) F9 N9 e2 ((fa_cons (⟨nfT2, hT2⟩) (fun p hp => ⟨(htl p hp).2.1, (htl p hp).1⟩)))
  have N3 : News g' L' h2 _ := fun p hp => N2 p (reord p hp)
  have F2 := Mine.Fr.ext F9 e2
  have hTup2 : h2.IsTuple T2 #[.ref na, .bool true] := ⟨oT2, hT2, cT2, _, dT2⟩
  have tcl : ∀ p ∈ tl, p.2.cls = .type "list" := fun p hp => (htl p hp).2.2
  clear F9 N9 e2 N2 htl
  dsimp only [List.cons_append, List.nil_append] at N3
  have ot : OwnOff tl [rl, L' + 1 + 1 + 1 + 1 + 1 + 1 + 1, L' + 1 + 1 + 1 + 1 + 1 + 1, L' + 1 + 1 + 1 + 1 + 1, L' + 1 + 1 + 1 + 1, L' + 1 + 1 + 1, L' + 1 + 1, L' + 1] := fun p hp => by
    have z := fun q hq => l2 p (.tail _ hp) q hq
    exact (fa_cons (z _ (.head _)) (fa_cons (z _ (.tail _ (.head _))) (fa_cons (z _ (mem_at 2 rfl)) (fa_cons (z _ (mem_at 3 rfl)) (fa_cons (z _ (mem_at 4 rfl)) (fa_cons (z _ (mem_at 5 rfl)) (fa_cons (z _ (mem_at 6 rfl)) (fa_one (z (L' + 1, o1b) (mem_at 7 rfl))))))))))
  have b1 : @Ne Nat T2 (L' + 1 + 1) := l2 _ (.head _) _ (mem_at 6 rfl)
  have b2 : @Ne Nat rl (L' + 1 + 1) := l1 _ (.tail _ (.head _)) _ (mem_at 5 rfl)
  repeat' (first | (k_unfold; (try dsimp only)) | (k_extra "mycall") | (k_extra "mystep") | (k_extra "no for"; (fail_if_success (with_reducible show wpAny _ _ (call (Value.ref _) _ _) _ _ _)); k_extra "head"))
  ((with_reducible rename Fr _ _ _ _ => F9); (with_reducible rename News _ _ _ _ => N9))
  rename_i o2b d2b hA2
  have N4 : News g' L' hA2 ((rl, listOf (List.toArray rws) rn) :: (L' + 1 + 1 + 1 + 1 + 1 + 1 + 1, o7) :: (L' + 1 + 1 + 1 + 1 + 1 + 1, o6) :: (L' + 1 + 1 + 1 + 1 + 1, o5) :: (L' + 1 + 1 + 1 + 1, o4) :: (L' + 1 + 1 + 1, o3) :: (L' + 1 + 1, o2b) :: (L' + 1, o1b) :: tl) := fun p hp => N9 p (.tail _ hp)
  clear N9
  ((with_reducible rename Fr _ _ _ _ => F9); (with_reducible rename News _ _ _ _ => N9))
  have NNf : ∀ h9, News g' L' h9 tl → NearAt h9 na (gs.map (nearOf rs bd)) := fun h9 n9 => hNear h9 fun p hp => (n9 p hp).1
  have rl3 : @Ne Nat rl (L' + 1 + 1 + 1) := l1 _ (.tail _ (.head _)) _ (mem_at 4 rfl)
  have rl4 : @Ne Nat rl (L' + 1 + 1 + 1 + 1) := l1 _ (.tail _ (.head _)) _ (mem_at 3 rfl)
  have rl5 : @Ne Nat rl (L' + 1 + 1 + 1 + 1 + 1) := l1 _ (.tail _ (.head _)) _ (mem_at 2 rfl)
  have rl6 : @Ne Nat rl (L' + 1 + 1 + 1 + 1 + 1 + 1) := l1 _ (.tail _ (.head _)) _ (.tail _ (.head _))
  have rl7 : @Ne Nat rl (L' + 1 + 1 + 1 + 1 + 1 + 1 + 1) := l1 _ (.tail _ (.head _)) _ (.head _)
  clear hNear hTup2 hTup l2 l1 hG hRo
  refine gen (gs.map (nearOf rs bd)) fun nn hnn0 => ?_
  rw [← hnn0] at NNf
  have hnn : nn.length = 4 := by rw [hnn0, List.length_map, hgs4]
  have hnk : ∀ ks ∈ nn, ∀ k ∈ ks, k < 4 := fun ks h => by rw [hnn0] at h; exact (near_k ks h).1
  have hnl : ∀ ks ∈ nn, ks.length < 20 := fun ks h => by rw [hnn0] at h; exact (near_k ks h).2
  refine' c_lack X' T' rfl ?e9 ?r9 ?u9 ?nn9 hnn hnk hnl ?_
  (case e9 => exact F9.keep)
  (case r9 => k_extra "room")
  (case u9 => show un + 3 + 100 < cLine; exact room3 hun (by decide))
  (case nn9 => exact NNf _ fun p hp => N9 p (mem_drop 8 (hp)))
  intro T3 ca cvs oT3 nT3 h3 tk3 t3 e3 hT3 cT3 dT3 hca hcs nfT3 nfca
  have l3 := new_off (l := [(T3, oT3), (ca, LCg.lst cvs)]) N9 ((fa_cons (nfT3) (fa_one (nfca))))
  have N5 := news_addL (l := [(T3, oT3), (ca, LCg.lst cvs)]) F9 N9 e3 ((fa_cons (⟨nfT3, hT3⟩) (fa_one (⟨nfca, hca⟩))))
  have F5 := Mine.Fr.ext F9 e3
  obtain ⟨mst, hmst⟩ : ∃ m, m = (lackL (fun j => nn.getD j []) 16).1:= ⟨_, rfl⟩
  have hTup3 : h3.IsTuple T3 #[.int mst t3, .ref ca] := ⟨oT3, hT3, cT3, _, by rw [hmst]; exact dT3⟩
  clear F9 N9 e3
  dsimp only [List.cons_append, List.nil_append] at N5
  repeat' (first | (k_unfold; (try dsimp only)) | (k_extra "mycall") | (k_extra "mystep") | (k_extra "no for"; (fail_if_success (with_reducible show wpAny _ _ (call (Value.ref _) _ _) _ _ _)); k_extra "head"))
  ((with_reducible rename Fr _ _ _ _ => F9); (with_reducible rename News _ _ _ _ => N9))
  rename_i hA3
  have N6 : News g' L' hA3 ((ca, LCg.lst cvs) :: (rl, listOf (List.toArray rws) rn) :: (L' + 1 + 1 + 1 + 1 + 1 + 1 + 1, o7) :: (L' + 1 + 1 + 1 + 1 + 1 + 1, o6) :: (L' + 1 + 1 + 1 + 1 + 1, o5) :: (L' + 1 + 1 + 1 + 1, o4) :: (L' + 1 + 1 + 1, o3) :: (L' + 1 + 1, o2b) :: (L' + 1, o1b) :: tl) := fun p hp => N9 p (.tail _ hp)
  clear N9
  ((with_reducible rename Fr _ _ _ _ => F9); (with_reducible rename News _ _ _ _ => N9))
  have ca3 : @Ne Nat ca (L' + 1 + 1 + 1) := l3 _ (.tail _ (.head _)) _ (mem_at 5 rfl)
  have ca4 : @Ne Nat ca (L' + 1 + 1 + 1 + 1) := l3 _ (.tail _ (.head _)) _ (mem_at 4 rfl)
  have ca5 : @Ne Nat ca (L' + 1 + 1 + 1 + 1 + 1) := l3 _ (.tail _ (.head _)) _ (mem_at 3 rfl)
  have ca6 : @Ne Nat ca (L' + 1 + 1 + 1 + 1 + 1 + 1) := l3 _ (.tail _ (.head _)) _ (mem_at 2 rfl)
  have ca7 : @Ne Nat ca (L' + 1 + 1 + 1 + 1 + 1 + 1 + 1) := l3 _ (.tail _ (.head _)) _ (.tail _ (.head _))
  refine' c_new0 X' T' rfl ?r9 F9 N9 ?_
  (case r9 => k_extra "room")
  intro x1 i1 y1 h4 tk4 hk1 kt1 dn1 F4 N4 xn1 hoff4
  clear F9 N9
  have xa3 : (@Ne Nat x1 (L' + 1 + 1 + 1)) := (hoff4 (L' + 1 + 1 + 1, o3) (mem_at 6 rfl)).1.symm
  have xb3 : (@Ne Nat i1 (L' + 1 + 1 + 1)) := (hoff4 (L' + 1 + 1 + 1, o3) (mem_at 6 rfl)).2.1.symm
  have xc3 : (@Ne Nat y1 (L' + 1 + 1 + 1)) := (hoff4 (L' + 1 + 1 + 1, o3) (mem_at 6 rfl)).2.2.symm
  have xa4 : (@Ne Nat x1 (L' + 1 + 1 + 1 + 1)) := (hoff4 (L' + 1 + 1 + 1 + 1, o4) (mem_at 5 rfl)).1.symm
  have xb4 : (@Ne Nat i1 (L' + 1 + 1 + 1 + 1)) := (hoff4 (L' + 1 + 1 + 1 + 1, o4) (mem_at 5 rfl)).2.1.symm
  have xc4 : (@Ne Nat y1 (L' + 1 + 1 + 1 + 1)) := (hoff4 (L' + 1 + 1 + 1 + 1, o4) (mem_at 5 rfl)).2.2.symm
  have xa5 : (@Ne Nat x1 (L' + 1 + 1 + 1 + 1 + 1)) := (hoff4 (L' + 1 + 1 + 1 + 1 + 1, o5) (mem_at 4 rfl)).1.symm
  have xb5 : (@Ne Nat i1 (L' + 1 + 1 + 1 + 1 + 1)) := (hoff4 (L' + 1 + 1 + 1 + 1 + 1, o5) (mem_at 4 rfl)).2.1.symm
  have xc5 : (@Ne Nat y1 (L' + 1 + 1 + 1 + 1 + 1)) := (hoff4 (L' + 1 + 1 + 1 + 1 + 1, o5) (mem_at 4 rfl)).2.2.symm
  have xa6 : (@Ne Nat x1 (L' + 1 + 1 + 1 + 1 + 1 + 1)) := (hoff4 (L' + 1 + 1 + 1 + 1 + 1 + 1, o6) (mem_at 3 rfl)).1.symm
  have xb6 : (@Ne Nat i1 (L' + 1 + 1 + 1 + 1 + 1 + 1)) := (hoff4 (L' + 1 + 1 + 1 + 1 + 1 + 1, o6) (mem_at 3 rfl)).2.1.symm
  have xc6 : (@Ne Nat y1 (L' + 1 + 1 + 1 + 1 + 1 + 1)) := (hoff4 (L' + 1 + 1 + 1 + 1 + 1 + 1, o6) (mem_at 3 rfl)).2.2.symm
  have xa7 : (@Ne Nat x1 (L' + 1 + 1 + 1 + 1 + 1 + 1 + 1)) := (hoff4 (L' + 1 + 1 + 1 + 1 + 1 + 1 + 1, o7) (mem_at 2 rfl)).1.symm
  have xb7 : (@Ne Nat i1 (L' + 1 + 1 + 1 + 1 + 1 + 1 + 1)) := (hoff4 (L' + 1 + 1 + 1 + 1 + 1 + 1 + 1, o7) (mem_at 2 rfl)).2.1.symm
  have xc7 : (@Ne Nat y1 (L' + 1 + 1 + 1 + 1 + 1 + 1 + 1)) := (hoff4 (L' + 1 + 1 + 1 + 1 + 1 + 1 + 1, o7) (mem_at 2 rfl)).2.2.symm
  repeat' (first | (k_unfold; (try dsimp only)) | (k_extra "mycall") | (k_extra "mystep") | (k_extra "no for"; (fail_if_success (with_reducible show wpAny _ _ (call (Value.ref _) _ _) _ _ _)); k_extra "head"))
  ((with_reducible rename Fr _ _ _ _ => F9); (with_reducible rename News _ _ _ _ => N9))
  refine' c_new0 X' T' rfl ?r9 F9 N9 ?_
  (case r9 => k_extra "room")
  intro x2 i2 y2 h5 tk5 hk2 kt2 dn2 F5 N5 xn2 hoff5
  clear F9 N9
  have ya3 : (@Ne Nat x2 (L' + 1 + 1 + 1)) := (hoff5 (L' + 1 + 1 + 1, o3) (mem_at 9 rfl)).1.symm
  have yb3 : (@Ne Nat i2 (L' + 1 + 1 + 1)) := (hoff5 (L' + 1 + 1 + 1, o3) (mem_at 9 rfl)).2.1.symm
  have yc3 : (@Ne Nat y2 (L' + 1 + 1 + 1)) := (hoff5 (L' + 1 + 1 + 1, o3) (mem_at 9 rfl)).2.2.symm
  have ya4 : (@Ne Nat x2 (L' + 1 + 1 + 1 + 1)) := (hoff5 (L' + 1 + 1 + 1 + 1, o4) (mem_at 8 rfl)).1.symm
  have yb4 : (@Ne Nat i2 (L' + 1 + 1 + 1 + 1)) := (hoff5 (L' + 1 + 1 + 1 + 1, o4) (mem_at 8 rfl)).2.1.symm
  have yc4 : (@Ne Nat y2 (L' + 1 + 1 + 1 + 1)) := (hoff5 (L' + 1 + 1 + 1 + 1, o4) (mem_at 8 rfl)).2.2.symm
  have ya5 : (@Ne Nat x2 (L' + 1 + 1 + 1 + 1 + 1)) := (hoff5 (L' + 1 + 1 + 1 + 1 + 1, o5) (mem_at 7 rfl)).1.symm
  have yb5 : (@Ne Nat i2 (L' + 1 + 1 + 1 + 1 + 1)) := (hoff5 (L' + 1 + 1 + 1 + 1 + 1, o5) (mem_at 7 rfl)).2.1.symm
  have yc5 : (@Ne Nat y2 (L' + 1 + 1 + 1 + 1 + 1)) := (hoff5 (L' + 1 + 1 + 1 + 1 + 1, o5) (mem_at 7 rfl)).2.2.symm
  have ya6 : (@Ne Nat x2 (L' + 1 + 1 + 1 + 1 + 1 + 1)) := (hoff5 (L' + 1 + 1 + 1 + 1 + 1 + 1, o6) (mem_at 6 rfl)).1.symm
  have yb6 : (@Ne Nat i2 (L' + 1 + 1 + 1 + 1 + 1 + 1)) := (hoff5 (L' + 1 + 1 + 1 + 1 + 1 + 1, o6) (mem_at 6 rfl)).2.1.symm
  have yc6 : (@Ne Nat y2 (L' + 1 + 1 + 1 + 1 + 1 + 1)) := (hoff5 (L' + 1 + 1 + 1 + 1 + 1 + 1, o6) (mem_at 6 rfl)).2.2.symm
  have ya7 : (@Ne Nat x2 (L' + 1 + 1 + 1 + 1 + 1 + 1 + 1)) := (hoff5 (L' + 1 + 1 + 1 + 1 + 1 + 1 + 1, o7) (mem_at 5 rfl)).1.symm
  have yb7 : (@Ne Nat i2 (L' + 1 + 1 + 1 + 1 + 1 + 1 + 1)) := (hoff5 (L' + 1 + 1 + 1 + 1 + 1 + 1 + 1, o7) (mem_at 5 rfl)).2.1.symm
  have yc7 : (@Ne Nat y2 (L' + 1 + 1 + 1 + 1 + 1 + 1 + 1)) := (hoff5 (L' + 1 + 1 + 1 + 1 + 1 + 1 + 1, o7) (mem_at 5 rfl)).2.2.symm
  repeat' (first | (k_unfold; (try dsimp only)) | (k_extra "mycall") | (k_extra "mystep") | (k_extra "no for"; (fail_if_success (with_reducible show wpAny _ _ (call (Value.ref _) _ _) _ _ _)); k_extra "head"))
  ((with_reducible rename Fr _ _ _ _ => F9); (with_reducible rename News _ _ _ _ => N9))
  rename_i dl _ ll9 al _ la9 _ _ lD9 _ _ p3 q3 _ p4 q4 _ p5 q5 hA4 p6 q6
  refine gen ((al, listOf (List.toArray []) 0) :: (x2, instObj 242 i2) :: (i2, hdict hk2 kt2 y2 dn2) :: (y2, listOf (List.toArray []) 0) :: (ca, LCg.lst cvs) :: (rl, listOf (List.toArray rws) rn) :: (L' + 1 + 1 + 1 + 1 + 1 + 1 + 1, o7) :: (L' + 1 + 1 + 1 + 1 + 1 + 1, p6) :: (L' + 1 + 1 + 1 + 1, p4) :: tl) fun B hBd => ?_
  have N10 : News g' L' hA4 ((y1, listOf (refs []).toArray 0) :: (dl, listOf (refs []).toArray 0) :: (L' + 1 + 1 + 1, p3) :: (L' + 1, o1b) :: (L' + 1 + 1, o2b) :: (L' + 1 + 1 + 1 + 1 + 1, p5) :: (x1, instObj 242 i1) :: (i1, hdict hk1 kt1 y1 dn1) :: ([] ++ B)) := by
    rw [hBd]
    exact (fa_cons (N9 _ (mem_at 8 rfl)) (fa_cons (N9 _ (mem_at 2 rfl)) (fa_cons (N9 _ (mem_at 15 rfl)) (fa_cons (N9 _ (mem_at 17 rfl)) (fa_cons (N9 _ (mem_at 16 rfl)) (fa_cons (N9 _ (mem_at 13 rfl)) (fa_cons (N9 _ (mem_at 6 rfl)) (fa_cons (N9 _ (mem_at 7 rfl)) (fa_cons (N9 _ (.tail _ (.head _))) (fa_cons (N9 _ (mem_at 3 rfl)) (fa_cons (N9 _ (mem_at 4 rfl)) (fa_cons (N9 _ (mem_at 5 rfl)) (fa_cons (N9 _ (mem_at 9 rfl)) (fa_cons (N9 _ (mem_at 10 rfl)) (fa_cons (N9 _ (mem_at 11 rfl)) (fa_cons (N9 _ (mem_at 12 rfl)) (fa_cons (N9 _ (mem_at 14 rfl)) (fun p hp => N9 _ (mem_drop 18 (hp))))))))))))))))))))
  have hB : ∀ p ∈ (L' + 1 + 1 + 1, p3) :: (L' + 1, o1b) :: (L' + 1 + 1, o2b) :: (L' + 1 + 1 + 1 + 1 + 1, p5) :: (x1, instObj 242 i1) :: (i1, hdict hk1 kt1 y1 dn1) :: B, (@Ne Nat p.1 y1) ∧ (@Ne Nat p.1 dl) := by
    rw [hBd]
    exact (fa_cons (⟨(hoff4 (L' + 1 + 1 + 1, o3) (mem_at 6 rfl)).2.2, Nat.ne_of_lt (ll9.2.2.2.2.2.2.2.2.2.2.2.2.1)⟩) (fa_cons (⟨(hoff4 (L' + 1, o1b) (mem_at 8 rfl)).2.2, Nat.ne_of_lt (ll9.2.2.2.2.2.2.2.2.2.2.2.2.2.2.1)⟩) (fa_cons (⟨(hoff4 (L' + 1 + 1, o2b) (mem_at 7 rfl)).2.2, Nat.ne_of_lt (ll9.2.2.2.2.2.2.2.2.2.2.2.2.2.1)⟩) (fa_cons (⟨(hoff4 (L' + 1 + 1 + 1 + 1 + 1, o5) (mem_at 4 rfl)).2.2, Nat.ne_of_lt (ll9.2.2.2.2.2.2.2.2.2.2.1)⟩) (fa_cons (⟨xn1.2.1.symm, Nat.ne_of_lt (ll9.2.2.2.1)⟩) (fa_cons (⟨xn1.2.2.symm, Nat.ne_of_lt (ll9.2.2.2.2.1)⟩) (fa_cons (⟨(Nat.ne_of_lt (la9.2.2.2.2.2.2.1)).symm, (Nat.ne_of_lt la9.1).symm⟩) (fa_cons (⟨(hoff5 (y1, listOf #[] 0) (mem_at 2 rfl)).1.symm, Nat.ne_of_lt (ll9.1)⟩) (fa_cons (⟨(hoff5 (y1, listOf #[] 0) (mem_at 2 rfl)).2.1.symm, Nat.ne_of_lt (ll9.2.1)⟩) (fa_cons (⟨(hoff5 (y1, listOf #[] 0) (mem_at 2 rfl)).2.2.symm, Nat.ne_of_lt (ll9.2.2.1)⟩) (fa_cons (⟨(hoff4 (ca, LCg.lst cvs) (.head _)).2.2, Nat.ne_of_lt (ll9.2.2.2.2.2.2.1)⟩) (fa_cons (⟨(hoff4 (rl, listOf (List.toArray rws) rn) (.tail _ (.head _))).2.2, Nat.ne_of_lt (ll9.2.2.2.2.2.2.2.1)⟩) (fa_cons (⟨(hoff4 (L' + 1 + 1 + 1 + 1 + 1 + 1 + 1, o7) (mem_at 2 rfl)).2.2, Nat.ne_of_lt (ll9.2.2.2.2.2.2.2.2.1)⟩) (fa_cons (⟨(hoff4 (L' + 1 + 1 + 1 + 1 + 1 + 1, o6) (mem_at 3 rfl)).2.2, Nat.ne_of_lt (ll9.2.2.2.2.2.2.2.2.2.1)⟩) (fa_cons (⟨(hoff4 (L' + 1 + 1 + 1 + 1, o4) (mem_at 5 rfl)).2.2, Nat.ne_of_lt (ll9.2.2.2.2.2.2.2.2.2.2.2.1)⟩) (fun p hp => ⟨(hoff4 p (mem_drop 9 (hp))).2.2, Nat.ne_of_lt (allLt_mem (ll9.2.2.2.2.2.2.2.2.2.2.2.2.2.2.2) p hp)⟩))))))))))))))))
  have ydn : @Ne Nat y1 dl := Nat.ne_of_lt (ll9.2.2.2.2.2.1)
  clear N9
  ((with_reducible rename Fr _ _ _ _ => F9); (with_reducible rename News _ _ _ _ => N9))
  refine compAE F9 (by with_unfolding_all rfl) (by with_unfolding_all rfl) (by decide) (by rfl) (by decide) (by rfl) (by rfl) ?_
  repeat' (first | (k_unfold; (try dsimp only)) | (k_extra "mycall") | (k_extra "mystep") | (k_extra "no for"; (fail_if_success (with_reducible show wpAny _ _ (call (Value.ref _) _ _) _ _ _)); k_extra "head"))
  ((with_reducible rename Fr _ _ _ _ => F9); (with_reducible rename News _ _ _ _ => N9))
  rename_i fl hF5 lf
  refine absG fun G9 hG9 => ?_
  obtain ⟨oz, vz, hoz, hvz, N11⟩ : Ex2 fun (oz : Obj) (vz : List Value) => Cj3 (oz = listOf vz.toArray 0) (NumsAre vz [0, 1, 2, 3]) (News g' L' hF5 ((fl, oz) :: (y1, listOf (refs []).toArray 0) :: (dl, listOf (refs []).toArray 0) :: (L' + 1 + 1 + 1, p3) :: (L' + 1, o1b) :: (L' + 1 + 1, o2b) :: (L' + 1 + 1 + 1 + 1 + 1, p5) :: (x1, instObj 242 i1) :: (i1, hdict hk1 kt1 y1 dn1) :: B)):= ⟨_, [_, _, _, _], rfl, .cons _ _ (.cons _ _ (.cons _ _ (.cons _ _ .nil))), N9⟩
  clear N9
  refine hG9 ?_; clear hG9
  ((with_reducible rename Fr _ _ _ _ => F9); (with_reducible rename News _ _ _ _ => N9))
  have NZ : News g' L' hF5 ((y1, listOf (refs []).toArray 0) :: (dl, listOf (refs []).toArray 0) :: (L' + 1 + 1 + 1, p3) :: (L' + 1, o1b) :: (L' + 1 + 1, o2b) :: (L' + 1 + 1 + 1 + 1 + 1, p5) :: (x1, instObj 242 i1) :: (i1, hdict hk1 kt1 y1 dn1) :: ([] ++ ((fl, oz) :: B))) := (fa_cons (N9 _ (.tail _ (.head _))) (fa_cons (N9 _ (mem_at 2 rfl)) (fa_cons (N9 _ (mem_at 3 rfl)) (fa_cons (N9 _ (mem_at 4 rfl)) (fa_cons (N9 _ (mem_at 5 rfl)) (fa_cons (N9 _ (mem_at 6 rfl)) (fa_cons (N9 _ (mem_at 7 rfl)) (fa_cons (N9 _ (mem_at 8 rfl)) (fa_cons (N9 _ (.head _)) (fun p hp => N9 _ (mem_drop 9 (hp))))))))))))
  clear N9
  have hB1 : ∀ p ∈ (L' + 1 + 1 + 1, p3) :: (L' + 1, o1b) :: (L' + 1 + 1, o2b) :: (L' + 1 + 1 + 1 + 1 + 1, p5) :: (x1, instObj 242 i1) :: (i1, hdict hk1 kt1 y1 dn1) :: (fl, oz) :: B, (@Ne Nat p.1 y1) ∧ (@Ne Nat p.1 dl) := (fa_cons (hB _ (.head _)) (fa_cons (hB _ (.tail _ (.head _))) (fa_cons (hB _ (mem_at 2 rfl)) (fa_cons (hB _ (mem_at 3 rfl)) (fa_cons (hB _ (mem_at 4 rfl)) (fa_cons (hB _ (mem_at 5 rfl)) (fa_cons (⟨(Nat.ne_of_lt lf.1).symm, (Nat.ne_of_lt lf.2.1).symm⟩) (fun p hp => hB _ (mem_drop 6 (hp))))))))))
  have hvl : vz.length = 4 := by have := IntsAre.length hvz; simpa [nums] using this
  have RRf0 : ∀ h9 : Heap, h9.get? rl = some (listOf (List.toArray rws) rn) → RoomsAt h9 rl := fun h9 n9 => by
    refine ⟨rws, rn, n9, by rw [hTr.len]; exact hrs4, fun k v hv => ?_⟩
    have hk4 : k < rs.length := by rw [← hTr.len]; exact (List.getElem?_eq_some_iff.mp hv).1
    obtain ⟨t, rfl⟩ := hTr.at hv (List.getElem?_eq_getElem hk4)
    refine absG fun G9 hG9 => ?_
    obtain ⟨a, b, c⟩ := RW_facts (by omega) (hrw k _ (List.getElem?_eq_getElem hk4))
    refine hG9 ?_; clear hG9
    exact ⟨_, t, rfl, a, b, by rw [S_len]; omega⟩
  have RRf : ∀ h9, News g' L' h9 B → RoomsAt h9 rl := fun h9 n9 => RRf0 h9 (n9 (rl, listOf (List.toArray rws) rn) (by rw [hBd]; exact .tail _ (mem_at 4 rfl))).1
  have NNB : ∀ h9, News g' L' h9 B → NearAt h9 na nn := fun h9 n9 => NNf h9 fun p hp => n9 p (by rw [hBd]; exact .tail _ (mem_drop 8 (hp)))
  refine .inl ⟨fl, vz, _, oz, 0, fun v m => m (Str.ofString "guest") = some v, SeatV g' L' y1 dl x1 i1 (L' + 1 + 1 + 1) (L' + 1) (L' + 1 + 1) (L' + 1 + 1 + 1 + 1 + 1) (hdict hk1 kt1 y1 dn1) p3 o1b o2b p5 (fun j => nn.getD j []) [0, 1, 2, 3] ((fl, oz) :: B), rfl, rfl, F9, NZ, by rw [hoz], by rw [hoz], .inr ⟨.tail _ (mem_at 7 rfl), ?_⟩, ?_, ?_, ?_, ?_, ?_⟩
  · intro i tk ys nw hz4q
    refine absG fun G9 hG9 => ?_
    obtain ⟨ts1, lt1, n1, m1, tab, laid, oks, N, tlT, _⟩ := hz4q
    refine hG9 ?_; clear hG9
    exact .tail _ (mem_drop 7 (List.mem_append_right _ (.head _)))
  · rw [hvl]; decide
  · intro i tk ys nw hz4q
    refine absG fun G9 hG9 => ?_
    obtain ⟨ts1, lt1, n1, m1, tab, laid, oks, N, tlT, _, hok, _⟩ := hz4q
    refine hG9 ?_; clear hG9
    rw [List.length_map, hok]; exact Nat.le_refl _
  · intro tk htk
    dsimp only at htk
    exact .mk [] [] 0 0 [] [] [] 0 [] PI.nil rfl (fun p hp => nomatch hp) (fun h2 _ _ => ⟨Ents.nil, Ents.nil⟩) (Nat.zero_le _) (by omega)
  · rintro s₂ ⟨hs2, rfl⟩
    constructor
    · intro i v hv
      exact asgName rfl rfl _
    · intro i v tk₀ tk ys nw I oI D C oC m₂ h E' hi hv hV htk hNs hKV F₁ N₁ off hz23q
      refine absG fun G9 hG9 => ?_
      obtain ⟨ne1, ne2, ne3, ne4, hIc⟩ := hz23q
      refine hG9 ?_; clear hG9
      clear F9
      refine absG fun G9 hG9 => ?_
      obtain ⟨u, tu, rfl, hu⟩ := hvz.item hv
      have hV2 := hV
      refine hG9 ?_; clear hG9
      rcases hV with ⟨ts1, lt1, n1, m1, tab, laid, oks, N, tlT, _⟩
      refine TestM.nil ?_
      refine wpAny_mono (Q := EndM _ _ _ _ [(I, oI), (D, LCg.lst (oks.map Value.bool)), (C, oC)] [I, D, C] _) ?_ (fun y s5 q => EndM.toX (own := [(I, oI), (D, LCg.lst (oks.map Value.bool))]) (fr := [(C, oC)]) q ⟨_, _, rfl, hNs⟩ rfl) (fun _ _ e => e)
      try dsimp only
      repeat' (first | (k_unfold; (try dsimp only)) | (k_extra "mycall") | (k_extra "mystep") | (k_extra "no for"; (fail_if_success (with_reducible show wpAny _ _ (call (Value.ref _) _ _) _ _ _)); k_extra "head"))
      ((with_reducible rename Fr _ _ _ _ => F9); (with_reducible rename News _ _ _ _ => N9))
      rename_i ofl hF6 lo
      refine' seat_turn (hk := hk1) (kt := kt1) (dn := dn1) (tk₀ := tk₀) X' T' rfl ?r9 rfl ⟨_, _, rfl⟩ F9 N9 ?o9 hV2 off ?t9 hu (by decide) (by decide) rfl ydn hB1 (fun h9 n9 => RRf h9 fun p hp => n9 p (.tail _ hp)) (fun h9 n9 => NNB h9 fun p hp => n9 p (.tail _ hp)) hnn hnk hIc ⟨_, hNs⟩
      (case r9 => k_extra "room")
      (case t9 => exact htk)
      (case o9 => exact fun p hp => allLt_mem (by exact lo) p hp)
  · rintro D tk₀ tk ys nw h hV htk F₁ N₁ off
    clear F9
    try dsimp only at F₁
    rcases hV with ⟨ts1, lt1, n1, m1, tab, laid, oks, N, tlT, hPI, hok, htc, hEx, hNt, h1t⟩
    have mB : ∀ p ∈ B, p ∈ tlT ++ (fl, oz) :: B := fun p hp => List.mem_append_right _ (.tail _ hp)
    have mBx := mem_eq hBd mB
    refine gen ((D, LCg.lst (oks.map Value.bool)) :: (y1, listOf (refs ts1).toArray n1) :: (dl, listOf (refs lt1).toArray m1) :: (L' + 1 + 1 + 1, p3) :: (L' + 1 + 1 + 1 + 1 + 1, p5) :: (x1, instObj 242 i1) :: (i1, hdict hk1 kt1 y1 dn1) :: (ca, LCg.lst cvs) :: (rl, listOf (List.toArray rws) rn) :: (L' + 1 + 1 + 1 + 1 + 1 + 1 + 1, o7) :: (tlT ++ tl)) fun B2 hBd2 => ?_
    have N12 : News g' L' h ((y2, listOf (refs []).toArray 0) :: (al, listOf (refs []).toArray 0) :: (L' + 1 + 1 + 1 + 1, p4) :: (L' + 1, o1b) :: (L' + 1 + 1, o2b) :: (L' + 1 + 1 + 1 + 1 + 1 + 1, p6) :: (x2, instObj 242 i2) :: (i2, hdict hk2 kt2 y2 dn2) :: B2) := by
      rw [hBd2]
      exact (fa_cons (N₁ _ (mem_drop 9 (mBx _ (mem_at 3 rfl)))) (fa_cons (N₁ _ (mem_drop 9 (mBx _ (.head _)))) (fa_cons (N₁ _ (mem_drop 9 (mBx _ (mem_at 8 rfl)))) (fa_cons (N₁ _ (mem_at 4 rfl)) (fa_cons (N₁ _ (mem_at 5 rfl)) (fa_cons (N₁ _ (mem_drop 9 (mBx _ (mem_at 7 rfl)))) (fa_cons (N₁ _ (mem_drop 9 (mBx _ (.tail _ (.head _))))) (fa_cons (N₁ _ (mem_drop 9 (mBx _ (mem_at 2 rfl)))) (fa_cons (N₁ _ (.head _)) (fa_cons (N₁ _ (.tail _ (.head _))) (fa_cons (N₁ _ (mem_at 2 rfl)) (fa_cons (N₁ _ (mem_at 3 rfl)) (fa_cons (N₁ _ (mem_at 6 rfl)) (fa_cons (N₁ _ (mem_at 7 rfl)) (fa_cons (N₁ _ (mem_at 8 rfl)) (fa_cons (N₁ _ (mem_drop 9 (mBx _ (mem_at 4 rfl)))) (fa_cons (N₁ _ (mem_drop 9 (mBx _ (mem_at 5 rfl)))) (fa_cons (N₁ _ (mem_drop 9 (mBx _ (mem_at 6 rfl)))) (fun p hp => (List.mem_append.mp hp).elim (fun hp => N₁ _ (mem_drop 9 (List.mem_append_left _ hp))) (fun hp => N₁ _ (mem_drop 9 (mBx _ (mem_drop 9 (hp))))))))))))))))))))))))
    have hB2 : ∀ p ∈ (L' + 1 + 1 + 1 + 1, p4) :: (L' + 1, o1b) :: (L' + 1 + 1, o2b) :: (L' + 1 + 1 + 1 + 1 + 1 + 1, p6) :: (x2, instObj 242 i2) :: (i2, hdict hk2 kt2 y2 dn2) :: B2, (@Ne Nat p.1 y2) ∧ (@Ne Nat p.1 al) := by
      rw [hBd2]
      exact (fa_cons (⟨(hoff5 (L' + 1 + 1 + 1 + 1, o4) (mem_at 8 rfl)).2.2, Nat.ne_of_lt (la9.2.2.2.2.2.2.2.2.2.2.2.2.1)⟩) (fa_cons (⟨(hoff5 (L' + 1, o1b) (mem_at 11 rfl)).2.2, Nat.ne_of_lt (la9.2.2.2.2.2.2.2.2.2.2.2.2.2.2.2.1)⟩) (fa_cons (⟨(hoff5 (L' + 1 + 1, o2b) (mem_at 10 rfl)).2.2, Nat.ne_of_lt (la9.2.2.2.2.2.2.2.2.2.2.2.2.2.2.1)⟩) (fa_cons (⟨(hoff5 (L' + 1 + 1 + 1 + 1 + 1 + 1, o6) (mem_at 6 rfl)).2.2, Nat.ne_of_lt (la9.2.2.2.2.2.2.2.2.2.2.1)⟩) (fa_cons (⟨xn2.2.1.symm, Nat.ne_of_lt (la9.2.1)⟩) (fa_cons (⟨xn2.2.2.symm, Nat.ne_of_lt (la9.2.2.1)⟩) (fa_cons (⟨fun q => off (y2, listOf (List.toArray []) 0) (mem_drop 8 (mB _ (by rw [hBd]; exact .tail _ (mem_at 2 rfl)))) (List.mem_singleton.mpr q.symm), fun q => off (al, listOf (List.toArray []) 0) (mem_drop 8 (mB _ (by rw [hBd]; exact .head _))) (List.mem_singleton.mpr q.symm)⟩) (fa_cons (⟨(hoff5 (y1, listOf #[] 0) (mem_at 2 rfl)).2.2, Nat.ne_of_lt (la9.2.2.2.2.2.2.1)⟩) (fa_cons (⟨(Nat.ne_of_lt (ll9.2.2.1)).symm, Nat.ne_of_lt (la9.1)⟩) (fa_cons (⟨(hoff5 (L' + 1 + 1 + 1, o3) (mem_at 9 rfl)).2.2, Nat.ne_of_lt (la9.2.2.2.2.2.2.2.2.2.2.2.2.2.1)⟩) (fa_cons (⟨(hoff5 (L' + 1 + 1 + 1 + 1 + 1, o5) (mem_at 7 rfl)).2.2, Nat.ne_of_lt (la9.2.2.2.2.2.2.2.2.2.2.2.1)⟩) (fa_cons (⟨(hoff5 (x1, instObj 242 i1) (.head _)).2.2, Nat.ne_of_lt (la9.2.2.2.2.1)⟩) (fa_cons (⟨(hoff5 (i1, hdict hk1 kt1 y1 dn1) (.tail _ (.head _))).2.2, Nat.ne_of_lt (la9.2.2.2.2.2.1)⟩) (fa_cons (⟨(hoff5 (ca, LCg.lst cvs) (mem_at 3 rfl)).2.2, Nat.ne_of_lt (la9.2.2.2.2.2.2.2.1)⟩) (fa_cons (⟨(hoff5 (rl, listOf (List.toArray rws) rn) (mem_at 4 rfl)).2.2, Nat.ne_of_lt (la9.2.2.2.2.2.2.2.2.1)⟩) (fa_cons (⟨(hoff5 (L' + 1 + 1 + 1 + 1 + 1 + 1 + 1, o7) (mem_at 5 rfl)).2.2, Nat.ne_of_lt (la9.2.2.2.2.2.2.2.2.2.1)⟩) (fun p hp => (List.mem_append.mp hp).elim (fun hp => have z := N₁ p (mem_drop 9 (List.mem_append_left _ hp)); ⟨ne_cls z.1 (N12 _ (.head _)).1 ((htc p hp).1 ▸ type_ne (by decide)), ne_cls z.1 (N12 _ (.tail _ (.head _))).1 ((htc p hp).1 ▸ type_ne (by decide))⟩) (fun hp => ⟨(hoff5 p (mem_drop 12 (hp))).2.2, Nat.ne_of_lt (allLt_mem (la9.2.2.2.2.2.2.2.2.2.2.2.2.2.2.2.2) p hp)⟩))))))))))))))))))
    have yan : @Ne Nat y2 al := Nat.ne_of_lt (la9.2.2.2.1)
    clear N₁
    ((with_reducible rename Fr _ _ _ _ => F9); (with_reducible rename News _ _ _ _ => N9))
    repeat' (first | (k_unfold; (try dsimp only)) | (k_extra "mycall") | (k_extra "mystep") | (k_extra "no for"; (fail_if_success (with_reducible show wpAny _ _ (call (Value.ref _) _ _) _ _ _)); k_extra "head"))
    ((with_reducible rename Fr _ _ _ _ => F9); (with_reducible rename News _ _ _ _ => N9))
    refine wpAny_toks ?_
    refine compAE F9 (by with_unfolding_all rfl) (by with_unfolding_all rfl) (by decide) (by rfl) (by decide) (by rfl) (by rfl) ?_
    repeat' (first | (k_unfold; (try dsimp only)) | (k_extra "mycall") | (k_extra "mystep") | (k_extra "no for"; (fail_if_success (with_reducible show wpAny _ _ (call (Value.ref _) _ _) _ _ _)); k_extra "head"))
    ((with_reducible rename Fr _ _ _ _ => F9); (with_reducible rename News _ _ _ _ => N9))
    rename_i fl2 hF7 lf2
    refine absG fun G9 hG9 => ?_
    obtain ⟨oz2, vz2, hoz2, hvz2, N13⟩ : Ex2 fun (oz : Obj) (vz : List Value) => Cj3 (oz = listOf vz.toArray 0) (NumsAre vz [3, 2, 1, 0]) (News g' L' hF7 ((fl2, oz) :: (y2, listOf (refs []).toArray 0) :: (al, listOf (refs []).toArray 0) :: (L' + 1 + 1 + 1 + 1, p4) :: (L' + 1, o1b) :: (L' + 1 + 1, o2b) :: (L' + 1 + 1 + 1 + 1 + 1 + 1, p6) :: (x2, instObj 242 i2) :: (i2, hdict hk2 kt2 y2 dn2) :: B2)):= ⟨_, [_, _, _, _], rfl, .cons _ _ (.cons _ _ (.cons _ _ (.cons _ _ .nil))), N9⟩
    clear N9
    refine hG9 ?_; clear hG9
    ((with_reducible rename Fr _ _ _ _ => F9); (with_reducible rename News _ _ _ _ => N9))
    have NZ2 : News g' L' hF7 ((y2, listOf (refs []).toArray 0) :: (al, listOf (refs []).toArray 0) :: (L' + 1 + 1 + 1 + 1, p4) :: (L' + 1, o1b) :: (L' + 1 + 1, o2b) :: (L' + 1 + 1 + 1 + 1 + 1 + 1, p6) :: (x2, instObj 242 i2) :: (i2, hdict hk2 kt2 y2 dn2) :: ([] ++ ((fl2, oz2) :: B2))) := (fa_cons (N9 _ (.tail _ (.head _))) (fa_cons (N9 _ (mem_at 2 rfl)) (fa_cons (N9 _ (mem_at 3 rfl)) (fa_cons (N9 _ (mem_at 4 rfl)) (fa_cons (N9 _ (mem_at 5 rfl)) (fa_cons (N9 _ (mem_at 6 rfl)) (fa_cons (N9 _ (mem_at 7 rfl)) (fa_cons (N9 _ (mem_at 8 rfl)) (fa_cons (N9 _ (.head _)) (fun p hp => N9 _ (mem_drop 9 (hp))))))))))))
    have hB3 : ∀ p ∈ (L' + 1 + 1 + 1 + 1, p4) :: (L' + 1, o1b) :: (L' + 1 + 1, o2b) :: (L' + 1 + 1 + 1 + 1 + 1 + 1, p6) :: (x2, instObj 242 i2) :: (i2, hdict hk2 kt2 y2 dn2) :: (fl2, oz2) :: B2, (@Ne Nat p.1 y2) ∧ (@Ne Nat p.1 al) := (fa_cons (hB2 _ (.head _)) (fa_cons (hB2 _ (.tail _ (.head _))) (fa_cons (hB2 _ (mem_at 2 rfl)) (fa_cons (hB2 _ (mem_at 3 rfl)) (fa_cons (hB2 _ (mem_at 4 rfl)) (fa_cons (hB2 _ (mem_at 5 rfl)) (fa_cons (⟨(Nat.ne_of_lt lf2.1).symm, (Nat.ne_of_lt lf2.2.1).symm⟩) (fun p hp => hB2 _ (mem_drop 6 (hp))))))))))
    have hvl2 : vz2.length = 4 := by have := IntsAre.length hvz2; simpa [nums] using this
    have RRf2 : ∀ h9, News g' L' h9 B2 → RoomsAt h9 rl := fun h9 n9 => RRf0 h9 (n9 (rl, listOf (List.toArray rws) rn) (by rw [hBd2]; exact .tail _ (mem_at 7 rfl))).1
    have NNB2 : ∀ h9, News g' L' h9 B2 → NearAt h9 na nn := fun h9 n9 => NNf h9 fun p hp => n9 p (by rw [hBd2]; exact .tail _ (mem_drop 9 (List.mem_append_right _ hp)))
    refine .inl ⟨fl2, vz2, _, oz2, 0, fun v m => m (Str.ofString "guest") = some v, SeatV g' L' y2 al x2 i2 (L' + 1 + 1 + 1 + 1) (L' + 1) (L' + 1 + 1) (L' + 1 + 1 + 1 + 1 + 1 + 1) (hdict hk2 kt2 y2 dn2) p4 o1b o2b p6 (fun j => nn.getD j []) [3, 2, 1, 0] ((fl2, oz2) :: B2), rfl, rfl, F9, NZ2, by rw [hoz2], by rw [hoz2], .inr ⟨.tail _ (mem_at 7 rfl), ?_⟩, ?_, ?_, ?_, ?_, ?_⟩
    · intro i tk ys nw hz4q
      refine absG fun G9 hG9 => ?_
      obtain ⟨ts1, lt1, n1, m1, tab, laid, oks, N, tlT, _⟩ := hz4q
      refine hG9 ?_; clear hG9
      exact .tail _ (mem_drop 7 (List.mem_append_right _ (.head _)))
    · rw [hvl2]; decide
    · intro i tk ys nw hz4q
      refine absG fun G9 hG9 => ?_
      obtain ⟨ts1, lt1, n1, m1, tab, laid, oks, N, tlT, _, hok, _⟩ := hz4q
      refine hG9 ?_; clear hG9
      rw [List.length_map, hok]; exact Nat.le_refl _
    · intro tk htk
      dsimp only at htk
      exact .mk [] [] 0 0 [] [] [] 0 [] PI.nil rfl (fun p hp => nomatch hp) (fun h2 _ _ => ⟨Ents.nil, Ents.nil⟩) (Nat.zero_le _) (by omega)
    · rintro s₂ ⟨hs2, rfl⟩
      constructor
      · intro i v hv
        exact asgName rfl rfl _
      · intro i v tk₀ tk ys nw I oI D2 C oC m₂ h E' hi hv hV htk hNs hKV F₁ N₁ off hz23q
        refine absG fun G9 hG9 => ?_
        obtain ⟨ne1, ne2, ne3, ne4, hIc⟩ := hz23q
        refine hG9 ?_; clear hG9
        clear F9
        refine absG fun G9 hG9 => ?_
        obtain ⟨u, tu, rfl, hu⟩ := hvz2.item hv
        have hV2 := hV
        refine hG9 ?_; clear hG9
        rcases hV with ⟨ts2, lt2, n2, m2, tab2, laid2, oks2, Nb, tlT2, _⟩
        refine TestM.nil ?_
        refine wpAny_mono (Q := EndM _ _ _ _ [(I, oI), (D2, LCg.lst (oks2.map Value.bool)), (C, oC)] [I, D2, C] _) ?_ (fun y s5 q => EndM.toX (own := [(I, oI), (D2, LCg.lst (oks2.map Value.bool))]) (fr := [(C, oC)]) q ⟨_, _, rfl, hNs⟩ rfl) (fun _ _ e => e)
        try dsimp only
        repeat' (first | (k_unfold; (try dsimp only)) | (k_extra "mycall") | (k_extra "mystep") | (k_extra "no for"; (fail_if_success (with_reducible show wpAny _ _ (call (Value.ref _) _ _) _ _ _)); k_extra "head"))
        ((with_reducible rename Fr _ _ _ _ => F9); (with_reducible rename News _ _ _ _ => N9))
        rename_i ofl hF8 lo
        refine' seat_turn (hk := hk2) (kt := kt2) (dn := dn2) (tk₀ := tk₀) X' T' rfl ?r9 rfl ⟨_, _, rfl⟩ F9 N9 ?o9 hV2 off ?t9 hu (by decide) (by decide) rfl yan hB3 (fun h9 n9 => RRf2 h9 fun p hp => n9 p (.tail _ hp)) (fun h9 n9 => NNB2 h9 fun p hp => n9 p (.tail _ hp)) hnn hnk hIc ⟨_, hNs⟩
        (case r9 => k_extra "room")
        (case t9 => exact htk)
        (case o9 => exact fun p hp => allLt_mem (by exact lo) p hp)
    · rintro D2 tk₀ tk ys nw h hV htk F₁ N₁ off2
      clear F9
      try dsimp only at F₁
      intro htkF
      dsimp only at htkF
      rcases hV with ⟨ts2, lt2, n2, m2, tab2, laid2, oks2, Nb, tlT2, hPI2, hok2, htc2, hEx2, hNt2, h1t2⟩
      have mB2 : ∀ p ∈ B2, p ∈ tlT2 ++ (fl2, oz2) :: B2 := fun p hp => List.mem_append_right _ (.tail _ hp)
      refine gen (tlT2 ++ (tlT ++ tl)) fun tz htz => ?_
      have mB3 := mem_eq hBd2 mB2
      have N14 : News g' L' h ((D2, LCg.lst (oks2.map Value.bool)) :: (D, LCg.lst (oks.map Value.bool)) :: (y2, listOf (refs ts2).toArray n2) :: (al, listOf (refs lt2).toArray m2) :: (y1, listOf (refs ts1).toArray n1) :: (dl, listOf (refs lt1).toArray m1) :: (x2, instObj 242 i2) :: (i2, hdict hk2 kt2 y2 dn2) :: (x1, instObj 242 i1) :: (i1, hdict hk1 kt1 y1 dn1) :: (ca, LCg.lst cvs) :: (rl, listOf (List.toArray rws) rn) :: (L' + 1 + 1 + 1 + 1 + 1 + 1 + 1, o7) :: (L' + 1 + 1 + 1 + 1 + 1 + 1, p6) :: (L' + 1 + 1 + 1 + 1 + 1, p5) :: (L' + 1 + 1 + 1 + 1, p4) :: (L' + 1 + 1 + 1, p3) :: (L' + 1 + 1, o2b) :: (L' + 1, o1b) :: tz) := (fa_cons (N₁ _ (.head _)) (fa_cons (N₁ _ (mem_drop 9 (mB3 _ (.head _)))) (fa_cons (N₁ _ (.tail _ (.head _))) (fa_cons (N₁ _ (mem_at 2 rfl)) (fa_cons (N₁ _ (mem_drop 9 (mB3 _ (.tail _ (.head _))))) (fa_cons (N₁ _ (mem_drop 9 (mB3 _ (mem_at 2 rfl)))) (fa_cons (N₁ _ (mem_at 7 rfl)) (fa_cons (N₁ _ (mem_at 8 rfl)) (fa_cons (N₁ _ (mem_drop 9 (mB3 _ (mem_at 5 rfl)))) (fa_cons (N₁ _ (mem_drop 9 (mB3 _ (mem_at 6 rfl)))) (fa_cons (N₁ _ (mem_drop 9 (mB3 _ (mem_at 7 rfl)))) (fa_cons (N₁ _ (mem_drop 9 (mB3 _ (mem_at 8 rfl)))) (fa_cons (N₁ _ (mem_drop 9 (mB3 _ (mem_at 9 rfl)))) (fa_cons (N₁ _ (mem_at 6 rfl)) (fa_cons (N₁ _ (mem_drop 9 (mB3 _ (mem_at 4 rfl)))) (fa_cons (N₁ _ (mem_at 3 rfl)) (fa_cons (N₁ _ (mem_drop 9 (mB3 _ (mem_at 3 rfl)))) (fa_cons (N₁ _ (mem_at 5 rfl)) (fa_cons (N₁ _ (mem_at 4 rfl)) (fun p hp => (by rw [htz] at hp; rcases List.mem_append.mp hp with hp | hp; exact N₁ _ (mem_drop 9 (List.mem_append_left _ hp)); exact N₁ _ (mem_drop 9 (mB3 _ (mem_drop 10 (hp)))))))))))))))))))))))))
      clear N₁
      ((with_reducible rename Fr _ _ _ _ => F9); (with_reducible rename News _ _ _ _ => N9))
      have w1 : @Ne Nat D2 (L' + 1 + 1 + 1 + 1 + 1 + 1 + 1) := fun q => off2 (L' + 1 + 1 + 1 + 1 + 1 + 1 + 1, o7) (mem_drop 8 (mB3 _ (mem_at 9 rfl))) (List.mem_singleton.mpr q.symm)
      have w2 : @Ne Nat D (L' + 1 + 1 + 1 + 1 + 1 + 1 + 1) := fun q => off (L' + 1 + 1 + 1 + 1 + 1 + 1 + 1, o7) (mem_drop 8 (mB _ (by rw [hBd]; exact .tail _ (mem_at 5 rfl)))) (List.mem_singleton.mpr q.symm)
      have w3 : @Ne Nat al (L' + 1 + 1 + 1 + 1 + 1 + 1 + 1) := (Nat.ne_of_lt (la9.2.2.2.2.2.2.2.2.2.1)).symm
      have w4 : @Ne Nat dl (L' + 1 + 1 + 1 + 1 + 1 + 1 + 1) := (Nat.ne_of_lt (ll9.2.2.2.2.2.2.2.2.1)).symm
      have w5 : OwnOff tz [L' + 1 + 1 + 1 + 1 + 1 + 1 + 1] := fun p hp b hb => by
        rw [List.mem_singleton.mp hb]
        have z7 := (N9 (L' + 1 + 1 + 1 + 1 + 1 + 1 + 1, o7) (mem_at 12 rfl)).1
        have tup : ∀ p, p ∈ tz → (p.2.cls = .type "tuple" ∧ ∃ vs n, p.2.data = .seq vs n) → p.1 ≠ L' + 1 + 1 + 1 + 1 + 1 + 1 + 1 := fun p hp ⟨_, vs, n, hd⟩ q => by
          have z := (N9 p (mem_drop 19 (hp))).1
          rw [q] at z
          rw [show h.get? (L' + 1 + 1 + 1 + 1 + 1 + 1 + 1) = some o7 from z7] at z
          have := Option.some.inj z
          rw [← this] at hd
          rw [d7] at hd
          cases hd
        rw [htz] at hp
        rcases List.mem_append.mp hp with q | q
        · exact tup p (by rw [htz]; exact hp) (htc2 p q)
        rcases List.mem_append.mp q with q | q
        · exact tup p (by rw [htz]; exact hp) (htc p q)
        · exact ot p q _ (.tail _ (.head _))
      rw [hvl] at hPI hok
      rw [hvl2] at hPI2 hok2
      have hn4 := near_lt hnk
      have hC1 : ∀ u ∈ withoutT tab, Cert (fun j => nn.getD j []) tab u := fun u hu => hPI.c u (lt_in (mem_wo.mp hu).1).1 (mem_wo.mp hu).2
      have hC2 : ∀ u ∈ withoutT tab2, Cert (fun j => nn.getD j []) tab2 u := fun u hu => hPI2.c u (lt_in (mem_wo.mp hu).1).2 (mem_wo.mp hu).2
      have hm1 : (tab.length : Int) = 4 - mst := by have := most_eq hPI.m hC1; rw [← hmst] at this; k_extra "clr"; omega
      have hm2 : (tab2.length : Int) = 4 - mst := by have := most_eq hPI2.m hC2; rw [← hmst] at this; k_extra "clr"; omega
      (repeat' (first | (k_unfold; (try dsimp only)) | (k_extra "mycall") | (k_extra "mystep") | (k_extra "no for"; (fail_if_success (with_reducible show wpAny _ _ (exec (Stmt.If _ _ _ _) _) _ _ _)); k_extra "head")))
      refine wpAny_toks ?_
      repeat' (first | (k_unfold; (try dsimp only)) | (k_extra "mycall") | (k_extra "mystep") | (k_extra "no for"; (fail_if_success (with_reducible show wpAny _ _ (call (Value.ref _) _ _) _ _ _)); k_extra "head"))
      ((with_reducible rename Fr _ _ _ _ => F9); (with_reducible rename News _ _ _ _ => N9))
      refine' c_countB (ol := LCg.lst (oks.map Value.bool)) (bs := oks) X' T' rfl ?e9 ?r9 (N9 _ (.tail _ (.head _))).1 rfl rfl (by k_extra "clr"; omega) ?_
      (case e9 => exact F9.keep)
      (case r9 => k_extra "room")
      intro t7 h7 tk7 e7
      have N7 := Mine.News.ext N9 e7
      have F7 := Mine.Fr.ext F9 e7
      clear F9 N9 e7
      rw [count_id, hPI.o, hm1]
      repeat' (first | (k_unfold; (try dsimp only)) | (k_extra "mycall") | (k_extra "mystep") | (k_extra "no for"; (fail_if_success (with_reducible show wpAny _ _ (call (Value.ref _) _ _) _ _ _)); k_extra "head"))
      ((with_reducible rename Fr _ _ _ _ => F9); (with_reducible rename News _ _ _ _ => N9))
      refine' c_countB (ol := LCg.lst (oks2.map Value.bool)) (bs := oks2) X' T' rfl ?e9 ?r9 (N9 _ (.head _)).1 rfl rfl (by k_extra "clr"; omega) ?_
      (case e9 => exact F9.keep)
      (case r9 => k_extra "room")
      intro t8 h8 tk8 e8
      have N8 := Mine.News.ext N9 e8
      have F8 := Mine.Fr.ext F9 e8
      clear F9 N9 e8
      rw [count_id, hPI2.o, hm2]
      repeat' (first | (k_unfold; (try dsimp only)) | (k_extra "mycall") | (k_extra "mystep") | (k_extra "no for"; (fail_if_success (with_reducible show wpAny _ _ (call (Value.ref _) _ _) _ _ _)); (fail_if_success (with_reducible show wpAny _ _ (compareOp _ (Value.ref _) (Value.ref _)) _ _ _)); k_extra "head"))
      ((with_reducible rename Fr _ _ _ _ => F9); (with_reducible rename News _ _ _ _ => N9))
      refine ne_ints (vs := [_, _]) (ws := [_, _]) (ns := [4 - mst, 4 - mst]) (N9 _ (.tail _ (.head _))).1 rfl rfl (N9 _ (.head _)).1 rfl rfl (.cons _ _ (.cons _ _ .nil)) (.cons _ _ (.cons _ _ .nil)) ?u9 ?_
      (case u9 => show un + 3 + 10 < cLine; exact room3 hun (by decide))
      repeat' (first | (k_unfold; (try dsimp only)) | (k_extra "mycall") | (k_extra "mystep") | (k_extra "no for"; (fail_if_success (with_reducible show wpAny _ _ (call (Value.ref _) _ _) _ _ _)); k_extra "head"))
      ((with_reducible rename Fr _ _ _ _ => F9); (with_reducible rename News _ _ _ _ => N9))
      intro htkI
      dsimp only at htkI
      try dsimp only
      refine wpAny_execs_cons (wpAny_toks ?_)
      repeat' (first | (k_unfold; (try dsimp only)) | (k_extra "mycall") | (k_extra "mystep") | (k_extra "no for"; (fail_if_success (with_reducible show wpAny _ _ (call (Value.ref _) _ _) _ _ _)); k_extra "head"))
      ((with_reducible rename Fr _ _ _ _ => F9); (with_reducible rename News _ _ _ _ => N9))
      have htab1 : ∀ p ∈ tab, p.1 < 4 ∧ p.2 < 4 := fun p hp => ⟨(hPI.m.e p hp).1, (hPI.m.e p hp).2.1⟩
      have htab2 : ∀ p ∈ tab2, p.1 < 4 ∧ p.2 < 4 := fun p hp => ⟨(hPI2.m.e p hp).1, (hPI2.m.e p hp).2.1⟩
      have htl1 := hPI.len
      have htl2 := hPI2.len
      refine' c_without X' T' rfl ?e9 ?r9 ?tb9 ?n91 ?n92 htab1 ?z9 ?_
      (case tb9 => exact Tab.in4 (tb := x1) (d := i1) (hl := y1) (hk := hk1) (kt := kt1) (dn := dn1) N9 ((fa_cons (mem_at 10 rfl) (fa_cons (mem_at 11 rfl) (fa_one (mem_at 6 rfl))))) rfl (hEx _ F9.keep fun p hp => N9 p (mem_drop 21 (htz ▸ List.mem_append_right _ (List.mem_append_left _ hp)))).1 (ents_hel htab1))
      (case e9 => exact F9.keep)
      (case r9 => k_extra "room")
      (case n91 => k_extra "clr"; dsimp only; omega)
      (case n92 => k_extra "clr"; dsimp only; omega)
      (case z9 => k_extra "clr"; omega)
      intro Dw vw hw tkw ew hnw hdw hvw
      have Nw := news_add F9 N9 ew hnw hdw
      have Fw := Mine.Fr.ext F9 ew
      have wD : @Ne Nat Dw (L' + 1 + 1 + 1 + 1 + 1 + 1 + 1) := fun q => by
        have z := (N9 (L' + 1 + 1 + 1 + 1 + 1 + 1 + 1, o7) (mem_at 14 rfl)).1
        rw [← (show Dw = L' + 1 + 1 + 1 + 1 + 1 + 1 + 1 from q), hnw] at z; cases z
      clear F9 N9 ew
      repeat' (first | (k_unfold; (try dsimp only)) | (k_extra "mycall") | (k_extra "mystep") | (k_extra "no for"; (fail_if_success (with_reducible show wpAny _ _ (call (Value.ref _) _ _) _ _ _)); k_extra "head"))
      ((with_reducible rename Fr _ _ _ _ => F9); (with_reducible rename News _ _ _ _ => N9))
      rename_i hA9 p7 q7
      have N16 : News g' L' hA9 ((Dw, LCg.lst vw) :: (D2, LCg.lst (oks2.map Value.bool)) :: (D, LCg.lst (oks.map Value.bool)) :: (y2, listOf (refs ts2).toArray n2) :: (al, listOf (refs lt2).toArray m2) :: (y1, listOf (refs ts1).toArray n1) :: (dl, listOf (refs lt1).toArray m1) :: (x2, instObj 242 i2) :: (i2, hdict hk2 kt2 y2 dn2) :: (x1, instObj 242 i1) :: (i1, hdict hk1 kt1 y1 dn1) :: (ca, LCg.lst cvs) :: (rl, listOf (List.toArray rws) rn) :: (L' + 1 + 1 + 1 + 1 + 1 + 1 + 1, p7) :: (L' + 1 + 1 + 1 + 1 + 1 + 1, p6) :: (L' + 1 + 1 + 1 + 1 + 1, p5) :: (L' + 1 + 1 + 1 + 1, p4) :: (L' + 1 + 1 + 1, p3) :: (L' + 1 + 1, o2b) :: (L' + 1, o1b) :: tz) := (fa_cons (N9 _ (.head _)) (fun p hp => N9 _ (mem_drop 3 hp)))
      clear N9
      ((with_reducible rename Fr _ _ _ _ => F9); (with_reducible rename News _ _ _ _ => N9))
      intro htkW
      dsimp only at htkW
      try dsimp only
      refine wpAny_execs_cons (wpAny_toks ?_)
      refine compA F9 (by with_unfolding_all rfl) (by with_unfolding_all rfl) (by decide) (by rfl) (by decide) (by rfl) (by rfl) ?_
      repeat' (first | (k_unfold; (try dsimp only)) | (k_extra "mycall") | (k_extra "mystep") | (k_extra "no for"; (fail_if_success (with_reducible show wpAny _ _ (call (Value.ref _) _ _) _ _ _)); k_extra "head"))
      ((with_reducible rename Fr _ _ _ _ => F9); (with_reducible rename News _ _ _ _ => N9))
      rename_i fl3 hF9 lf3
      refine absG fun G9 hG9 => ?_
      obtain ⟨oz3, vz3, hoz3, hvz3, N17⟩ : Ex2 fun (oz : Obj) (vz : List Value) => Cj3 (oz = listOf vz.toArray 0) (NumsAre vz [0, 1, 2, 3]) (News g' L' hF9 ((fl3, oz) :: (Dw, LCg.lst vw) :: (D2, LCg.lst (oks2.map Value.bool)) :: (D, LCg.lst (oks.map Value.bool)) :: (y2, listOf (refs ts2).toArray n2) :: (al, listOf (refs lt2).toArray m2) :: (y1, listOf (refs ts1).toArray n1) :: (dl, listOf (refs lt1).toArray m1) :: (x2, instObj 242 i2) :: (i2, hdict hk2 kt2 y2 dn2) :: (x1, instObj 242 i1) :: (i1, hdict hk1 kt1 y1 dn1) :: (ca, LCg.lst cvs) :: (rl, listOf (List.toArray rws) rn) :: (L' + 1 + 1 + 1 + 1 + 1 + 1 + 1, p7) :: (L' + 1 + 1 + 1 + 1 + 1 + 1, p6) :: (L' + 1 + 1 + 1 + 1 + 1, p5) :: (L' + 1 + 1 + 1 + 1, p4) :: (L' + 1 + 1 + 1, p3) :: (L' + 1 + 1, o2b) :: (L' + 1, o1b) :: tz)):= ⟨_, [_, _, _, _], rfl, .cons _ _ (.cons _ _ (.cons _ _ (.cons _ _ .nil))), N9⟩
      clear N9
      refine hG9 ?_; clear hG9
      ((with_reducible rename Fr _ _ _ _ => F9); (with_reducible rename News _ _ _ _ => N9))
      have hkey1 : ∀ p ∈ tab, ∀ q ∈ tab, p.1 = q.1 → p.2 = q.2 := fun p hp q hq e => by
        have a := hPI.m.look hp
        have b := hPI.m.look hq
        rw [e, b] at a
        exact (Option.some.inj a).symm
      have hwl := wo_len' tab
      have hvl3 : vz3.length = 4 := by have := IntsAre.length hvz3; simpa [nums] using this
      refine .inl ⟨fl3, vz3, _, oz3, 0, fun v m => m (Str.ofString "guest") = some v, fun i tk ys nw => nw = (fl3, oz3) :: (Dw, LCg.lst vw) :: (D2, LCg.lst (oks2.map Value.bool)) :: (D, LCg.lst (oks.map Value.bool)) :: (y2, listOf (refs ts2).toArray n2) :: (al, listOf (refs lt2).toArray m2) :: (y1, listOf (refs ts1).toArray n1) :: (dl, listOf (refs lt1).toArray m1) :: (x2, instObj 242 i2) :: (i2, hdict hk2 kt2 y2 dn2) :: (x1, instObj 242 i1) :: (i1, hdict hk1 kt1 y1 dn1) :: (ca, LCg.lst cvs) :: (rl, listOf (List.toArray rws) rn) :: (L' + 1 + 1 + 1 + 1 + 1 + 1 + 1, p7) :: (L' + 1 + 1 + 1 + 1 + 1 + 1, p6) :: (L' + 1 + 1 + 1 + 1 + 1, p5) :: (L' + 1 + 1 + 1 + 1, p4) :: (L' + 1 + 1 + 1, p3) :: (L' + 1 + 1, o2b) :: (L' + 1, o1b) :: tz ∧ IntsAre ys (([0, 1, 2, 3].take i).map fun g => ((((withoutT tab).foldl (goG (fun j => nn.getD j []) g) (tab.filter fun p => p.2 != g)).length : Nat) : Int)), rfl, rfl, F9, N9, by rw [hoz3], by rw [hoz3], .inr ⟨.head _, ?_⟩, ?_, ?_, ?_, ?_, ?_⟩
      · rintro i tk ys nw ⟨rfl, _⟩
        exact .head _
      · rw [hvl3]; decide
      · rintro i tk ys nw ⟨_, S⟩
        have := IntsAre.length S
        rw [this, List.length_map, List.length_take]
        exact Nat.min_le_left _ _
      · exact fun tk h => ⟨rfl, .nil⟩
      · rintro s₂ ⟨hs2, rfl⟩
        constructor
        · intro i v hv
          exact asgName rfl rfl _
        · rintro i v tk₀ tk ys nw I oI D4 C oC m₂ h E' hi hv ⟨rfl, S⟩ htk hNs hKV F₁ N₁ off3 ne
          clear F9 N9
          refine absG fun G9 hG9 => ?_
          obtain ⟨u, tu, rfl, hu⟩ := hvz3.item hv
          have hu4 : u < 4 := by
            have := List.mem_of_getElem? hu
            simp at this
            omega
          refine hG9 ?_; clear hG9
          refine TestM.nil ?_
          refine absQ fun Q7 K7 => ?_
          try dsimp only
          repeat' (first | (k_unfold; (try dsimp only)) | (k_extra "mycall") | (k_extra "mystep") | (k_extra "no for"; (fail_if_success (with_reducible show wpAny _ _ (call (Value.ref _) _ _) _ _ _)); k_extra "head"))
          ((with_reducible rename Fr _ _ _ _ => F9); (with_reducible rename News _ _ _ _ => N9))
          refine' c_goes (N₀ := N) (ts := ts1) (ol := listOf (refs ts1).toArray n1) (nl := n1) (hl := y1) (d := i1) (owl := LCg.lst vw) X' T' rfl ?e9 ?r9 ?tb9 ?rr9 ?nn9 hnn hnk htab1 hkey1 htl1 ?how9 rfl rfl hvw (fun g hg => (mem_wo.mp hg).1) hwl u _ hu4 ?_
          (case tb9 => exact Tab.in4 (tb := x1) (d := i1) (hl := y1) (hk := hk1) (kt := kt1) (dn := dn1) N9 ((fa_cons (mem_at 13 rfl) (fa_cons (mem_at 14 rfl) (fa_one (mem_at 9 rfl))))) rfl (hEx _ F9.keep fun p hp => N9 p (mem_drop 24 (htz ▸ List.mem_append_right _ (List.mem_append_left _ hp)))).1 (ents_hel htab1))
          (case e9 => exact F9.keep)
          (case r9 => k_extra "room")
          (case rr9 => exact RRf0 _ (N9 (rl, listOf (List.toArray rws) rn) (mem_at 16 rfl)).1)
          (case nn9 => exact NNf _ fun p hp => N9 p (mem_drop 24 (htz ▸ List.mem_append_right _ (List.mem_append_right _ hp))))
          (case how9 => exact (N9 (Dw, LCg.lst vw) (mem_at 4 rfl)).1)
          intro t9 h9 tk9 e9
          have F8 := Mine.Fr.ext F9 e9
          have N8 := Mine.News.ext N9 e9
          clear F9 N9 e9
          repeat' (first | (k_unfold; (try dsimp only)) | (k_extra "mycall") | (k_extra "mystep") | (k_extra "no for"; k_extra "head"))
          ((with_reducible rename Fr _ _ _ _ => F9); (with_reducible rename News _ _ _ _ => N9))
          refine K7 _ _ ?_
          refine ⟨_, _, _, rfl, F9, N9, off3, rfl, ?_⟩
          rw [List.take_add_one, hu, List.map_append]
          exact IntsAre.append S (.cons _ _ .nil)
      · rintro D5 tk₀ tk ys nw h ⟨rfl, hleft⟩ htk F₁ N₁ off3
        clear F9 N9
        rw [hvl3] at hleft
        intro htkL
        dsimp only at htkL
        try dsimp only
        refine absG fun G9 hG9 => ?_
        obtain ⟨R1, cR1, dR1⟩ := cert_all hC1
        obtain ⟨R2, cR2, dR2⟩ := cert_all hC2
        have hll1 := hPI.n
        have hll2 := hPI2.n
        refine hG9 ?_; clear hG9
        simp only [List.take_succ_cons, List.take_zero, List.length_cons, List.length_nil] at hll1 hll2
        have hwl1 := wo_len hPI.m
        have hwl2 := wo_len hPI2.m
        repeat' (first | (k_unfold; (try dsimp only)) | (k_extra "mycall") | (k_extra "mystep") | (k_extra "no for"; (fail_if_success (with_reducible show wpAny _ _ (call (Value.ref _) _ _) _ _ _)); k_extra "head"))
        ((with_reducible rename Fr _ _ _ _ => F9); (with_reducible rename News _ _ _ _ => N9))
        refine wpAny_toks ?_
        refine' c_holds (N₀ := N) (ol := listOf (refs ts1).toArray n1) (nl := n1) (d := i1) (hl := y1) (ts := ts1) (lts := lt1) (nd := m1) (tab := tab) (laid := laid) (nn := nn) (cvs := cvs) (cs := commonT fun j => nn.getD j []) X' T' rfl ?e9 ?r9 ?u9 ?tb9 ?n91 ?n92 ?rr9 ?nn9 hnn hnk htab1 hPI.a ?ld9 ?el9 ?ll9 hPI.l ?cm9 hcs mst _ hm1 ?m29 (RG (fun j => nn.getD j []) tab R1) (fun g hg _ k hk => RG_step cR1 dR1 hg k hk) (fun g hg => ⟨(mem_wo.mp hg).1, .inl hg⟩) (fun ns hp hs => walk_eq hPI.m hn4 hC1 hp hs) ?_
        (case tb9 => exact Tab.in4 (tb := x1) (d := i1) (hl := y1) (hk := hk1) (kt := kt1) (dn := dn1) N9 ((fa_cons (mem_at 11 rfl) (fa_cons (mem_at 12 rfl) (fa_one (mem_at 7 rfl))))) rfl (hEx _ F9.keep fun p hp => N9 p (mem_drop 22 (htz ▸ List.mem_append_right _ (List.mem_append_left _ hp)))).1 (ents_hel htab1))
        (case e9 => exact F9.keep)
        (case r9 => k_extra "room")
        (case u9 => show un + 3 + 200 < cLine; exact room3 hun (by decide))
        (case n91 => k_extra "clr"; dsimp only; omega)
        (case n92 => k_extra "clr"; dsimp only; omega)
        (case ll9 => k_extra "clr"; omega)
        (case m29 => k_extra "clr"; omega)
        (case rr9 => exact RRf0 _ (N9 (rl, listOf (List.toArray rws) rn) (mem_at 14 rfl)).1)
        (case nn9 => exact NNf _ fun p hp => N9 p (mem_drop 22 (htz ▸ List.mem_append_right _ (List.mem_append_right _ hp))))
        (case ld9 => exact (N9 (dl, listOf (refs lt1).toArray m1) (mem_at 8 rfl)).1)
        (case el9 => exact (hEx _ F9.keep fun p hp => N9 p (mem_drop 22 (htz ▸ List.mem_append_right _ (List.mem_append_left _ hp)))).2)
        (case cm9 => exact (N9 (ca, LCg.lst cvs) (mem_at 13 rfl)).1)
        intro hx1 tkx1 ex1 htx1
        dsimp only at htx1
        have Nx1 := Mine.News.ext N9 ex1
        have Fx1 := Mine.Fr.ext F9 ex1
        clear F9 N9 ex1
        repeat' (first | (k_unfold; (try dsimp only)) | (k_extra "mycall") | (k_extra "mystep") | (k_extra "no for"; (fail_if_success (with_reducible show wpAny _ _ (call (Value.ref _) _ _) _ _ _)); k_extra "head"))
        ((with_reducible rename Fr _ _ _ _ => F9); (with_reducible rename News _ _ _ _ => N9))
        refine' c_holds (N₀ := Nb) (ol := listOf (refs ts2).toArray n2) (nl := n2) (d := i2) (hl := y2) (ts := ts2) (lts := lt2) (nd := m2) (tab := tab2) (laid := laid2) (nn := nn) (cvs := cvs) (cs := commonT fun j => nn.getD j []) X' T' rfl ?e9 ?r9 ?u9 ?tb9 ?n91 ?n92 ?rr9 ?nn9 hnn hnk htab2 hPI2.a ?ld9 ?el9 ?ll9 hPI2.l ?cm9 hcs mst _ hm2 ?m29 (RG (fun j => nn.getD j []) tab2 R2) (fun g hg _ k hk => RG_step cR2 dR2 hg k hk) (fun g hg => ⟨(mem_wo.mp hg).1, .inl hg⟩) (fun ns hp hs => walk_eq hPI2.m hn4 hC2 hp hs) ?_
        (case tb9 => exact Tab.in4 (tb := x2) (d := i2) (hl := y2) (hk := hk2) (kt := kt2) (dn := dn2) N9 ((fa_cons (mem_at 9 rfl) (fa_cons (mem_at 10 rfl) (fa_one (mem_at 5 rfl))))) rfl (hEx2 _ F9.keep fun p hp => N9 p (mem_drop 22 (htz ▸ List.mem_append_left _ hp))).1 (ents_hel htab2))
        (case e9 => exact F9.keep)
        (case r9 => k_extra "room")
        (case u9 => show un + 3 + 200 < cLine; exact room3 hun (by decide))
        (case n91 => k_extra "clr"; dsimp only; omega)
        (case n92 => k_extra "clr"; dsimp only; omega)
        (case ll9 => k_extra "clr"; omega)
        (case m29 => k_extra "clr"; omega)
        (case rr9 => exact RRf0 _ (N9 (rl, listOf (List.toArray rws) rn) (mem_at 14 rfl)).1)
        (case nn9 => exact NNf _ fun p hp => N9 p (mem_drop 22 (htz ▸ List.mem_append_right _ (List.mem_append_right _ hp))))
        (case ld9 => exact (N9 (al, listOf (refs lt2).toArray m2) (mem_at 6 rfl)).1)
        (case el9 => exact (hEx2 _ F9.keep fun p hp => N9 p (mem_drop 22 (htz ▸ List.mem_append_left _ hp))).2)
        (case cm9 => exact (N9 (ca, LCg.lst cvs) (mem_at 13 rfl)).1)
        intro hx2 tkx2 ex2
        have Nx2 := Mine.News.ext N9 ex2
        have Fx2 := Mine.Fr.ext F9 ex2
        clear F9 N9 ex2
        repeat' (first | (k_unfold; (try dsimp only)) | (k_extra "mycall") | (k_extra "mystep") | (k_extra "no for"; (fail_if_success (with_reducible show wpAny _ _ (call (Value.ref _) _ _) _ _ _)); k_extra "head"))
        ((with_reducible rename Fr _ _ _ _ => F9); (with_reducible rename News _ _ _ _ => N9))
        rename_i dA hD1 hF1 hN1 lDu hDu
        have hcvl : cvs.length = (commonT fun j => nn.getD j []).length := by have := IntsAre.length hcs; simpa [nums] using this
        refine absG fun G9 hG9 => ?_
        obtain ⟨vz4, Bz, hvz4, N18, hBlt, hBl, hBc⟩ : Ex2 fun (vz : List Value) (Bz : List (Addr × Obj)) => Cj5 (IntsAre vz [3 - mst, 3 - mst, 3 - mst, 3 - mst]) (News g' L' hDu ((dA, listOf vz.toArray 0) :: Bz)) ((∀ p ∈ Bz, @Ne Nat p.1 dA)) ((D5, LCg.lst ys) ∈ Bz) ((ca, LCg.lst cvs) ∈ Bz):= ⟨[_, _, _, _], _, .cons _ _ (.cons _ _ (.cons _ _ (.cons _ _ .nil))), N9, fun p hp => Nat.ne_of_lt (allLt_mem (by exact lDu) p hp), .head _, .tail _ (mem_at 12 rfl)⟩
        clear N9
        refine hG9 ?_; clear hG9
        refine forL ?_
        repeat' (first | (k_unfold; (try dsimp only)) | (k_extra "mycall") | (k_extra "mystep") | (k_extra "no for"; (fail_if_success (with_reducible show wpAny _ _ (call (Value.ref _) _ _) _ _ _)); k_extra "head"))
        ((with_reducible rename Fr _ _ _ _ => F9); (with_reducible rename News _ _ _ _ => N9))
        refine ⟨g', ca, cvs, DueJ dA D5 mst t3 (commonT fun j => nn.getD j []) Bz, _, (dA, listOf vz4.toArray 0) :: Bz, LCg.lst cvs, cvs.length, rfl, rfl, F9, N9, rfl, rfl, .inr ⟨.tail _ hBc, ?_⟩, .mk _ vz4 0 rfl rfl hvz4 rfl rfl rfl, ?_, ?_⟩
        · intro i m news hz3q
          refine absG fun G9 hG9 => ?_
          obtain ⟨od, vsd, nd, _⟩ := hz3q
          refine hG9 ?_; clear hG9
          exact .tail _ hBc
        · intro i v m₁ news₁ h tk I oI hv hz9q hcI F₁ N₁ off2
          refine absG fun G9 hG9 => ?_
          obtain ⟨od, vsd, nd, hoc, hod, hvd, md, ml, mm⟩ := hz9q
          clear F9 N9
          obtain ⟨k, tu, rfl, hu⟩ := hcs.item hv
          have hk4 : k < 4 := by
            have := List.mem_of_getElem? hu
            unfold commonT at this
            exact List.mem_range.mp (List.mem_filter.mp this).1
          have hvdl : vsd.length = 4 := by have := IntsAre.length hvd; simpa [dueL] using this
          refine hG9 ?_; clear hG9
          try dsimp only
          refine absT fun Q9 K9 => ?_
          repeat' (first | (k_unfold; (try dsimp only)) | (k_extra "mycall") | (k_extra "mystep") | (k_extra "no for"; (fail_if_success (with_reducible show wpAny _ _ (call (Value.ref _) _ _) _ _ _)); k_extra "head"))
          ((with_reducible rename Fr _ _ _ _ => F9); (with_reducible rename News _ _ _ _ => N9))
          refine' c_setL (l := dA) (ol := od) (nl := nd) (vs := vsd) X' T' rfl ?e9 ?r9 (N9 (dA, od) (.tail _ (.head _))).1 hoc hod (N9 (dA, od) (.tail _ (.head _))).2.2 k tu ?z91 ?z92 _ _ ?_
          (case e9 => exact F9.keep)
          (case r9 => k_extra "room")
          (case z91 => k_extra "clr"; omega)
          (case z92 => k_extra "clr"; omega)
          intro h9 tk9 o9 n9 e9 ho9 hc9 hd9
          have F8 := Mine.Fr.extx F9 e9 (fun x hx => by rw [List.mem_singleton.mp hx]; exact ⟨(N9 (dA, od) (.tail _ (.head _))).2.2, (N9 (dA, od) (.tail _ (.head _))).2.1⟩)
          have N8 : News g' L' h9 ((I, oI) :: (dA, o9) :: Bz) := fun p hp => by
            rcases List.mem_cons.mp hp with rfl | hp
            · have z := N9 (I, oI) (.head _)
              exact ⟨e9 _ _ z.1 (by rw [List.mem_singleton]; exact Ne.symm (off2 (dA, od) (.head _))), z.2⟩
            rcases List.mem_cons.mp hp with rfl | hp
            · exact ⟨ho9, (N9 (dA, od) (.tail _ (.head _))).2⟩
            · have z := N9 p (.tail _ (.tail _ hp))
              exact ⟨e9 _ _ z.1 (by rw [List.mem_singleton]; exact hBlt p hp), z.2⟩
          clear F9 N9 e9
          repeat' (first | (k_unfold; (try dsimp only)) | (k_extra "mycall") | (k_extra "mystep") | (k_extra "no for"; k_extra "head"))
          ((with_reducible rename Fr _ _ _ _ => F9); (with_reducible rename News _ _ _ _ => N9))
          refine K9 _ _ (TurnEndM.mk F9 N9 ?_ (.mk o9 _ n9 hc9 hd9 ?_ md ml mm))
          · intro p hp
            rcases List.mem_cons.mp hp with rfl | hp
            · exact off2 (dA, od) (.head _)
            · exact off2 p (.tail _ hp)
          · rw [List.take_add_one, hu]
            exact dueL_step hk4 hvd
        · intro m₁ news₁ h tk hz4q F₁ N₁
          refine absG fun G9 hG9 => ?_
          obtain ⟨od, vsd, nd, hoc, hod, hvd, md, ml, mm⟩ := hz4q
          clear F9 N9
          refine hG9 ?_; clear hG9
          rw [hcvl, List.take_of_length_le (Nat.le_refl _)] at hvd
          rw [dueL_common hn4 hPI.m hC1 hmst] at hleft
          try dsimp only
          repeat' (first | (k_unfold; (try dsimp only)) | (k_extra "mycall") | (k_extra "mystep") | (k_extra "no for"; (fail_if_success (with_reducible show wpAny _ _ (call (Value.ref _) _ _) _ _ _)); (fail_if_success (with_reducible show wpAny _ _ (compareOp _ (Value.ref _) (Value.ref _)) _ _ _)); k_extra "head"))
          ((with_reducible rename Fr _ _ _ _ => F9); (with_reducible rename News _ _ _ _ => N9))
          refine eq_ints (N9 (D5, LCg.lst ys) (.tail _ hBl)).1 rfl rfl (N9 (dA, od) (.head _)).1 hoc hod hleft hvd ?u9 ?_
          (case u9 => show un + 3 + 10 < cLine; exact room3 hun (by decide))
          repeat' (first | (k_unfold; (try dsimp only)) | (k_extra "mycall") | (k_extra "mystep") | (k_extra "no for"; (fail_if_success (with_reducible show wpAny _ _ (call (Value.ref _) _ _) _ _ _)); k_extra "head"))
          ((with_reducible rename Fr _ _ _ _ => F9); (with_reducible rename News _ _ _ _ => N9))
          ((repeat' (first | k_unfold | dsimp only)))
          exact ret _ _ (ext_of G' F9)

end Mine
theorem PySem.Challenge.cw_ti0061_01_holds : PySem.Challenge.rw_ti0061_01.Holds := by
  w_on
  refine holds_law Mine.law_said fun said => ?_
  refine holds_open (q := Mine.hd.view_1) (loose := [Str.ofString "length_hint", Str.ofString "_name_disallowed_re", Str.ofString "_value_disallowed_re"])
    (Xt := fun s => xlAt Mine.hd.view_1 [] s && recOk PySem.Challenge.rw_ti0061_01.row.records s) (XP := XL Mine.hd.view_1 [])
    (Yf := (kHook Mine.hd.heap_1 _ Mine.objs_are).obs) (Ya := (kHook Mine.hd.heap_1 _ Mine.objs_are).val) (YP := (kHook Mine.hd.heap_1 _ Mine.objs_are).says) (N := 3354)
    Mine.hdL (Hook.of _) (Hook.keeps _) (fun s e => xl_of s (Bool.and_eq_true_iff.mp e).1) XL.keeps (by rfl) (by rfl) (by rfl) (fun s e => recFacts_of (Bool.and_eq_true_iff.mp e).2) (by rfl) (by first | assumption | decide +kernel) (by decide +kernel) ⟨rfl, rfl, rfl, rfl, rfl, by decide +kernel⟩ ?hw ?hc
  case hw => w_witness2
  case hc =>
    intro w s₀ s₁ mg mb G Y fa o pm cd doc dV kV ho hd hcd hD hmg hg args vals as hpre hlay hrd hwl hlo
    have KX := kIn_of Y
    refine Ground.open G ?_
    intro T B D TE TW
    have hf := mg_of KX T.g (n := Str.ofString "law") (v := .ref 311) (by kernel_rfl)
    obtain rfl : fa = 311 := Value.ref.inj (Option.some.inj (hmg.symm.trans hf))
    clear hmg
    wrow_args hpre hlay hrd hwl hlo
    rename_i hle _
    exact Mine.c_law KX T rfl (fun b o e => e) (by decide) (by decide) (by assumption) (by assumption) (by omega) fun h' tk' e => ⟨.inl ⟨_, _, _, rfl, raisesW_false (by wrow_none_raised), ReadsW.bool _, by wrow_post, unshared_nil⟩, .of_keep fun b o q => e b o q (by simp), rfl, .of_eq hg⟩

