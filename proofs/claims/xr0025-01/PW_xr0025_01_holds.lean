import PyProof.Rows.All
import PyProof.ListNew
import KE.KSortTup
import KE.KSuper
import Wide.FinOn
import OpenK.AllK
import Wide.All
import Lean
import PySem.Challenge.RW_xr0025_01
set_option Elab.async false
set_option maxRecDepth 100000
set_option maxHeartbeats 8000000
set_option linter.unusedVariables false
set_option linter.unusedSectionVars false
section
open PySem PySem.W PyProof.Rows
namespace Mine
noncomputable def fE (p : Program) (w : World) (N : Nat) : Option Shared :=
  ((Fast.tw10274390034422433532 Fast.tw14364793385576792824 (opening p) w N (Fast.tw1435165496053646825 (opening p)).1 (Fast.tw1435165496053646825 (opening p)).2).bind (Fast.tw14289696077712309145 p)).bind fun s₀ =>
    match s₀.heap.isNs mainGlobals && s₀.gens.size == 0 with
    | true => (Fast.tw14082659384304107361 Fast.tw14364793385576792824 p w s₀.heap.objs.size (Fast.tw8920871248978507458 s₀.heap mainGlobals "__annotations__") N s₀ (topStub p)).bind fun s₁ => match staticsOk (importedModules p.main.body) s₀.heap s₁.heap && namesBound p s₁.heap && gensDone s₁ && laidKept s₀.heap s₁.heap with
        | true => some s₁
        | false => none
    | false => none
theorem fE_eq {p : Program} {w : World} {N : Nat} : openEnds treeTable p w N = fE p w N := by
  unfold openEnds fencedOpening fE
  rw [← Fast.te10274390034422433532, ← Fast.te14364793385576792824, ← Fast.te1435165496053646825, ← Fast.te14289696077712309145, ← Fast.te14082659384304107361, ← Fast.te8920871248978507458]
  rfl
theorem left_of {p q : Program} {loose : List Str} {Xt : Shared → Bool} {α : Type} {Yf : Shared → α} {Ya : World → α} {N : Nat} {g0 : Bool} (h : ∀ w, (fE p w N).map (fun s => Fast.tw4187177175401517315 q loose (importedModules p.main.body) Xt g0 s) = some (openGood q loose))
    (h' : ∀ w, (fE p w N).map Yf = some (Ya w)) : LeftO p q loose Xt Yf Ya N g0 := fun w => by
  have a := h w
  have b := h' w
  rw [← fE_eq, ← Fast.te4187177175401517315] at a
  rw [← fE_eq] at b
  obtain ⟨s, e, x⟩ := Option.map_eq_some_iff.mp a
  rw [e] at b ⊢
  exact congrArg some (Prod.ext x (Option.some.inj b))
section
local macro_rules | `(tactic| refine $e) => `(tactic| assumption)
theorem hx0 (h : PySem.Challenge.rw_xr0025_01.row.Holds) : PySem.Challenge.rw_xr0025_01.row.Holds := by x_head
end
noncomputable def looseA : List Str := [Str.ofString "insort_right", Str.ofString "bisect_right", Str.ofString "insort_left", Str.ofString "bisect_left", Str.ofString "_Accumulator", Str.ofString "IPV4_RE"]
theorem hl1 : ∀ w, (fE PySem.Challenge.rw_xr0025_01.row.toRowW.prog w 3508).map (fun s => Fast.tw4187177175401517315 hx0.view_1 looseA (importedModules PySem.Challenge.rw_xr0025_01.row.toRowW.prog.main.body) (fun s => xlAt hx0.view_1 [] s && recOk (RowW.records PySem.Challenge.rw_xr0025_01.row.toRowW) s) true s) = some (openGood hx0.view_1 looseA) := fun w => by kernel_rfl
theorem hl2 : ∀ w, (fE PySem.Challenge.rw_xr0025_01.row.toRowW.prog w 3508).map (fun s => ([0, 1, 2, 3, 4, 5, 6, 7, 8, 9, 10, 11, 12, 13, 14, 15, 32, 33, 34, 35, 36, 37, 38, 39, 40, 41, 42, 43, 44, 45, 46, 47, 48, 49, 50, 51, 52, 53, 54, 55, 56, 57, 58, 59, 60, 61, 62, 63, 64, 65, 66, 67, 68, 69, 70, 71, 72, 73, 74, 75, 78, 83, 84, 85, 86, 87, 88, 89, 90, 91, 92, 93, 94, 95, 96, 97, 98, 99, 100, 101, 102, 103, 104, 105, 106, 107, 108, 109, 110, 111, 112, 113, 114, 115, 116, 117, 118, 119, 120, 121, 122, 123, 124, 125, 126, 127, 128, 129, 130, 131, 132, 133, 134, 135, 136, 137, 138, 139, 140, 141, 142, 143, 144, 145, 146, 147, 148, 149, 150, 151, 152, 153, 154, 155, 156, 162, 163, 164, 165, 166, 167, 168, 169, 170, 171, 172, 173, 174, 175, 176, 177, 178, 179, 180, 181, 182, 183, 184, 192, 193, 194, 195, 196, 197, 198, 199, 200, 201, 202, 203, 204, 205, 206, 207, 208, 209, 210, 211, 212, 213, 214, 215, 216, 217, 218, 219, 220, 221, 222, 223, 224, 225, 226, 227, 228, 229, 230, 231, 232, 233, 234, 235, 236, 237, 238, 239, 240, 241, 242, 243, 244, 245, 246, 247, 248, 249, 250, 251, 252, 253, 254, 255, 256, 257, 258, 259, 260, 263, 264, 265, 266, 267, 268, 269, 270, 271, 272, 273, 274, 275, 276, 277, 278, 279, 280, 281, 282, 283, 284, 285, 286, 287, 288, 289, 290, 291, 292, 293, 294, 295, 296, 297, 298, 299, 300, 301, 302, 303, 304, 305, 306, 307, 308, 309, 310, 311, 312, 313, 314, 315, 316, 317, 318, 319, 320, 321, 322, 323, 324, 325, 326, 327, 328] : List Addr).map s.heap.get?) = some ((hx0.heap_1 w.params).map fun p => some p.2) := fun w => by kernel_rfl
local macro_rules | `(tactic| k_head) => `(tactic| x_head)
local macro_rules | `(tactic| o_law) => `(tactic| refine' holds_law (by kernel_rfl) fun said => ?_)
local macro_rules | `(tactic| refine $e) => `(tactic| (refine' $e; (case hl => exact left_of hl1 hl2)))
open_top hx1 for PySem.Challenge.rw_xr0025_01
end Mine
end
section
open PySem PySem.W PySem.Calls PyProof.Rows
open PySem.W.X (tableObj)
set_option tactic.hygienic false
namespace Mine
theorem or5 : ∀ i, i < 5 → i = 0 ∨ i = 1 ∨ i = 2 ∨ i = 3 ∨ i = 4 := by decide
theorem or6 : ∀ i, i < 6 → i = 0 ∨ i = 1 ∨ i = 2 ∨ i = 3 ∨ i = 4 ∨ i = 5 := by decide
theorem or8 : ∀ i, i < 8 → i = 0 ∨ i = 1 ∨ i = 2 ∨ i = 3 ∨ i = 4 ∨ i = 5 ∨ i = 6 ∨ i = 7 := by decide
inductive AV where
  | none | bool (b : Bool) | int (i : Int) | str (s : Str) | tup (l : List AV) | lst (l : List AV) | raw (v : Value) | rng (a b c : Int) | qn (c : Addr) (x : Str)
mutual
inductive VR (h : Heap) (X : List Addr) : Value → AV → Prop
  | none : VR h X .none .none
  | bool (b : Bool) : VR h X (.bool b) (.bool b)
  | int (i : Int) (t : Tok) : VR h X (.int i t) (.int i)
  | str (x : Str) (t : Tok) : VR h X (.str x t) (.str x)
  | raw (v : Value) : VR h X v (.raw v)
  | tup {a : Addr} {vs : List Value} {n : Nat} {l : List AV} : h.get? a = some ⟨.type "tuple", Option.none, .seq vs.toArray n, #[]⟩ → a ∉ X → VRs h X vs l → VR h X (.ref a) (.tup l)
  | lst {a : Addr} {vs : List Value} {n : Nat} {l : List AV} : h.get? a = some ⟨.type "list", Option.none, .seq vs.toArray n, #[]⟩ → a ∉ X → VRs h X vs l → VR h X (.ref a) (.lst l)
  | rng {r : Addr} {a b c : Int} {t u v : Tok} : IsRange h r a b c t u v → r ∉ X → VR h X (.ref r) (.rng a b c)
  | qn {r c d : Addr} {x : Str} {t : Tok} {o : Obj} : h.get? r = some ⟨.ref c, some d, .plain, #[]⟩ → h.get? d = some o → PySem.W.lookIn (Str.ofString "text") o = some (some (.str x t)) → r ∉ X → d ∉ X → VR h X (.ref r) (.qn c x)
inductive VRs (h : Heap) (X : List Addr) : List Value → List AV → Prop
  | nil : VRs h X [] []
  | cons {v : Value} {a : AV} {vs : List Value} {l : List AV} : VR h X v a → VRs h X vs l → VRs h X (v :: vs) (a :: l)
end
structure Stp (T D : List Addr) (h h' : Heap) : Prop where
  keep : ∀ a o, h.get? a = some o → a ∉ D → a ∉ T → h'.get? a = some o
  tabs : ∀ a ∈ T, ∀ vs, h.get? a = some (tableObj vs) → TriplesOk vs.toList → ∃ vs', h'.get? a = some (tableObj vs') ∧ TriplesOk vs'.toList ∧ ∃ more, vs' = vs ++ more
theorem Stp.refl (T D : List Addr) (h : Heap) : Stp T D h h := ⟨fun _ _ e _ _ => e, fun _ _ vs e t => ⟨vs, e, t, #[], by simp⟩⟩
theorem Stp.trans {T D D' : List Addr} {h h' h'' : Heap} (x : Stp T D h h') (y : Stp T D' h' h'') (hD : ∀ a ∈ D', a ∈ D ∨ h.get? a = none) : Stp T D h h'' := by
  refine ⟨fun a o e n t => y.keep a o (x.keep a o e n t) (fun q => ?_) t, fun a ha vs e tr => ?_⟩
  · rcases hD a q with z | z
    · exact n z
    · rw [z] at e; cases e
  · obtain ⟨m1, e1, t1, k1, q1⟩ := x.tabs a ha vs e tr
    obtain ⟨m2, e2, t2, k2, q2⟩ := y.tabs a ha _ e1 t1
    exact ⟨m2, e2, t2, k1 ++ k2, by rw [q2, q1, Array.append_assoc]⟩
theorem Stp.mono {T D D' : List Addr} {h h' : Heap} (x : Stp T D h h') (hD : ∀ a ∈ D, a ∈ D') : Stp T D' h h' := ⟨fun a o e n t => x.keep a o e (fun q => n (hD a q)) t, x.tabs⟩
theorem Stp.of_keeps {T : List Addr} {h h' : Heap} (k : ∀ a o, h.get? a = some o → h'.get? a = some o) : Stp T [] h h' :=
  ⟨fun a o e _ _ => k a o e, fun a _ vs e t => ⟨vs, k a _ e, t, #[], by simp⟩⟩
theorem Stp.push (T : List Addr) (h : Heap) (o : Obj) : Stp T [] h (h.push o) := .of_keeps fun _ _ e => Heap.get?_push_of_some _ e
theorem Stp.extBut {T : List Addr} {a : Addr} {h h' : Heap} (x : Heap.ExtBut a h h') (ha : a ∉ T) : Stp T [a] h h' :=
  ⟨fun b o e n _ => x b o (fun q => n (by simp [q])) e, fun b hb vs e t => ⟨vs, x b _ (fun q => ha (q ▸ hb)) e, t, #[], by simp⟩⟩
theorem Stp.sameBut {T : List Addr} {a : Addr} {h h' : Heap} (x : Heap.SameBut a h h') (ha : a ∉ T) : Stp T [a] h h' := .extBut x.extBut ha
theorem Stp.fresh {T D : List Addr} {h h' : Heap} (x : Stp T D h h') (hD : ∀ a ∈ D, h.get? a = none) : Stp T [] h h' :=
  ⟨fun a o e _ t => x.keep a o e (fun q => by rw [hD a q] at e; cases e) t, x.tabs⟩
noncomputable def Live (h : Heap) (a : Addr) : Prop := ∃ o, h.get? a = some o
theorem Live.lt {h : Heap} {a : Addr} (x : Live h a) : a < h.objs.size := let ⟨_, e⟩ := x; Heap.lt_size e
theorem Live.ne {h : Heap} {a b : Addr} (x : Live h a) (y : h.get? b = none) : a ≠ b := fun e => by obtain ⟨o, q⟩ := x; rw [e, y] at q; cases q
theorem new_none (h : Heap) : h.get? h.objs.size = none := by
  cases e : h.get? h.objs.size with
  | none => rfl
  | some o => exact absurd (Heap.lt_size e) (Nat.lt_irrefl _)
theorem VR.both {X X' : List Addr} {h h' : Heap} (k : ∀ a o, h.get? a = some o → a ∉ X → h'.get? a = some o ∧ a ∉ X') {v : Value} {a : AV} (r : VR h X v a) : VR h' X' v a :=
  @VR.rec h X (fun v a _ => VR h' X' v a) (fun vs l _ => VRs h' X' vs l) .none (fun b => .bool b) (fun i t => .int i t) (fun x t => .str x t) (fun v => .raw v)
    (fun e n _ q => .tup (k _ _ e n).1 (k _ _ e n).2 q) (fun e n _ q => .lst (k _ _ e n).1 (k _ _ e n).2 q) (fun e n => .rng (k _ _ e n).1 (k _ _ e n).2)
    (fun e e' l n n' => .qn (k _ _ e n).1 (k _ _ e' n').1 l (k _ _ e n).2 (k _ _ e' n').2) .nil (fun _ _ p q => .cons p q) v a r
theorem VRs.ind {X : List Addr} {h : Heap} {P : List Value → List AV → Prop} (n : P [] []) (c : ∀ v a vs l, VR h X v a → VRs h X vs l → P vs l → P (v :: vs) (a :: l)) {vs : List Value} {l : List AV} (r : VRs h X vs l) : P vs l :=
  @VRs.rec h X (fun _ _ _ => True) (fun vs l _ => P vs l) trivial (fun _ => trivial) (fun _ _ => trivial) (fun _ _ => trivial) (fun _ => trivial) (fun _ _ _ _ => trivial) (fun _ _ _ _ => trivial) (fun _ _ => trivial) (fun _ _ _ _ _ => trivial)
    n (fun r rs _ q => c _ _ _ _ r rs q) vs l r
theorem VRs.imp {h h' : Heap} {X X' : List Addr} (k : ∀ v av, VR h X v av → VR h' X' v av) {vs : List Value} {l : List AV} (r : VRs h X vs l) : VRs h' X' vs l :=
  r.ind .nil fun v a _ _ p _ q => .cons (k v a p) q
theorem VR.stp {T D X : List Addr} {h h' : Heap} (st : Stp T D h h') (hD : ∀ a ∈ D, a ∈ X) (hT : ∀ a ∈ T, a ∈ X) {v : Value} {a : AV} (r : VR h X v a) : VR h' X v a :=
  r.both fun a o e n => ⟨st.keep a o e (fun z => n (hD _ z)) (fun z => n (hT _ z)), n⟩
theorem VRs.stp {T D X : List Addr} {h h' : Heap} (st : Stp T D h h') (hD : ∀ a ∈ D, a ∈ X) (hT : ∀ a ∈ T, a ∈ X) {vs : List Value} {l : List AV} (r : VRs h X vs l) : VRs h' X vs l :=
  r.imp fun _ _ q => q.stp st hD hT
theorem VR.sub {X X' : List Addr} {h : Heap} (hX : ∀ a o, h.get? a = some o → a ∉ X → a ∉ X') {v : Value} {a : AV} (r : VR h X v a) : VR h X' v a :=
  r.both fun a o e n => ⟨e, hX a o e n⟩
theorem VRs.sub {X X' : List Addr} {h : Heap} (hX : ∀ a o, h.get? a = some o → a ∉ X → a ∉ X') {vs : List Value} {l : List AV} (r : VRs h X vs l) : VRs h X' vs l :=
  r.imp fun _ _ q => q.sub hX
theorem VRs.length {h : Heap} {X : List Addr} {vs : List Value} {l : List AV} (r : VRs h X vs l) : vs.length = l.length :=
  r.ind (P := fun vs l => vs.length = l.length) rfl fun _ _ _ _ _ _ e => congrArg (· + 1) e
theorem VRs.get {h : Heap} {X : List Addr} {vs : List Value} {l : List AV} (r : VRs h X vs l) : ∀ {i : Nat} {a : AV}, l[i]? = some a → ∃ v, vs[i]? = some v ∧ VR h X v a :=
  r.ind (P := fun vs l => ∀ {i : Nat} {a : AV}, l[i]? = some a → ∃ v, vs[i]? = some v ∧ VR h X v a) (fun e => nomatch e) fun v a vs l p _ ih i b e => by
    cases i with
    | zero => exact ⟨v, rfl, Option.some.inj (show some a = some b from e) ▸ p⟩
    | succ i => exact ih (i := i) e
theorem VRs.append {h : Heap} {X : List Addr} {vs : List Value} {l : List AV} {ws : List Value} {m : List AV} (r : VRs h X vs l) (q : VRs h X ws m) : VRs h X (vs ++ ws) (l ++ m) :=
  r.ind (P := fun vs l => VRs h X (vs ++ ws) (l ++ m)) q fun _ _ _ _ p _ ih => .cons p ih
theorem VRs.one {h : Heap} {X : List Addr} {v : Value} {a : AV} (p : VR h X v a) : VRs h X [v] [a] := .cons p .nil
inductive PRs {K : Type} (h : Heap) (X : List Addr) : List (K × Value) → List (K × AV) → Prop
  | nil : PRs h X [] []
  | cons {k : K} {v : Value} {a : AV} {vs : List (K × Value)} {l : List (K × AV)} : VR h X v a → PRs h X vs l → PRs h X ((k, v) :: vs) ((k, a) :: l)
theorem PRs.imp {K : Type} {h h' : Heap} {X X' : List Addr} (k : ∀ v av, VR h X v av → VR h' X' v av) {vs : List (K × Value)} {l : List (K × AV)} (r : PRs h X vs l) : PRs h' X' vs l :=
  @PRs.rec K h X (fun vs l _ => PRs h' X' vs l) .nil (fun p _ q => .cons (k _ _ p) q) vs l r
theorem PRs.stp {K : Type} {T D X : List Addr} {h h' : Heap} (st : Stp T D h h') (hD : ∀ a ∈ D, a ∈ X) (hT : ∀ a ∈ T, a ∈ X) {vs : List (K × Value)} {l : List (K × AV)} (r : PRs h X vs l) : PRs h' X vs l :=
  r.imp fun _ _ q => q.stp st hD hT
theorem PRs.sub {K : Type} {X X' : List Addr} {h : Heap} (hX : ∀ a o, h.get? a = some o → a ∉ X → a ∉ X') {vs : List (K × Value)} {l : List (K × AV)} (r : PRs h X vs l) : PRs h X' vs l :=
  r.imp fun _ _ q => q.sub hX
inductive AO where
  | list (l : List AV)
  | sdict (l : List (Str × AV))
  | idict (l : List (Int × AV))
  | obj (c d : Addr) (kv : Option (Str × AV)) (sq : Option (List (Str × Str)))
noncomputable def AO.more : AO → List Addr
  | .obj _ d _ _ => [d]
  | _ => []
noncomputable def foot (p : Addr × AO) : List Addr := p.1 :: p.2.more
noncomputable def feet (M : List (Addr × AO)) : List Addr := M.flatMap foot
structure Cx where
  prog : Program
  w : World
  K : Frag
  mg : Str → Option Value
  mb : Str → Option Value
  T : List Addr
  accC : Addr
  qnC : Addr
noncomputable def Cx.Old (C : Cx) (a : Addr) : Prop := (∃ o, C.K.lookup a = some o) ∨ a = mainGlobals ∨ a = builtinsNs ∨ a = cStatics
structure Cx.Ok (C : Cx) : Prop where
  old : ∀ a, C.Old a → a ∉ C.T
  mb : ∀ x : Str, x ≠ "__name__" → C.mb x = bootBuiltins x
structure Bs (C : Cx) (h : Heap) : Prop where
  K : C.K.In h
  g : h.Ns mainGlobals C.mg
  b : h.Ns builtinsNs C.mb
  lim : h.NoLimit
  tab : ∀ t ∈ C.T, ∃ vs, h.get? t = some (tableObj vs) ∧ TriplesOk vs.toList
theorem Bs.live {C : Cx} {h : Heap} (B : Bs C h) {a : Addr} (x : C.Old a) : Live h a := by
  rcases x with ⟨o, e⟩ | e | e | e
  · exact ⟨o, B.K a o e⟩
  · obtain ⟨o, _, _, q, _⟩ := B.g; exact e ▸ ⟨o, q⟩
  · obtain ⟨o, _, _, q, _⟩ := B.b; exact e ▸ ⟨o, q⟩
  · obtain ⟨mc, hn, _⟩ := B.lim
    obtain ⟨o, _, _, q, _⟩ := hn; exact e ▸ ⟨o, q⟩
theorem Bs.liveT {C : Cx} {h : Heap} (B : Bs C h) {a : Addr} (x : a ∈ C.T) : Live h a := let ⟨vs, e, _⟩ := B.tab a x; ⟨_, e⟩
theorem Bs.stp {C : Cx} (ok : C.Ok) {D : List Addr} {h h' : Heap} (B : Bs C h) (st : Stp C.T D h h') (hD : ∀ a ∈ D, ¬ C.Old a) : Bs C h' := by
  have k : ∀ a o, C.Old a → h.get? a = some o → h'.get? a = some o := fun a o x e => st.keep a o e (fun q => hD a q x) (ok.old a x)
  refine ⟨fun a o e => k a o (.inl ⟨o, e⟩) (B.K a o e), B.g.at' fun o e => k _ o (.inr (.inl rfl)) e, B.b.at' fun o e => k _ o (.inr (.inr (.inl rfl))) e, ?_, fun t ht => ?_⟩
  · obtain ⟨mc, hn, e⟩ := B.lim
    exact ⟨mc, hn.at' fun o e => k _ o (.inr (.inr (.inr rfl))) e, e⟩
  · obtain ⟨vs, e, tr⟩ := B.tab t ht
    obtain ⟨vs', e', t', _⟩ := st.tabs t ht vs e tr
    exact ⟨vs', e', t'⟩
noncomputable def pieceAV (p : Str × Str) : AV := .tup [.str p.1, .str p.2]
noncomputable def seqOf (sq : Option (List (Str × Str))) (vs : List Value) (k : Nat) : Data := match sq with
  | none => .plain
  | some _ => .seq vs.toArray k
noncomputable def DictHas (h : Heap) (X : List Addr) (d : Addr) (kv : Option (Str × AV)) : Prop := match kv with
  | none => h.get? d = some ⟨.type "dict", none, .dict #[] 0, #[]⟩
  | some (y, a) => ∃ hs tk ep u, h.get? d = some ⟨.type "dict", none, .dict #[⟨hs, .str y tk, u⟩] ep, #[]⟩ ∧ VR h X u a
noncomputable def OR (C : Cx) (h : Heap) (X : List Addr) (a : Addr) : AO → Prop
  | .list l => ∃ vs n, h.get? a = some ⟨.type "list", none, .seq vs.toArray n, #[]⟩ ∧ VRs h X vs l
  | .sdict l => ∃ kvs, h.DictOf (PySem.strKind C.prog C.w) a kvs ∧ PRs h X kvs l
  | .idict l => ∃ kvs, h.DictOf (PySem.intKind C.prog C.w) a kvs ∧ PRs h X kvs l
  | .obj c d kv sq => (∃ vs k, h.get? a = some ⟨.ref c, some d, seqOf sq vs k, #[]⟩ ∧ ∀ l, sq = some l → VRs h X vs (l.map pieceAV)) ∧ DictHas h X d kv
theorem dictOf_at {prog : Program} {w : World} {K : Type} [DecidableEq K] {knd : KeyKind prog w K} {h h' : Heap} {a : Addr} {kvs : List (K × Value)} (x : h.DictOf knd a kvs) (k : ∀ o, h.get? a = some o → h'.get? a = some o) : h'.DictOf knd a kvs :=
  let ⟨o, es, ep, ho, r⟩ := x; ⟨o, es, ep, k o ho, r⟩
theorem OR.stp {C : Cx} {D X : List Addr} {h h' : Heap} {a : Addr} {o : AO} (st : Stp C.T D h h') (hD : ∀ a ∈ D, a ∈ X) (hT : ∀ a ∈ C.T, a ∈ X) (hf : ∀ b ∈ foot (a, o), b ∉ D ∧ b ∉ C.T) (R : OR C h X a o) : OR C h' X a o := by
  have ka : ∀ x, h.get? a = some x → h'.get? a = some x := fun x e => st.keep a x e (hf a (by simp [foot])).1 (hf a (by simp [foot])).2
  cases o with
  | list l => obtain ⟨vs, n, e, r⟩ := R; exact ⟨vs, n, ka _ e, r.stp st hD hT⟩
  | sdict l => obtain ⟨kvs, e, r⟩ := R; exact ⟨kvs, dictOf_at e ka, r.stp st hD hT⟩
  | idict l => obtain ⟨kvs, e, r⟩ := R; exact ⟨kvs, dictOf_at e ka, r.stp st hD hT⟩
  | obj c d kv sq =>
    obtain ⟨⟨vs, k, e, e2⟩, m⟩ := R
    have q := hf d (by simp [foot, AO.more])
    refine ⟨⟨vs, k, ka _ e, fun l el => (e2 l el).stp st hD hT⟩, ?_⟩
    cases kv with
    | none => exact st.keep d _ m q.1 q.2
    | some p => obtain ⟨hs, tk, ep, u, e3, r⟩ := m; exact ⟨hs, tk, ep, u, st.keep d _ e3 q.1 q.2, r.stp st hD hT⟩
theorem OR.sub {C : Cx} {X X' : List Addr} {h : Heap} {a : Addr} {o : AO} (hX : ∀ a o, h.get? a = some o → a ∉ X → a ∉ X') (R : OR C h X a o) : OR C h X' a o := by
  cases o with
  | list l => obtain ⟨vs, n, e, r⟩ := R; exact ⟨vs, n, e, r.sub hX⟩
  | sdict l => obtain ⟨kvs, e, r⟩ := R; exact ⟨kvs, e, r.sub hX⟩
  | idict l => obtain ⟨kvs, e, r⟩ := R; exact ⟨kvs, e, r.sub hX⟩
  | obj c d kv sq =>
    obtain ⟨⟨vs, k, e, e2⟩, m⟩ := R
    refine ⟨⟨vs, k, e, fun l el => (e2 l el).sub hX⟩, ?_⟩
    cases kv with
    | none => exact m
    | some p => obtain ⟨hs, tk, ep, u, e3, r⟩ := m; exact ⟨hs, tk, ep, u, e3, r.sub hX⟩
noncomputable def fa (env : Env) : List Addr := env.locals :: (env.cells.filter fun p => env.kindOf p.1 == some .cell && env.func.isSome).map (·.2)
noncomputable def Own (env : Env) (x : Str) : Prop := env.kindOf x = some .cell ∧ env.func.isSome = true
noncomputable def Lent (env : Env) (x : Str) : Prop := env.kindOf x = some .free ∨ (env.kindOf x = some .cell ∧ env.func.isSome = false)
theorem ownLent {env : Env} {x : Str} (k : env.kindOf x = some .cell ∨ env.kindOf x = some .free) : Own env x ∨ Lent env x := by
  rcases k with k | k
  · cases h : env.func.isSome
    · exact .inr (.inr ⟨k, h⟩)
    · exact .inl ⟨k, h⟩
  · exact .inr (.inl k)
structure FrA (X : List Addr) (env : Env) (h : Heap) (μ : List (Str × AV)) : Prop where
  loc : ∃ m, h.Ns env.locals m ∧ ∀ x av, μ.lookup x = some av → env.kindOf x = some .local → ∃ v, m x = some v ∧ VR h X v av
  cel : ∀ x av, μ.lookup x = some av → (env.kindOf x = some .cell ∨ env.kindOf x = some .free) → ∃ c v, env.cells.lookup x = some c ∧ h.IsCell c (some v) ∧ VR h X v av
  cells : ∀ x c, Own env x → env.cells.lookup x = some c → ∃ ov, h.IsCell c ov
  kind : ∀ x av, μ.lookup x = some av → env.kindOf x = some .local ∨ env.kindOf x = some .cell ∨ env.kindOf x = some .free
structure EnvOk (env : Env) : Prop where
  kind : env.scope.kind = .function
  glob : env.globals = mainGlobals
  buil : env.builtins = builtinsNs
  more : ∀ x, env.kindOf x = some .free → (x == ("__classdict__" : Str)) = false
theorem mem_fa_cell {env : Env} {x : Str} {c : Addr} (k : Own env x) (e : env.cells.lookup x = some c) : c ∈ fa env :=
  List.mem_cons_of_mem _ (List.mem_map.mpr ⟨(x, c), List.mem_filter.mpr ⟨mem_of_lookup e, by simp [k.1, k.2]⟩, rfl⟩)
theorem FrA.stp {T D X : List Addr} {env : Env} {h h' : Heap} {μ : List (Str × AV)} (F : FrA X env h μ) (st : Stp T D h h') (hD : ∀ a ∈ D, a ∈ X) (hT : ∀ a ∈ T, a ∈ X) (hf : ∀ b ∈ fa env, b ∉ D ∧ b ∉ T)
    (hfree : ∀ x c, Lent env x → env.cells.lookup x = some c → c ∉ D ∧ c ∉ T) : FrA X env h' μ := by
  have ka : ∀ b ∈ fa env, ∀ o, h.get? b = some o → h'.get? b = some o := fun b hb o e => st.keep b o e (hf b hb).1 (hf b hb).2
  refine ⟨?_, fun x av e k => ?_, fun x c k e => ?_, F.kind⟩
  · obtain ⟨m, hn, q⟩ := F.loc
    refine ⟨m, hn.at' (ka _ (List.mem_cons_self ..)), fun x av e k => ?_⟩
    obtain ⟨v, e1, r⟩ := q x av e k
    exact ⟨v, e1, r.stp st hD hT⟩
  · obtain ⟨c, v, e1, ⟨o, ho, hd⟩, r⟩ := F.cel x av e k
    refine ⟨c, v, e1, ⟨o, ?_, hd⟩, r.stp st hD hT⟩
    rcases ownLent k with k | k
    · exact ka c (mem_fa_cell k e1) o ho
    · exact st.keep c o ho (hfree x c k e1).1 (hfree x c k e1).2
  · obtain ⟨ov, o, ho, hd⟩ := F.cells x c k e
    exact ⟨ov, o, ka c (mem_fa_cell k e) o ho, hd⟩
theorem FrA.sub {X X' : List Addr} {env : Env} {h : Heap} {μ : List (Str × AV)} (hX : ∀ a o, h.get? a = some o → a ∉ X → a ∉ X') (F : FrA X env h μ) : FrA X' env h μ := by
  refine ⟨?_, fun x av e k => ?_, F.cells, F.kind⟩
  · obtain ⟨m, hn, q⟩ := F.loc
    exact ⟨m, hn, fun x av e k => let ⟨v, e1, r⟩ := q x av e k; ⟨v, e1, r.sub hX⟩⟩
  · obtain ⟨c, v, e1, e2, r⟩ := F.cel x av e k
    exact ⟨c, v, e1, e2, r.sub hX⟩
structure St where
  μ : List (Str × AV)
  M : List (Addr × AO)
noncomputable def Xo (C : Cx) (Y : List Addr) (env : Env) (S : St) : List Addr := C.T ++ (fa env ++ (feet S.M ++ Y))
structure SStp (T D : List Addr) (s s' : Shared) : Prop where
  heap : Stp T D s.heap s'.heap
  os : s'.os = s.os
  dr : s'.drawn = s.drawn
  bare : AllBare s.gens → AllBare s'.gens
theorem SStp.refl (T D : List Addr) (s : Shared) : SStp T D s s := ⟨.refl .., rfl, rfl, id⟩
theorem SStp.trans {T D D' : List Addr} {s s' s'' : Shared} (x : SStp T D s s') (y : SStp T D' s' s'') (hD : ∀ a ∈ D', a ∈ D ∨ s.heap.get? a = none) : SStp T D s s'' :=
  ⟨x.heap.trans y.heap hD, y.os.trans x.os, y.dr.trans x.dr, fun b => y.bare (x.bare b)⟩
theorem SStp.trans0 {T D : List Addr} {s s' s'' : Shared} (x : SStp T D s s') (y : SStp T [] s' s'') : SStp T D s s'' := x.trans y fun _ h => nomatch h
theorem SStp.mono {T D D' : List Addr} {s s' : Shared} (x : SStp T D s s') (hD : ∀ a ∈ D, a ∈ D') : SStp T D' s s' := ⟨x.heap.mono hD, x.os, x.dr, x.bare⟩
structure Rel (C : Cx) (Y : List Addr) (s₀ : Shared) (D : List Addr) (env : Env) (S : St) (s : Shared) : Prop where
  bs : Bs C s.heap
  ev : EnvOk env
  fr : FrA (Xo C Y env S) env s.heap S.μ
  free : ∀ x c, Lent env x → env.cells.lookup x = some c → c ∈ Y ∨ C.Old c
  ob : ∀ p ∈ S.M, OR C s.heap (Xo C Y env S) p.1 p.2
  nd : (fa env ++ feet S.M).Nodup
  dis : ∀ a ∈ Y, a ∉ fa env ++ feet S.M
  hi : ∀ a ∈ fa env ++ (feet S.M ++ Y), ¬ C.Old a ∧ a ∉ C.T ∧ Live s.heap a
  st : SStp C.T D s₀ s
  own : ∀ a ∈ fa env ++ feet S.M, a ∈ D ∨ s₀.heap.get? a = none
section
variable {C : Cx} {Y D : List Addr} {s₀ s s' : Shared} {env : Env} {S : St}
theorem Rel.hT (_ : Rel C Y s₀ D env S s) : ∀ a ∈ C.T, a ∈ Xo C Y env S := fun a h => List.mem_append_left _ h
theorem Rel.tn (R : Rel C Y s₀ D env S s) {a : Addr} (ha : a ∈ fa env ++ (feet S.M ++ Y)) : a ∉ C.T := (R.hi a ha).2.1
theorem Rel.live (R : Rel C Y s₀ D env S s) {a : Addr} (ha : a ∈ Xo C Y env S) : Live s.heap a := by
  rcases List.mem_append.mp ha with h | h
  · exact R.bs.liveT h
  · exact (R.hi a h).2.2
theorem mem_feet {M : List (Addr × AO)} {p : Addr × AO} (hp : p ∈ M) {b : Addr} (hb : b ∈ foot p) : b ∈ feet M := List.mem_flatMap.mpr ⟨p, hp, hb⟩
theorem Rel.freeT (ok : C.Ok) (R : Rel C Y s₀ D env S s) {x : Str} {c : Addr} (k : Lent env x) (e : env.cells.lookup x = some c) : c ∉ C.T := by
  rcases R.free x c k e with h | h
  · exact R.tn (List.mem_append_right _ (List.mem_append_right _ h))
  · exact ok.old c h
theorem Rel.freeN (R : Rel C Y s₀ D env S s) {x : Str} {c : Addr} (k : Lent env x) (e : env.cells.lookup x = some c) : c ∉ fa env ++ feet S.M := by
  rcases R.free x c k e with h | h
  · exact R.dis c h
  · intro q
    exact (R.hi c (by rw [← List.append_assoc]; exact List.mem_append_left _ q)).1 h
theorem Rel.go (ok : C.Ok) (R : Rel C Y s₀ D env S s) (x : SStp C.T [] s s') : Rel C Y s₀ D env S s' := by
  have z : ∀ a ∈ ([] : List Addr), a ∈ Xo C Y env S := fun _ h => nomatch h
  refine ⟨R.bs.stp ok x.heap fun _ h => (nomatch h), R.ev, R.fr.stp x.heap z R.hT (fun b hb => ⟨fun h => (nomatch h), R.tn (List.mem_append_left _ hb)⟩) (fun x c k e => ⟨fun h => (nomatch h), R.freeT ok k e⟩), R.free,
    fun p hp => (R.ob p hp).stp x.heap z R.hT fun b hb => ⟨fun h => (nomatch h), R.tn (List.mem_append_right _ (List.mem_append_left _ (mem_feet hp hb)))⟩, R.nd, R.dis,
    fun a ha => ⟨(R.hi a ha).1, (R.hi a ha).2.1, let ⟨o, e⟩ := (R.hi a ha).2.2; ⟨o, x.heap.keep a o e (fun h => nomatch h) (R.hi a ha).2.1⟩⟩, R.st.trans0 x, R.own⟩
theorem VR.go {T X : List Addr} {v : Value} {a : AV} (x : SStp T [] s s') (hT : ∀ a ∈ T, a ∈ X) (r : VR s.heap X v a) : VR s'.heap X v a := r.stp x.heap (fun _ h => nomatch h) hT
theorem SStp.toks (T : List Addr) (s : Shared) (t : Nat) : SStp T [] s { s with toks := t } := ⟨.refl .., rfl, rfl, id⟩
theorem SStp.alloc (T : List Addr) (s : Shared) (o : Obj) : SStp T [] s { s with heap := s.heap.push o } := ⟨.push .., rfl, rfl, id⟩
end
structure AOk (n : Nat) (A : Around) : Prop where
  handled : A.handled = none
  depth : A.depth + n < 900
  units : A.units + 8 * n < 9000
theorem AOk.in1 {n : Nat} {A : Around} (h : AOk (n + 1) A) : AOk n A.in1 := ⟨h.1, by have := h.2; simp; lia, by have := h.3; simp; lia⟩
theorem AOk.deeper {n : Nat} {A : Around} (env : Env) (h : AOk (n + 1) A) : AOk n (A.deeper env) := ⟨h.1, by have := h.2; show A.depth + 1 + n < 900; lia, by have := h.3; show A.units + 3 + 8 * n < 9000; lia⟩
noncomputable def No : Value → Shared → Prop := fun _ _ => False
noncomputable def Kp (C : Cx) (Y : List Addr) (env : Env) (S : St) (s : Shared) (S' : St) (s' : Shared) : Prop := ∀ v av, VR s.heap (Xo C Y env S) v av → VR s'.heap (Xo C Y env S') v av
noncomputable def G {α β : Type} (C : Cx) (n : Nat) (env : Env) (RR : Heap → List Addr → α → β → Prop) (S : St) (m : Sem α) (P : β → St → Prop) : Prop :=
  ∀ A Y s₀ D s Q, AOk n A → Rel C Y s₀ D env S s →
    (∀ r s' b S', P b S' → Rel C Y s₀ D env S' s' → Kp C Y env S s S' s' → RR s'.heap (Xo C Y env S') r b → Q r s') →
    wpAny (model C.prog C.w) A m Q No s
noncomputable abbrev EV (C : Cx) (n : Nat) (env : Env) (S : St) (e : Expr) (P : AV → St → Prop) : Prop := G C n env VR S (eval e env) P
noncomputable abbrev BR (_ : Heap) (_ : List Addr) (a b : Bool) : Prop := a = b
noncomputable abbrev ET (C : Cx) (n : Nat) (env : Env) (S : St) (e : Expr) (P : Bool → St → Prop) : Prop := G C n env BR S (isTrue e env (eval e env)) P
noncomputable abbrev PE (C : Cx) (n : Nat) (env : Env) (S : St) (e : Expr) (av : AV) : Prop := EV C n env S e fun a S' => a = av ∧ S' = S
noncomputable abbrev PT (C : Cx) (n : Nat) (env : Env) (S : St) (e : Expr) (b : Bool) : Prop := ET C n env S e fun a S' => a = b ∧ S' = S
inductive AF where
  | next | brk | cont | ret (v : AV)
inductive FR (h : Heap) (X : List Addr) : Flow → AF → Prop
  | next : FR h X .next .next
  | brk : FR h X .brk .brk
  | cont : FR h X .cont .cont
  | ret {v : Value} {av : AV} : VR h X v av → FR h X (.ret v) (.ret av)
noncomputable abbrev EX (C : Cx) (n : Nat) (env : Env) (S : St) (ss : List Stmt) (P : AF → St → Prop) : Prop := G C n env FR S (execs ss env) P
noncomputable abbrev E1 (C : Cx) (n : Nat) (env : Env) (S : St) (st : Stmt) (P : AF → St → Prop) : Prop := G C n env FR S (exec st env) P
section
variable {C : Cx} {n : Nat} {env : Env} {S : St}
theorem Kp.refl {Y : List Addr} {s : Shared} : Kp C Y env S s S s := fun _ _ h => h
theorem Kp.trans {Y : List Addr} {s s' s'' : Shared} {S' S'' : St} (a : Kp C Y env S s S' s') (b : Kp C Y env S' s' S'' s'') : Kp C Y env S s S'' s'' := fun v av h => b v av (a v av h)
theorem Kp.go {Y : List Addr} {s₀ s s' : Shared} {D : List Addr} (R : Rel C Y s₀ D env S s) (x : SStp C.T [] s s') : Kp C Y env S s S s' := fun _ _ h => h.go x R.hT
theorem Kp.all {Y : List Addr} {s s' : Shared} {S' : St} (k : Kp C Y env S s S' s') {vs : List Value} {l : List AV} (r : VRs s.heap (Xo C Y env S) vs l) : VRs s'.heap (Xo C Y env S') vs l := r.imp k
theorem G.mono {α β : Type} {RR : Heap → List Addr → α → β → Prop} {m : Sem α} {P P' : β → St → Prop} (h : G C n env RR S m P) (hp : ∀ b S', P b S' → P' b S') : G C n env RR S m P' :=
  fun A Y s₀ D s Q a R q => h A Y s₀ D s Q a R fun r s' b S' p => q r s' b S' (hp b S' p)
theorem PE.then {e : Expr} {av : AV} {P : AV → St → Prop} (h : PE C n env S e av) (p : P av S) : EV C n env S e P := G.mono h fun _ _ x => by rw [x.1, x.2]; exact p
theorem PT.then {e : Expr} {b : Bool} {P : Bool → St → Prop} (h : PT C n env S e b) (p : P b S) : ET C n env S e P := G.mono h fun _ _ x => by rw [x.1, x.2]; exact p
theorem PE.cast {e : Expr} {a b : AV} (h : PE C n env S e a) (q : a = b) : PE C n env S e b := q ▸ h
theorem PT.cast {e : Expr} {a b : Bool} (h : PT C n env S e a) (q : a = b) : PT C n env S e b := q ▸ h
end
section
variable {C : Cx} (ok : C.Ok) {n : Nat} {env : Env} {S : St}
include ok
theorem PE.int {i : Int} {k : Nat} {pos : Pos} : PE C n env S (.Constant (.int i) k pos) (.int i) := fun _ _ _ _ _ _ _ R q =>
  wpAny_Constant_int (q _ _ _ _ ⟨rfl, rfl⟩ (R.go ok (.toks ..)) (Kp.go R (.toks ..)) (.int ..))
theorem PE.str {x : Str} {k : Nat} {pos : Pos} : PE C n env S (.Constant (.str x) k pos) (.str x) := fun _ _ _ _ _ _ _ R q =>
  wpAny_Constant_str (q _ _ _ _ ⟨rfl, rfl⟩ (R.go ok (.toks ..)) (Kp.go R (.toks ..)) (.str ..))
omit ok in
theorem PE.bool {b : Bool} {k : Nat} {pos : Pos} : PE C n env S (.Constant (.bool b) k pos) (.bool b) := fun _ _ _ _ _ _ _ R q =>
  wpAny_Constant_bool (q _ _ _ _ ⟨rfl, rfl⟩ R .refl (.bool ..))
omit ok in
theorem PE.nul {k : Nat} {pos : Pos} : PE C n env S (.Constant .none k pos) .none := fun _ _ _ _ _ _ _ R q =>
  wpAny_Constant_none (q _ _ _ _ ⟨rfl, rfl⟩ R .refl .none)
omit ok in
theorem PE.name {x : Str} {av : AV} {pos : Pos} (h : S.μ.lookup x = some av) (hd : (x == ("__debug__" : Str)) = false := by decide) : PE C n env S (.Name x pos) av := fun _ _ _ _ _ _ _ R q => by
  refine wpAny_Name ?_ hd
  rcases R.fr.kind x av h with k | k | k
  · obtain ⟨m, hn, z⟩ := R.fr.loc
    obtain ⟨v, e, r⟩ := z x av h k
    exact wpAny_loadName_local R.ev.kind k hn e (q _ _ _ _ ⟨rfl, rfl⟩ R .refl r)
  · obtain ⟨c, v, e1, e2, r⟩ := R.fr.cel x av h (.inl k)
    exact wpAny_loadName_cell R.ev.kind k e1 e2 (q _ _ _ _ ⟨rfl, rfl⟩ R .refl r)
  · obtain ⟨c, v, e1, e2, r⟩ := R.fr.cel x av h (.inr k)
    exact wpAny_loadName_free R.ev.kind k e1 e2 (q _ _ _ _ ⟨rfl, rfl⟩ R .refl r) (R.ev.more x k)
end
end Mine
end
section
open PySem PySem.W PySem.Calls PyProof.Rows
set_option tactic.hygienic false
namespace Mine
noncomputable def VRI (h : Heap) (X : List Addr) (v : Value) : AV → Prop
  | .none => .none = v
  | .bool b => .bool b = v
  | .int i => ∃ t, .int i t = v
  | .str x => ∃ t, .str x t = v
  | .raw u => u = v
  | .tup l => ∀ G : Prop, (∀ a vs n, h.get? a = some ⟨.type "tuple", Option.none, .seq vs.toArray n, #[]⟩ → a ∉ X → VRs h X vs l → .ref a = v → G) → G
  | .lst l => ∀ G : Prop, (∀ a vs n, h.get? a = some ⟨.type "list", Option.none, .seq vs.toArray n, #[]⟩ → a ∉ X → VRs h X vs l → .ref a = v → G) → G
  | .rng a b c => ∀ G : Prop, (∀ x t u w, IsRange h x a b c t u w → x ∉ X → .ref x = v → G) → G
  | .qn c x => ∀ G : Prop, (∀ r d t o, h.get? r = some ⟨.ref c, some d, .plain, #[]⟩ → h.get? d = some o → PySem.W.lookIn (Str.ofString "text") o = some (some (.str x t)) → r ∉ X → d ∉ X → .ref r = v → G) → G
noncomputable def VRsI (h : Heap) (X : List Addr) (vs : List Value) : List AV → Prop
  | [] => [] = vs
  | a :: l => ∀ G : Prop, (∀ v vs', VR h X v a → VRs h X vs' l → v :: vs' = vs → G) → G
theorem VR.inv {h : Heap} {X : List Addr} {v : Value} {a : AV} (r : VR h X v a) : VRI h X v a :=
  @VR.casesOn h X (fun v a _ => VRI h X v a) v a r rfl (fun _ => rfl) (fun _ t => ⟨t, rfl⟩) (fun _ t => ⟨t, rfl⟩) (fun _ => rfl) (fun e n rs _ k => k _ _ _ e n rs rfl) (fun e n rs _ k => k _ _ _ e n rs rfl)
    (fun e n _ k => k _ _ _ _ e n rfl) (fun e e' l n n' _ k => k _ _ _ _ e e' l n n' rfl)
theorem VRs.inv {h : Heap} {X : List Addr} {vs : List Value} {l : List AV} (r : VRs h X vs l) : VRsI h X vs l :=
  @VRs.casesOn h X (fun vs l _ => VRsI h X vs l) vs l r rfl (fun p q _ k => k _ _ p q rfl)
section
variable {h : Heap} {X : List Addr} {v : Value}
theorem VR.iv_raw {u : Value} {G : Prop} (r : VR h X v (.raw u)) (k : u = v → G) : G := k r.inv
theorem VR.iv_none {G : Prop} (r : VR h X v .none) (k : .none = v → G) : G := k r.inv
theorem VR.iv_bool {b : Bool} {G : Prop} (r : VR h X v (.bool b)) (k : .bool b = v → G) : G := k r.inv
theorem VR.iv_int {i : Int} {G : Prop} (r : VR h X v (.int i)) (k : ∀ t, .int i t = v → G) : G := r.inv.elim k
theorem VR.iv_str {x : Str} {G : Prop} (r : VR h X v (.str x)) (k : ∀ t, .str x t = v → G) : G := r.inv.elim k
theorem VR.iv_tup {l : List AV} {G : Prop} (r : VR h X v (.tup l)) (k : ∀ a vs n, h.get? a = some ⟨.type "tuple", Option.none, .seq vs.toArray n, #[]⟩ → a ∉ X → VRs h X vs l → .ref a = v → G) : G := r.inv G k
theorem VR.iv_lst {l : List AV} {G : Prop} (r : VR h X v (.lst l)) (k : ∀ a vs n, h.get? a = some ⟨.type "list", Option.none, .seq vs.toArray n, #[]⟩ → a ∉ X → VRs h X vs l → .ref a = v → G) : G := r.inv G k
theorem VR.iv_rng {a b c : Int} {G : Prop} (r : VR h X v (.rng a b c)) (k : ∀ x t u w, IsRange h x a b c t u w → x ∉ X → .ref x = v → G) : G := r.inv G k
theorem VR.iv_qn {c : Addr} {x : Str} {G : Prop} (r : VR h X v (.qn c x)) (k : ∀ r d t o, h.get? r = some ⟨.ref c, some d, .plain, #[]⟩ → h.get? d = some o → PySem.W.lookIn (Str.ofString "text") o = some (some (.str x t)) → r ∉ X → d ∉ X → .ref r = v → G) : G := r.inv G k
theorem VRs.iv_nil {vs : List Value} {G : Prop} (r : VRs h X vs []) (k : [] = vs → G) : G := k r.inv
theorem VRs.iv_cons {vs : List Value} {a : AV} {l : List AV} {G : Prop} (r : VRs h X vs (a :: l)) (k : ∀ v vs', VR h X v a → VRs h X vs' l → v :: vs' = vs → G) : G := r.inv G k
@[elab_as_elim] theorem VR.el_raw {u : Value} {P : Value → Prop} (r : VR h X v (.raw u)) (k : P u) : P v := r.iv_raw fun e => e ▸ k
@[elab_as_elim] theorem VR.el_none {P : Value → Prop} (r : VR h X v .none) (k : P .none) : P v := r.iv_none fun e => e ▸ k
@[elab_as_elim] theorem VR.el_bool {b : Bool} {P : Value → Prop} (r : VR h X v (.bool b)) (k : P (.bool b)) : P v := r.iv_bool fun e => e ▸ k
@[elab_as_elim] theorem VR.el_int {i : Int} {P : Value → Prop} (r : VR h X v (.int i)) (k : ∀ t, P (.int i t)) : P v := r.iv_int fun t e => e ▸ k t
@[elab_as_elim] theorem VR.el_str {x : Str} {P : Value → Prop} (r : VR h X v (.str x)) (k : ∀ t, P (.str x t)) : P v := r.iv_str fun t e => e ▸ k t
@[elab_as_elim] theorem VR.el_tup {l : List AV} {P : Value → Prop} (r : VR h X v (.tup l)) (k : ∀ a vs n, h.get? a = some ⟨.type "tuple", Option.none, .seq vs.toArray n, #[]⟩ → a ∉ X → VRs h X vs l → P (.ref a)) : P v := r.iv_tup fun a vs n e nx rs q => q ▸ k a vs n e nx rs
@[elab_as_elim] theorem VR.el_lst {l : List AV} {P : Value → Prop} (r : VR h X v (.lst l)) (k : ∀ a vs n, h.get? a = some ⟨.type "list", Option.none, .seq vs.toArray n, #[]⟩ → a ∉ X → VRs h X vs l → P (.ref a)) : P v := r.iv_lst fun a vs n e nx rs q => q ▸ k a vs n e nx rs
@[elab_as_elim] theorem VR.el_rng {a b c : Int} {P : Value → Prop} (r : VR h X v (.rng a b c)) (k : ∀ x t u w, IsRange h x a b c t u w → x ∉ X → P (.ref x)) : P v := r.iv_rng fun x t u w e nx q => q ▸ k x t u w e nx
@[elab_as_elim] theorem VR.el_qn {c : Addr} {x : Str} {P : Value → Prop} (r : VR h X v (.qn c x)) (k : ∀ r d t o, h.get? r = some ⟨.ref c, some d, .plain, #[]⟩ → h.get? d = some o → PySem.W.lookIn (Str.ofString "text") o = some (some (.str x t)) → r ∉ X → d ∉ X → P (.ref r)) : P v := r.iv_qn fun x d t o e e' l n n' q => q ▸ k x d t o e e' l n n'
@[elab_as_elim] theorem VRs.el_nil {vs : List Value} {P : List Value → Prop} (r : VRs h X vs []) (k : P []) : P vs := r.iv_nil fun e => e ▸ k
@[elab_as_elim] theorem VRs.el_cons {vs : List Value} {a : AV} {l : List AV} {P : List Value → Prop} (r : VRs h X vs (a :: l)) (k : ∀ v vs, VR h X v a → VRs h X vs l → P (v :: vs)) : P vs := r.iv_cons fun v vs' p q e => e ▸ k v vs' p q
end
end Mine
namespace Mine
noncomputable def G1 {α β : Type} (C : Cx) (n : Nat) (env : Env) (RR : Heap → List Addr → α → β → Prop) (S : St) (m : Value → Sem α) (a : AV) (P : β → St → Prop) : Prop :=
  ∀ A Y s₀ D s v Q, AOk n A → Rel C Y s₀ D env S s → VR s.heap (Xo C Y env S) v a →
    (∀ r s' b S', P b S' → Rel C Y s₀ D env S' s' → Kp C Y env S s S' s' → RR s'.heap (Xo C Y env S') r b → Q r s') → wpAny (model C.prog C.w) A (m v) Q No s
noncomputable def G2 {α β : Type} (C : Cx) (n : Nat) (env : Env) (RR : Heap → List Addr → α → β → Prop) (S : St) (m : Value → Value → Sem α) (a a' : AV) (P : β → St → Prop) : Prop :=
  ∀ A Y s₀ D s v v' Q, AOk n A → Rel C Y s₀ D env S s → VR s.heap (Xo C Y env S) v a → VR s.heap (Xo C Y env S) v' a' →
    (∀ r s' b S', P b S' → Rel C Y s₀ D env S' s' → Kp C Y env S s S' s' → RR s'.heap (Xo C Y env S') r b → Q r s') → wpAny (model C.prog C.w) A (m v v') Q No s
noncomputable abbrev V1 (C : Cx) (n : Nat) (env : Env) (S : St) (m : Value → Sem Value) (a : AV) (P : AV → St → Prop) : Prop := G1 C n env VR S m a P
noncomputable abbrev V2 (C : Cx) (n : Nat) (env : Env) (S : St) (m : Value → Value → Sem Value) (a b : AV) (P : AV → St → Prop) : Prop := G2 C n env VR S m a b P
noncomputable abbrev P1 (C : Cx) (n : Nat) (env : Env) (S : St) (m : Value → Sem Value) (a c : AV) : Prop := V1 C n env S m a fun x S' => x = c ∧ S' = S
noncomputable abbrev P2 (C : Cx) (n : Nat) (env : Env) (S : St) (m : Value → Value → Sem Value) (a b c : AV) : Prop := V2 C n env S m a b fun x S' => x = c ∧ S' = S
noncomputable abbrev T1 (C : Cx) (n : Nat) (env : Env) (S : St) (a : AV) (b : Bool) : Prop := G1 C n env BR S truthy a fun x S' => x = b ∧ S' = S
section
variable {C : Cx} (ok : C.Ok) {n : Nat} {env : Env} {S : St}
theorem G1.mono {α β : Type} {RR : Heap → List Addr → α → β → Prop} {m : Value → Sem α} {a : AV} {P P' : β → St → Prop} (h : G1 C n env RR S m a P) (hp : ∀ b S', P b S' → P' b S') : G1 C n env RR S m a P' :=
  fun A Y s₀ D s v Q ha R r q => h A Y s₀ D s v Q ha R r fun r s' b S' p => q r s' b S' (hp b S' p)
theorem G2.mono {α β : Type} {RR : Heap → List Addr → α → β → Prop} {m : Value → Value → Sem α} {a a' : AV} {P P' : β → St → Prop} (h : G2 C n env RR S m a a' P) (hp : ∀ b S', P b S' → P' b S') : G2 C n env RR S m a a' P' :=
  fun A Y s₀ D s v v' Q ha R r r' q => h A Y s₀ D s v v' Q ha R r r' fun r s' b S' p => q r s' b S' (hp b S' p)
theorem EV.two {α β : Type} {RR : Heap → List Addr → α → β → Prop} {l r : Expr} {m : Value → Value → Sem α} {k : Sem α} {P : β → St → Prop}
    (hk : ∀ (A : Around) s (Q : α → Shared → Prop), wpAny (model C.prog C.w) A (eval l env) (fun a s₁ => wpAny (model C.prog C.w) A (eval r env) (fun b s₂ => wpAny (model C.prog C.w) A (m a b) Q No s₂) No s₁) No s → wpAny (model C.prog C.w) A k Q No s)
    (h : EV C n env S l fun a S₁ => EV C n env S₁ r fun b S₂ => G2 C n env RR S₂ m a b P) : G C n env RR S k P :=
  fun A Y s₀ D s Q ha R q => hk A s Q <| h A Y s₀ D s _ ha R fun v s₁ a S₁ p R₁ K₁ rv => p A Y s₀ D s₁ _ ha R₁ fun v' s₂ b S₂ p₂ R₂ K₂ rv' =>
    p₂ A Y s₀ D s₂ v v' Q ha R₂ (K₂ _ _ rv) rv' fun r s₃ c S₃ p₃ R₃ K₃ => q r s₃ c S₃ p₃ R₃ ((K₁.trans K₂).trans K₃)
theorem EV.one {α β : Type} {RR : Heap → List Addr → α → β → Prop} {e : Expr} {m : Value → Sem α} {k : Sem α} {P : β → St → Prop}
    (hk : ∀ (A : Around) s (Q : α → Shared → Prop), wpAny (model C.prog C.w) A (eval e env) (fun a s₁ => wpAny (model C.prog C.w) A (m a) Q No s₁) No s → wpAny (model C.prog C.w) A k Q No s)
    (h : EV C n env S e fun a S₁ => G1 C n env RR S₁ m a P) : G C n env RR S k P :=
  fun A Y s₀ D s Q ha R q => hk A s Q <| h A Y s₀ D s _ ha R fun v s₁ a S₁ p R₁ K₁ rv => p A Y s₀ D s₁ v Q ha R₁ rv fun r s₂ c S₂ p₂ R₂ K₂ => q r s₂ c S₂ p₂ R₂ (K₁.trans K₂)
theorem EV.bin {l r : Expr} {op : Operator} {pos : Pos} {P : AV → St → Prop} (h : EV C n env S l fun a S₁ => EV C n env S₁ r fun b S₂ => V2 C n env S₂ (binaryOp op) a b P) : EV C n env S (.BinOp l op r pos) P :=
  EV.two (m := binaryOp op) (fun _ _ _ x => wpAny_BinOp x) h
theorem PE.bin {l r : Expr} {op : Operator} {pos : Pos} {a b c : AV} (hl : PE C n env S l a) (hr : PE C n env S r b) (o : P2 C n env S (binaryOp op) a b c) : PE C n env S (.BinOp l op r pos) c :=
  EV.bin (hl.then (hr.then o))
theorem EV.cmp {l r : Expr} {op : CmpOp} {pos : Pos} {P : AV → St → Prop} (h : EV C n env S l fun a S₁ => EV C n env S₁ r fun b S₂ => V2 C n env S₂ (compareOp op) a b P)
    (hm : behindInMarks op r = false := by with_unfolding_all rfl) : EV C n env S (.Compare l [op] [r] pos) P :=
  EV.two (m := compareOp op) (fun _ _ _ x => wpAny_Compare1 x hm) h
theorem PE.cmp {l r : Expr} {op : CmpOp} {pos : Pos} {a b c : AV} (hl : PE C n env S l a) (hr : PE C n env S r b) (o : P2 C n env S (compareOp op) a b c)
    (hm : behindInMarks op r = false := by with_unfolding_all rfl) : PE C n env S (.Compare l [op] [r] pos) c :=
  EV.cmp (hl.then (hr.then o)) hm
theorem ET.cmp {l r : Expr} {op : CmpOp} {pos : Pos} {P : Bool → St → Prop} (h : EV C n env S l fun a S₁ => EV C n env S₁ r fun b S₂ => V2 C n env S₂ (compareOp op) a b fun c S₃ => G1 C n env BR S₃ truthy c P)
    (hm : behindInMarks op r = false := by with_unfolding_all rfl) : ET C n env S (.Compare l [op] [r] pos) P :=
  fun A Y s₀ D s Q ha R q => wpAny_isTrue_Compare1 (hm := hm) <| h A Y s₀ D s _ ha R fun v s₁ a S₁ p R₁ K₁ rv => p A Y s₀ D s₁ _ ha R₁ fun v' s₂ b S₂ p₂ R₂ K₂ rv' =>
    p₂ A Y s₀ D s₂ v v' _ ha R₂ (K₂ _ _ rv) rv' fun r s₃ c S₃ p₃ R₃ K₃ rc => p₃ A Y s₀ D s₃ r Q ha R₃ rc fun t s₄ tb S₄ p₄ R₄ K₄ rr => q t s₄ tb S₄ p₄ R₄ (((K₁.trans K₂).trans K₃).trans K₄) rr
theorem T1.bool {b : Bool} : T1 C n env S (.bool b) b := fun A Y s₀ D s v Q ha R r q => by
  refine VR.el_bool r ?_; exact wpAny_truthy_bool (q _ _ _ _ ⟨rfl, rfl⟩ R .refl rfl)
theorem PT.cmp {l r : Expr} {op : CmpOp} {pos : Pos} {a b : AV} {t : Bool} (hl : PE C n env S l a) (hr : PE C n env S r b) (o : P2 C n env S (compareOp op) a b (.bool t))
    (hm : behindInMarks op r = false := by with_unfolding_all rfl) : PT C n env S (.Compare l [op] [r] pos) t :=
  ET.cmp (hl.then (hr.then (o.mono fun c S₃ e => by rw [e.1, e.2]; exact T1.bool))) hm
end
end Mine
namespace Mine
section
variable {C : Cx} (ok : C.Ok) {n : Nat} {env : Env} {S : St}
include ok
theorem P2.of {m : Value → Value → Sem Value} {a b c : AV}
    (h : ∀ (A : Around) X s v v' (Q : Value → Shared → Prop), AOk n A → Bs C s.heap → VR s.heap X v a → VR s.heap X v' b → (∀ a ∈ X, a < s.heap.objs.size) → (∀ a ∈ C.T, a ∈ X) → (∀ r s', SStp C.T [] s s' → VR s'.heap X r c → Q r s') → wpAny (model C.prog C.w) A (m v v') Q No s) : P2 C n env S m a b c :=
  fun A Y s₀ D s v v' Q ha R r r' q => h A _ s v v' Q ha R.bs r r'
    (fun a hx => (R.live hx).lt) R.hT
    fun r s' x rc => q r s' _ S ⟨rfl, rfl⟩ (R.go ok x) (Kp.go R x) rc
theorem P1.of {m : Value → Sem Value} {a c : AV}
    (h : ∀ (A : Around) X s v (Q : Value → Shared → Prop), AOk n A → Bs C s.heap → VR s.heap X v a → (∀ a ∈ X, a < s.heap.objs.size) → (∀ a ∈ C.T, a ∈ X) → (∀ r s', SStp C.T [] s s' → VR s'.heap X r c → Q r s') → wpAny (model C.prog C.w) A (m v) Q No s) : P1 C n env S m a c :=
  fun A Y s₀ D s v Q ha R r q => h A _ s v Q ha R.bs r
    (fun a hx => (R.live hx).lt) R.hT
    fun r s' x rc => q r s' _ S ⟨rfl, rfl⟩ (R.go ok x) (Kp.go R x) rc
namespace O
variable {a b : Int} {x y : Str}
theorem add : P2 C n env S (binaryOp .Add) (.int a) (.int b) (.int (a + b)) := .of ok fun _ _ _ _ _ _ _ _ r r' _ _ q => by refine VR.el_int r fun _ => ?_; refine VR.el_int r' fun _ => ?_; exact add_int (q _ _ (.toks ..) (.int ..))
theorem sub : P2 C n env S (binaryOp .Sub) (.int a) (.int b) (.int (a - b)) := .of ok fun _ _ _ _ _ _ _ _ r r' _ _ q => by refine VR.el_int r fun _ => ?_; refine VR.el_int r' fun _ => ?_; exact sub_int (q _ _ (.toks ..) (.int ..))
theorem mul (hm : Builtin.Int.intBits a ≤ 64) : P2 C n env S (binaryOp .Mult) (.int a) (.int b) (.int (a * b)) := .of ok fun _ _ _ _ _ _ _ _ r r' _ _ q => by
  refine VR.el_int r fun _ => ?_; refine VR.el_int r' fun _ => ?_; exact mul_int (q _ _ (.toks ..) (.int ..)) (.of_left hm)
theorem fdiv (hb : b ≠ 0) (hs : b.natAbs < 2 ^ 30) : P2 C n env S (binaryOp .FloorDiv) (.int a) (.int b) (.int (a.fdiv b)) := .of ok fun _ _ _ _ _ _ _ _ r r' _ _ q => by
  refine VR.el_int r fun _ => ?_; refine VR.el_int r' fun _ => ?_; exact floordiv_int hb (q _ _ (.toks ..) (.int ..)) (.inl (PyProof.noPylong_small hs))
theorem fmod (hb : b ≠ 0) : P2 C n env S (binaryOp .Mod) (.int a) (.int b) (.int (a.fmod b)) := .of ok fun _ _ _ _ _ _ _ _ r r' _ _ q => by
  refine VR.el_int r fun _ => ?_; refine VR.el_int r' fun _ => ?_; exact mod_int' hb (q _ _ (.toks ..) (.int ..))
theorem pow (hb : 0 ≤ b) (hb2 : b ≤ 1000000) (ha : a.natAbs < 2 ^ 64) : P2 C n env S (binaryOp .Pow) (.int a) (.int b) (.int (a ^ b.toNat)) := .of ok fun _ _ _ _ _ _ _ _ r r' _ _ q => by
  refine VR.el_int r fun _ => ?_; refine VR.el_int r' fun _ => ?_; exact pow_int_small hb hb2 ha (q _ _ (.toks ..) (.int ..))
theorem shl (hb : 0 ≤ b) (hb2 : b ≤ 1000000) (ha : a.natAbs < 2 ^ 64) : P2 C n env S (binaryOp .LShift) (.int a) (.int b) (.int (a * 2 ^ b.toNat)) := .of ok fun _ _ _ _ _ _ _ _ r r' _ _ q => by
  refine VR.el_int r fun _ => ?_; refine VR.el_int r' fun _ => ?_; exact lshift_int_small hb hb2 ha (q _ _ (.toks ..) (.int ..))
theorem shr (hb : 0 ≤ b) : P2 C n env S (binaryOp .RShift) (.int a) (.int b) (.int (a.fdiv (2 ^ b.toNat))) := .of ok fun _ _ _ _ _ _ _ _ r r' _ _ q => by
  refine VR.el_int r fun _ => ?_; refine VR.el_int r' fun _ => ?_; exact rshift_int hb (q _ _ (.toks ..) (.int ..))
theorem and : P2 C n env S (binaryOp .BitAnd) (.int a) (.int b) (.int (Builtin.bitAnd a b)) := .of ok fun _ _ _ _ _ _ _ _ r r' _ _ q => by
  refine VR.el_int r fun _ => ?_; refine VR.el_int r' fun _ => ?_; exact and_int (q _ _ (.toks ..) (.int ..))
theorem adds (hz : x.length + y.length ≤ sizeLine) : P2 C n env S (binaryOp .Add) (.str x) (.str y) (.str (x ++ y)) := .of ok fun _ _ _ _ _ _ _ _ r r' _ _ q => by
  refine VR.el_str r fun _ => ?_; refine VR.el_str r' fun _ => ?_; exact SB.add (fun t' k => q _ _ (.toks ..) (.str ..)) hz
theorem iadd : P2 C n env S (inplaceOp .Add) (.int a) (.int b) (.int (a + b)) := .of ok fun _ _ _ _ _ _ _ _ r r' _ _ q => by refine VR.el_int r fun _ => ?_; refine VR.el_int r' fun _ => ?_; exact wpAny_iadd_int (q _ _ (.toks ..) (.int ..))
theorem lt : P2 C n env S (compareOp .Lt) (.int a) (.int b) (.bool (decide (a < b))) := .of ok fun _ _ _ _ _ _ _ _ r r' _ _ q => by refine VR.el_int r fun _ => ?_; refine VR.el_int r' fun _ => ?_; exact lt_int (q _ _ (.refl ..) (.bool ..))
theorem le : P2 C n env S (compareOp .LtE) (.int a) (.int b) (.bool (decide (a ≤ b))) := .of ok fun _ _ _ _ _ _ _ _ r r' _ _ q => by refine VR.el_int r fun _ => ?_; refine VR.el_int r' fun _ => ?_; exact le_int (q _ _ (.refl ..) (.bool ..))
theorem ge : P2 C n env S (compareOp .GtE) (.int a) (.int b) (.bool (decide (b ≤ a))) := .of ok fun _ _ _ _ _ _ _ _ r r' _ _ q => by refine VR.el_int r fun _ => ?_; refine VR.el_int r' fun _ => ?_; exact ge_int (q _ _ (.refl ..) (.bool ..))
theorem eq : P2 C n env S (compareOp .Eq) (.int a) (.int b) (.bool (a == b)) := .of ok fun _ _ _ _ _ _ _ _ r r' _ _ q => by refine VR.el_int r fun _ => ?_; refine VR.el_int r' fun _ => ?_; exact eq_int (q _ _ (.refl ..) (.bool ..))
theorem ne : P2 C n env S (compareOp .NotEq) (.int a) (.int b) (.bool (a != b)) := .of ok fun _ _ _ _ _ _ _ _ r r' _ _ q => by refine VR.el_int r fun _ => ?_; refine VR.el_int r' fun _ => ?_; exact ne_int (q _ _ (.refl ..) (.bool ..))
theorem eqs : P2 C n env S (compareOp .Eq) (.str x) (.str y) (.bool (x == y)) := .of ok fun _ _ _ _ _ _ _ _ r r' _ _ q => by refine VR.el_str r fun _ => ?_; refine VR.el_str r' fun _ => ?_; exact eq_str (q _ _ (.refl ..) (.bool ..))
theorem nes : P2 C n env S (compareOp .NotEq) (.str x) (.str y) (.bool (x != y)) := .of ok fun _ _ _ _ _ _ _ _ r r' _ _ q => by refine VR.el_str r fun _ => ?_; refine VR.el_str r' fun _ => ?_; exact ne_str (q _ _ (.refl ..) (.bool ..))
theorem lts : P2 C n env S (compareOp .Lt) (.str x) (.str y) (.bool (decide (x.cps.toList < y.cps.toList))) := .of ok fun _ _ _ _ _ _ _ _ r r' _ _ q => by refine VR.el_str r fun _ => ?_; refine VR.el_str r' fun _ => ?_; exact lt_str (q _ _ (.refl ..) (.bool ..))
theorem ins : P2 C n env S (compareOp .In) (.str y) (.str x) (.bool (Txt.contains x y)) := .of ok fun _ _ _ _ _ _ _ _ r r' _ _ q => by refine VR.el_str r fun _ => ?_; refine VR.el_str r' fun _ => ?_; exact SB.contains (q _ _ (.refl ..) (.bool ..))
noncomputable def isNone : AV → Option Bool
  | .none => some true
  | .raw (.ref _) => some false
  | .raw _ => Option.none
  | _ => some false
omit ok in
theorem isNone_ok {h : Heap} {X : List Addr} {v : Value} {a : AV} {t : Bool} (r : VR h X v a) (e : isNone a = some t) : (v == Value.none) = t := by
  cases r <;> simp [isNone] at e <;> try (subst e; rfl)
  cases v <;> simp at e <;> (subst e; rfl)
theorem is_none_ {c : AV} {t : Bool} (e : isNone c = some t) : P2 C n env S (compareOp .Is) c .none (.bool t) := .of ok fun _ _ _ _ _ _ _ _ r r' _ _ q => by
  refine VR.el_none r' ?_; refine PySem.is_none ?_; rw [isNone_ok r e]; exact q _ _ (.refl ..) (.bool ..)
theorem isnt_none_ {c : AV} {t : Bool} (e : isNone c = some t) : P2 C n env S (compareOp .IsNot) c .none (.bool (!t)) := .of ok fun _ _ _ _ _ _ _ _ r r' _ _ q => by
  refine VR.el_none r' ?_; refine PySem.isNot_none ?_; rw [isNone_ok r e]; exact q _ _ (.refl ..) (.bool ..)
theorem is_bool {c d : Bool} : P2 C n env S (compareOp .Is) (.bool c) (.bool d) (.bool (c == d)) := .of ok fun _ _ _ _ _ _ _ _ r r' _ _ q => by refine VR.el_bool r ?_; refine VR.el_bool r' ?_; exact PyProof.Rows.is_bool (q _ _ (.refl ..) (.bool ..))
theorem isnt_bool {c d : Bool} : P2 C n env S (compareOp .IsNot) (.bool c) (.bool d) (.bool (c != d)) := .of ok fun _ _ _ _ _ _ _ _ r r' _ _ q => by refine VR.el_bool r ?_; refine VR.el_bool r' ?_; exact PyProof.Rows.isnot_bool (q _ _ (.refl ..) (.bool ..))
omit ok in
theorem is_acc {c c' d d' b b' : Addr} {k k' : Option (Str × AV)} {l l' : Option (List (Str × Str))} (hc : (c, AO.obj b d k l) ∈ S.M) (hc' : (c', AO.obj b' d' k' l') ∈ S.M) : P2 C n env S (compareOp .Is) (.raw (.ref c)) (.raw (.ref c')) (.bool (c == c')) :=
  fun A Y s₀ D s v v' Q ha R r r' q => by
    refine VR.el_raw r ?_; refine VR.el_raw r' ?_
    obtain ⟨⟨_, _, e, _⟩, _⟩ := R.ob _ hc
    obtain ⟨⟨_, _, e', _⟩, _⟩ := R.ob _ hc'
    by_cases h : c = c'
    · subst h; exact wpAny_is_ref_self (q _ _ _ _ ⟨rfl, rfl⟩ R .refl (by simpa using VR.bool true))
    · exact kto_is e e' h (by simp) (q _ _ _ _ ⟨rfl, rfl⟩ R .refl (by rw [show (c == c') = false from beq_eq_false_iff_ne.mpr h]; exact VR.bool _))
omit ok in
theorem isnt_acc {c c' d d' b b' : Addr} {k k' : Option (Str × AV)} {l l' : Option (List (Str × Str))} (hc : (c, AO.obj b d k l) ∈ S.M) (hc' : (c', AO.obj b' d' k' l') ∈ S.M) : P2 C n env S (compareOp .IsNot) (.raw (.ref c)) (.raw (.ref c')) (.bool (!(c == c'))) :=
  fun A Y s₀ D s v v' Q ha R r r' q => by
    refine VR.el_raw r ?_; refine VR.el_raw r' ?_
    obtain ⟨⟨_, _, e, _⟩, _⟩ := R.ob _ hc
    obtain ⟨⟨_, _, e', _⟩, _⟩ := R.ob _ hc'
    by_cases h : c = c'
    · subst h; exact wpAny_isNot_ref_self (q _ _ _ _ ⟨rfl, rfl⟩ R .refl (by simpa using VR.bool false))
    · exact kto_isnot e e' h (by simp) (q _ _ _ _ ⟨rfl, rfl⟩ R .refl (by rw [show (c == c') = false from beq_eq_false_iff_ne.mpr h]; exact VR.bool _))
theorem addl {l m : List AV} (hz : l.length + m.length ≤ sizeLine) : P2 C n env S (binaryOp .Add) (.lst l) (.lst m) (.lst (l ++ m)) := .of ok fun _ X s _ _ _ _ _ r r' lt hT q => by
  refine VR.el_lst r fun _ _ _ e n p => ?_
  ·
    refine VR.el_lst r' fun _ _ _ e' n' p' => ?_
    ·
      refine P.add_list e e' ?_ (by simpa [p.length, p'.length] using hz)
      refine q _ _ (.alloc ..) (.lst (n := 0) ((Heap.get?_push_size _ rfl).trans (by simp)) (fun h => absurd (lt _ h) (Nat.lt_irrefl _)) ((VRs.stp (T := C.T) (Stp.push ..) (fun _ h => nomatch h) hT p).append (VRs.stp (T := C.T) (Stp.push ..) (fun _ h => nomatch h) hT p')))
end O
end
end Mine
namespace Mine
noncomputable def ins (x : Str) (v : AV) : List (Str × AV) → List (Str × AV)
  | [] => [(x, v)]
  | (y, w) :: r => if x == y then (y, v) :: r else (y, w) :: ins x v r
theorem lookup_ins {x y : Str} {v : AV} : ∀ {μ : List (Str × AV)}, (ins x v μ).lookup y = if y = x then some v else μ.lookup y
  | [] => by
    simp only [ins, List.lookup]
    by_cases h : y = x
    · subst h; simp
    · have : (y == x) = false := beq_eq_false_iff_ne.mpr h
      simp [this, h]
  | (z, w) :: r => by
    unfold ins
    by_cases hz : x = z
    · subst hz
      simp only [beq_self_eq_true, if_true, List.lookup]
      by_cases h : y = x
      · subst h; simp
      · have : (y == x) = false := beq_eq_false_iff_ne.mpr h
        simp [this, h]
    · have e : (x == z) = false := beq_eq_false_iff_ne.mpr hz
      simp only [e, Bool.false_eq_true, if_false, List.lookup]
      rw [lookup_ins (μ := r)]
      by_cases h : y = x
      · subst h; simp [e]
      · cases (y == z) <;> simp [h]
section
variable {C : Cx} {Y D : List Addr} {s₀ s s' : Shared} {env : Env} {S : St}
theorem Rel.one (ok : C.Ok) (R : Rel C Y s₀ D env S s) {a : Addr} (ha : a ∈ fa env ++ feet S.M) (x : SStp C.T [a] s s') : Bs C s'.heap ∧ SStp C.T D s₀ s' ∧ (∀ b ∈ fa env ++ (feet S.M ++ Y), b ≠ a → Live s'.heap b) := by
  have ha' : a ∈ fa env ++ (feet S.M ++ Y) := by rw [← List.append_assoc]; exact List.mem_append_left _ ha
  refine ⟨R.bs.stp ok x.heap fun b hb => ?_, R.st.trans x fun b hb => ?_, fun b hb hne => ?_⟩
  · have : b = a := by simpa using hb
    exact this ▸ (R.hi a ha').1
  · have : b = a := by simpa using hb
    exact this ▸ R.own a ha
  · obtain ⟨_, h2, o, e⟩ := R.hi b hb
    exact ⟨o, x.heap.keep b o e (by simpa using hne) h2⟩
theorem Rel.inX (R : Rel C Y s₀ D env S s) {a : Addr} (ha : a ∈ fa env ++ feet S.M) : ∀ b ∈ [a], b ∈ Xo C Y env S := fun b hb => by
  have : b = a := by simpa using hb
  subst this
  exact List.mem_append_right _ (by rw [← List.append_assoc]; exact List.mem_append_left _ ha)
theorem fa_loc (env : Env) : env.locals ∈ fa env := List.mem_cons_self ..
theorem nodup_fa (R : Rel C Y s₀ D env S s) : (fa env).Nodup := (List.nodup_append.mp R.nd).1
theorem loc_ne (R : Rel C Y s₀ D env S s) {x : Str} {c : Addr} (k : Own env x) (e : env.cells.lookup x = some c) : c ≠ env.locals := by
  have h := nodup_fa R
  have m : c ∈ (env.cells.filter fun p => env.kindOf p.1 == some .cell && env.func.isSome).map (·.2) := List.mem_map.mpr ⟨(x, c), List.mem_filter.mpr ⟨mem_of_lookup e, by simp [k.1, k.2]⟩, rfl⟩
  exact fun q => (List.nodup_cons.mp h).1 (q ▸ m)
theorem foot_ne (R : Rel C Y s₀ D env S s) {a : Addr} (ha : a ∈ fa env) {p : Addr × AO} (hp : p ∈ S.M) : ∀ b ∈ foot p, b ∉ [a] ∧ b ∉ C.T := fun b hb => by
  refine ⟨fun q => ?_, R.tn (List.mem_append_right _ (List.mem_append_left _ (mem_feet hp hb)))⟩
  have : b = a := by simpa using q
  subst this
  exact (List.nodup_append.mp R.nd).2.2 b ha b (mem_feet hp hb) rfl
theorem Rel.setLocal (ok : C.Ok) (R : Rel C Y s₀ D env S s) {x : Str} {v : Value} {av : AV} {m : Str → Option Value} (k : env.kindOf x = some .local) (r : VR s.heap (Xo C Y env S) v av)
    (hm : ∀ x av, S.μ.lookup x = some av → env.kindOf x = some .local → ∃ v, m x = some v ∧ VR s.heap (Xo C Y env S) v av)
    (hn : s'.heap.Ns env.locals (fun y => if y = x then some v else m y)) (st : SStp C.T [env.locals] s s') : Rel C Y s₀ D env ⟨ins x av S.μ, S.M⟩ s' ∧ Kp C Y env S s ⟨ins x av S.μ, S.M⟩ s' := by
  have hl := List.mem_append_left (feet S.M) (fa_loc env)
  obtain ⟨bs, st', li⟩ := R.one ok hl st
  have kp : ∀ {v av}, VR s.heap (Xo C Y env S) v av → VR s'.heap (Xo C Y env S) v av := fun r => r.stp st.heap (R.inX hl) R.hT
  refine ⟨⟨bs, R.ev, ⟨⟨_, hn, fun y bv e ky => ?_⟩, fun y bv e ky => ?_, fun y c ky e => ?_, fun y bv e => ?_⟩, R.free, fun p hp => (R.ob p hp).stp st.heap (R.inX hl) R.hT (foot_ne R (fa_loc env) hp), R.nd, R.dis, fun a ha => ⟨(R.hi a ha).1, (R.hi a ha).2.1, ?_⟩, st', R.own⟩, fun v av r => kp r⟩
  · rw [lookup_ins] at e
    by_cases h : y = x
    · subst h; simp at e; subst e; exact ⟨v, by simp, kp r⟩
    · rw [if_neg h] at e; obtain ⟨w, e1, r1⟩ := hm y bv e ky; exact ⟨w, by simp [h, e1], kp r1⟩
  · rw [lookup_ins] at e
    by_cases h : y = x
    · subst h; rw [k] at ky; rcases ky with q | q <;> cases q
    · rw [if_neg h] at e
      obtain ⟨c, w, e1, ⟨o, ho, hd⟩, r1⟩ := R.fr.cel y bv e ky
      refine ⟨c, w, e1, ⟨o, ?_, hd⟩, kp r1⟩
      rcases ownLent ky with ky | ky
      · exact st.heap.keep c o ho (by simpa using loc_ne R ky e1) (R.tn (List.mem_append_left _ (mem_fa_cell ky e1)))
      · exact st.heap.keep c o ho (fun q => R.freeN ky e1 (by have : c = env.locals := by simpa using q
                                                              exact this ▸ hl)) (R.freeT ok ky e1)
  · obtain ⟨ov, o, ho, hd⟩ := R.fr.cells y c ky e
    exact ⟨ov, o, st.heap.keep c o ho (by simpa using loc_ne R ky e) (R.tn (List.mem_append_left _ (mem_fa_cell ky e))), hd⟩
  · rw [lookup_ins] at e
    by_cases h : y = x
    · subst h; exact .inl k
    · rw [if_neg h] at e; exact R.fr.kind y bv e
  · by_cases h : a = env.locals
    · subst h; obtain ⟨o, _, _, q, _⟩ := hn; exact ⟨o, q⟩
    · exact li a ha h
theorem cell_nodup (R : Rel C Y s₀ D env S s) {x y : Str} {c : Addr} (kx : Own env x) (ky : Own env y) (ex : env.cells.lookup x = some c) (ey : env.cells.lookup y = some c) : x = y := by
  have h := (List.nodup_cons.mp (nodup_fa R)).2
  have mx : (x, c) ∈ env.cells.filter fun p => env.kindOf p.1 == some .cell && env.func.isSome := List.mem_filter.mpr ⟨mem_of_lookup ex, by simp [kx.1, kx.2]⟩
  have my : (y, c) ∈ env.cells.filter fun p => env.kindOf p.1 == some .cell && env.func.isSome := List.mem_filter.mpr ⟨mem_of_lookup ey, by simp [ky.1, ky.2]⟩
  generalize env.cells.filter (fun p => env.kindOf p.1 == some .cell && env.func.isSome) = l at h mx my
  induction l with
  | nil => cases mx
  | cons p l ih =>
    simp only [List.map_cons, List.nodup_cons] at h
    rcases List.mem_cons.mp mx with ex | mx'
    · rcases List.mem_cons.mp my with ey | my'
      · rw [← ex] at ey; exact (congrArg Prod.fst ey).symm
      · subst ex; exact absurd (List.mem_map.mpr ⟨(y, c), my', rfl⟩ : c ∈ l.map (·.2)) h.1
    · rcases List.mem_cons.mp my with ey | my'
      · subst ey; exact absurd (List.mem_map.mpr ⟨(x, c), mx', rfl⟩ : c ∈ l.map (·.2)) h.1
      · exact ih h.2 mx' my'
theorem Rel.setCell (ok : C.Ok) (R : Rel C Y s₀ D env S s) {x : Str} {c : Addr} {v : Value} {av : AV} (k : Own env x) (hc : env.cells.lookup x = some c) (r : VR s.heap (Xo C Y env S) v av)
    (hn : s'.heap.IsCell c (some v)) (st : SStp C.T [c] s s') : Rel C Y s₀ D env ⟨ins x av S.μ, S.M⟩ s' ∧ Kp C Y env S s ⟨ins x av S.μ, S.M⟩ s' := by
  have hl := List.mem_append_left (feet S.M) (mem_fa_cell k hc)
  obtain ⟨bs, st', li⟩ := R.one ok hl st
  have kp : ∀ {v av}, VR s.heap (Xo C Y env S) v av → VR s'.heap (Xo C Y env S) v av := fun r => r.stp st.heap (R.inX hl) R.hT
  refine ⟨⟨bs, R.ev, ⟨?_, fun y bv e ky => ?_, fun y c' ky e => ?_, fun y bv e => ?_⟩, R.free, fun p hp => (R.ob p hp).stp st.heap (R.inX hl) R.hT (foot_ne R (mem_fa_cell k hc) hp), R.nd, R.dis, fun a ha => ⟨(R.hi a ha).1, (R.hi a ha).2.1, ?_⟩, st', R.own⟩, fun v av r => kp r⟩
  · obtain ⟨m, hm, q⟩ := R.fr.loc
    refine ⟨m, hm.at' fun o e => st.heap.keep _ o e (by simpa using (loc_ne R k hc).symm) (R.tn (List.mem_append_left _ (fa_loc env))), fun y bv e ky => ?_⟩
    rw [lookup_ins] at e
    by_cases h : y = x
    · subst h; rw [k.1] at ky; cases ky
    · rw [if_neg h] at e; obtain ⟨w, e1, r1⟩ := q y bv e ky; exact ⟨w, e1, kp r1⟩
  · rw [lookup_ins] at e
    by_cases h : y = x
    · subst h; simp at e; subst e; exact ⟨c, v, hc, hn, kp r⟩
    · rw [if_neg h] at e
      obtain ⟨c', w, e1, ⟨o, ho, hd⟩, r1⟩ := R.fr.cel y bv e ky
      refine ⟨c', w, e1, ⟨o, ?_, hd⟩, kp r1⟩
      rcases ownLent ky with ky | ky
      · exact st.heap.keep c' o ho (fun q => h (by have : c' = c := by simpa using q
                                                   subst this; exact cell_nodup R ky k e1 hc)) (R.tn (List.mem_append_left _ (mem_fa_cell ky e1)))
      · exact st.heap.keep c' o ho (fun q => R.freeN ky e1 (by have : c' = c := by simpa using q
                                                               exact this ▸ hl)) (R.freeT ok ky e1)
  · by_cases h : c' = c
    · subst h; exact ⟨_, hn⟩
    · obtain ⟨ov, o, ho, hd⟩ := R.fr.cells y c' ky e
      exact ⟨ov, o, st.heap.keep c' o ho (by simpa using h) (R.tn (List.mem_append_left _ (mem_fa_cell ky e))), hd⟩
  · rw [lookup_ins] at e
    by_cases h : y = x
    · subst h; exact .inr (.inl k.1)
    · rw [if_neg h] at e; exact R.fr.kind y bv e
  · by_cases h : a = c
    · subst h; obtain ⟨o, q, _⟩ := hn; exact ⟨o, q⟩
    · exact li a ha h
theorem Rel.weak (R : Rel C Y s₀ D env S s) {μ : List (Str × AV)} (h : ∀ x av, μ.lookup x = some av → S.μ.lookup x = some av) : Rel C Y s₀ D env ⟨μ, S.M⟩ s :=
  ⟨R.bs, R.ev, ⟨let ⟨m, a, b⟩ := R.fr.loc; ⟨m, a, fun x av e k => b x av (h x av e) k⟩, fun x av e k => R.fr.cel x av (h x av e) k, R.fr.cells, fun x av e => R.fr.kind x av (h x av e)⟩, R.free, R.ob, R.nd, R.dis, R.hi, R.st, R.own⟩
theorem feet_set {M : List (Addr × AO)} {i : Nat} {a : Addr} {o o' : AO} (h : M[i]? = some (a, o)) (hm : o'.more = o.more) : feet (M.set i (a, o')) = feet M := by
  unfold feet
  induction M generalizing i with
  | nil => simp at h
  | cons p M ih =>
    cases i with
    | zero => simp at h; subst h; simp [foot, hm]
    | succ i => simp at h; simp [ih h]
theorem mem_of_get? {M : List (Addr × AO)} {i : Nat} {p : Addr × AO} (h : M[i]? = some p) : p ∈ M := List.mem_of_getElem? h
theorem feet_apart {M : List (Addr × AO)} (nd : (feet M).Nodup) {i j : Nat} {p q : Addr × AO} (hi : M[i]? = some p) (hj : M[j]? = some q) (hij : i ≠ j) {b : Addr} (hb : b ∈ foot p) : b ∉ foot q := by
  unfold feet at nd
  induction M generalizing i j with
  | nil => simp at hi
  | cons r M ih =>
    rw [List.flatMap_cons, List.nodup_append] at nd
    cases i with
    | zero =>
      cases j with
      | zero => exact absurd rfl hij
      | succ j =>
        simp at hi hj; subst hi
        exact fun hq => nd.2.2 b hb b (mem_feet (mem_of_get? hj) hq) rfl
    | succ i =>
      cases j with
      | zero =>
        simp at hi hj; subst hj
        exact fun hq => nd.2.2 b hq b (mem_feet (mem_of_get? hi) hb) rfl
      | succ j => simp at hi hj; exact ih nd.2.1 hi hj (by lia)
theorem Rel.setObj (ok : C.Ok) (R : Rel C Y s₀ D env S s) {i : Nat} {a b : Addr} {o o' : AO} (hM : S.M[i]? = some (a, o)) (hm : o'.more = o.more) (hb : b ∈ foot (a, o)) (st : SStp C.T [b] s s') (lb : Live s'.heap b)
    (ob : OR C s'.heap (Xo C Y env S) a o') : Rel C Y s₀ D env ⟨S.μ, S.M.set i (a, o')⟩ s' ∧ Kp C Y env S s ⟨S.μ, S.M.set i (a, o')⟩ s' := by
  have hmem : b ∈ feet S.M := mem_feet (mem_of_get? hM) hb
  have hl := List.mem_append_right (fa env) hmem
  obtain ⟨bs, st', li⟩ := R.one ok hl st
  have ef : feet (S.M.set i (a, o')) = feet S.M := feet_set hM hm
  have eX : Xo C Y env ⟨S.μ, S.M.set i (a, o')⟩ = Xo C Y env S := by unfold Xo; rw [ef]
  have nf : ∀ c ∈ fa env, c ≠ b := fun c hc q => (List.nodup_append.mp R.nd).2.2 c hc b hmem q
  refine ⟨⟨bs, R.ev, eX ▸ R.fr.stp st.heap (R.inX hl) R.hT (fun c hc => ⟨by simpa using nf c hc, R.tn (List.mem_append_left _ hc)⟩) (fun x c k e => ⟨fun q => R.freeN k e ((show c = b by simpa using q) ▸ hl), R.freeT ok k e⟩), R.free, fun p hp => ?_, ef ▸ R.nd, ef ▸ R.dis, ?_, st', ef ▸ R.own⟩, fun v av r => eX ▸ r.stp st.heap (R.inX hl) R.hT⟩
  · rw [eX]
    obtain ⟨j, hj⟩ := List.getElem?_of_mem hp
    rw [List.getElem?_set] at hj
    by_cases hij : i = j
    · subst hij
      rw [if_pos rfl] at hj
      split at hj
      · cases hj; exact ob
      · cases hj
    · rw [if_neg hij] at hj
      refine (R.ob p (mem_of_get? hj)).stp st.heap (R.inX hl) R.hT fun c hc => ⟨fun q => ?_, R.tn (List.mem_append_right _ (List.mem_append_left _ (mem_feet (mem_of_get? hj) hc)))⟩
      have : c = b := by simpa using q
      subst this
      exact feet_apart (List.nodup_append.mp R.nd).2.1 hM hj hij hb hc
  · intro c hc
    rw [ef] at hc
    refine ⟨(R.hi c hc).1, (R.hi c hc).2.1, ?_⟩
    by_cases h : c = b
    · exact h ▸ lb
    · exact li c hc h
theorem Rel.newObj (ok : C.Ok) (R : Rel C Y s₀ D env S s) {a : Addr} {o : AO} (hf : ∀ b ∈ foot (a, o), s.heap.get? b = none ∧ Live s'.heap b) (hnd : (foot (a, o)).Nodup) (st : SStp C.T [] s s')
    (ob : OR C s'.heap (Xo C Y env ⟨S.μ, S.M ++ [(a, o)]⟩) a o) : Rel C Y s₀ D env ⟨S.μ, S.M ++ [(a, o)]⟩ s' ∧ Kp C Y env S s ⟨S.μ, S.M ++ [(a, o)]⟩ s' := by
  have R' := R.go ok st
  have ef : feet (S.M ++ [(a, o)]) = feet S.M ++ foot (a, o) := by unfold feet; simp
  have sub : ∀ b o', s'.heap.get? b = some o' → b ∉ foot (a, o) → b ∉ Xo C Y env S → b ∉ Xo C Y env ⟨S.μ, S.M ++ [(a, o)]⟩ := fun b o' _ h1 h2 h3 => by
    unfold Xo at h2 h3
    simp only [ef, List.mem_append] at h2 h3
    rcases h3 with h | h | (h | h) | h
    · exact h2 (.inl h)
    · exact h2 (.inr (.inl h))
    · exact h2 (.inr (.inr (.inl h)))
    · exact h1 h
    · exact h2 (.inr (.inr (.inr h)))
  have z : ∀ a ∈ ([] : List Addr), a ∈ Xo C Y env S := fun _ h => nomatch h
  have grow : ∀ {v av}, VR s.heap (Xo C Y env S) v av → VR s'.heap (Xo C Y env ⟨S.μ, S.M ++ [(a, o)]⟩) v av := fun r => by
    have r1 : VR s.heap (Xo C Y env ⟨S.μ, S.M ++ [(a, o)]⟩) _ _ := r.sub fun b o' e n => by
      intro h3
      unfold Xo at n h3
      simp only [ef, List.mem_append] at n h3
      rcases h3 with h | h | (h | h) | h
      · exact n (.inl h)
      · exact n (.inr (.inl h))
      · exact n (.inr (.inr (.inl h)))
      · rw [(hf b h).1] at e; cases e
      · exact n (.inr (.inr (.inr h)))
    exact r1.stp st.heap (fun _ h => nomatch h) (fun a h => List.mem_append_left _ h)
  have hsub : ∀ b o', s.heap.get? b = some o' → b ∉ Xo C Y env S → b ∉ Xo C Y env ⟨S.μ, S.M ++ [(a, o)]⟩ := fun b o' e n h3 => by
    unfold Xo at n h3
    simp only [ef, List.mem_append] at n h3
    rcases h3 with h | h | (h | h) | h
    · exact n (.inl h)
    · exact n (.inr (.inl h))
    · exact n (.inr (.inr (.inl h)))
    · rw [(hf b h).1] at e; cases e
    · exact n (.inr (.inr (.inr h)))
  have hT' : ∀ b ∈ C.T, b ∈ Xo C Y env ⟨S.μ, S.M ++ [(a, o)]⟩ := fun b h => List.mem_append_left _ h
  have lv : ∀ b ∈ fa env ++ (feet S.M ++ Y), b ∉ foot (a, o) := fun b hb q => by
    obtain ⟨o', e⟩ := (R.hi b hb).2.2
    rw [(hf b q).1] at e; cases e
  refine ⟨⟨R'.bs, R.ev, (R.fr.sub hsub).stp st.heap (fun _ h => nomatch h) hT' (fun b hb => ⟨fun h => (nomatch h), R.tn (List.mem_append_left _ hb)⟩) (fun x c k e => ⟨fun h => (nomatch h), R.freeT ok k e⟩), R.free, fun p hp => ?_, ?_, ?_, ?_, R'.st, ?_⟩, fun v av r => grow r⟩
  · rcases List.mem_append.mp hp with hp | hp
    · exact ((R.ob p hp).sub hsub).stp st.heap (fun _ h => nomatch h) hT' fun b hb => ⟨fun h => (nomatch h), R.tn (List.mem_append_right _ (List.mem_append_left _ (mem_feet hp hb)))⟩
    · have : p = (a, o) := by simpa using hp
      subst this; exact ob
  · rw [ef, ← List.append_assoc, List.nodup_append]
    refine ⟨R.nd, hnd, fun b hb c hc q => ?_⟩
    subst q
    exact lv b (by rw [← List.append_assoc]; exact List.mem_append_left _ hb) hc
  · intro b hb
    rw [ef, ← List.append_assoc, List.mem_append]
    rintro (h | h)
    · exact R.dis b hb h
    · exact lv b (List.mem_append_right _ (List.mem_append_right _ hb)) h
  · intro b hb
    rw [ef] at hb
    simp only [List.mem_append] at hb
    have old : b ∈ fa env ++ (feet S.M ++ Y) → ¬ C.Old b ∧ b ∉ C.T ∧ Live s'.heap b := fun h => R'.hi b h
    rcases hb with h | (h | h) | h
    · exact old (List.mem_append_left _ h)
    · exact old (List.mem_append_right _ (List.mem_append_left _ h))
    · exact ⟨fun q => (R.bs.live q).ne (hf b h).1 rfl, fun q => (R.bs.liveT q).ne (hf b h).1 rfl, (hf b h).2⟩
    · exact old (List.mem_append_right _ (List.mem_append_right _ h))
  · intro b hb
    rw [ef, ← List.append_assoc, List.mem_append] at hb
    rcases hb with h | h
    · exact R.own b h
    · cases e : s₀.heap.get? b with
      | none => exact .inr rfl
      | some o' =>
        by_cases hd : b ∈ D
        · exact .inl hd
        · have hbT : b ∉ C.T := fun q => (R.bs.liveT q).ne (hf b h).1 rfl
          have := R.st.heap.keep b o' e hd hbT
          rw [(hf b h).1] at this; cases this
end
end Mine
namespace Mine
noncomputable abbrev EL (C : Cx) (n : Nat) (env : Env) (S : St) (pos : Pos) (es : List Expr) (P : List AV → St → Prop) : Prop := G C n env VRs S (spliced (backTo pos (starEach es env))) P
noncomputable abbrev AT (C : Cx) (n : Nat) (env : Env) (S : St) (op : BoolOp) (es : List Expr) (P : Bool → St → Prop) : Prop := G C n env BR S (allTrue op es env) P
noncomputable abbrev PL (C : Cx) (n : Nat) (env : Env) (S : St) (pos : Pos) (es : List Expr) (l : List AV) : Prop := EL C n env S pos es fun l' S' => l' = l ∧ S' = S
section
variable {C : Cx} {n : Nat} {env : Env} {S : St}
theorem PL.then {pos : Pos} {es : List Expr} {l : List AV} {P : List AV → St → Prop} (h : PL C n env S pos es l) (p : P l S) : EL C n env S pos es P := G.mono h fun _ _ x => by rw [x.1, x.2]; exact p
theorem EL.nil {pos : Pos} {P : List AV → St → Prop} (h : P [] S) : EL C n env S pos [] P := fun _ _ _ _ _ _ _ R q => wpAny_items_nil (q _ _ _ _ h R .refl .nil)
theorem EL.cons {pos : Pos} {e : Expr} {es : List Expr} {P : List AV → St → Prop} (h : EV C n env S e fun a S₁ => EL C n env S₁ pos es fun l S₂ => P (a :: l) S₂)
    (he : starEach (e :: es) env = (false, eval e env) :: starEach es env := by rfl) : EL C n env S pos (e :: es) P :=
  fun A Y s₀ D s Q ha R q => wpAny_items_cons (h A Y s₀ D s _ ha R fun v s₁ a S₁ p R₁ K₁ rv => p A Y s₀ D s₁ _ ha R₁ fun vs s₂ l S₂ p₂ R₂ K₂ rvs =>
    q (v :: vs) s₂ _ S₂ p₂ R₂ (K₁.trans K₂) (.cons (K₂ _ _ rv) rvs)) he
theorem PL.nil {pos : Pos} : PL C n env S pos [] [] := EL.nil ⟨rfl, rfl⟩
theorem PL.cons {pos : Pos} {e : Expr} {es : List Expr} {a : AV} {l : List AV} (h : PE C n env S e a) (t : PL C n env S pos es l)
    (he : starEach (e :: es) env = (false, eval e env) :: starEach es env := by rfl) : PL C n env S pos (e :: es) (a :: l) :=
  EL.cons (h.then (t.then ⟨rfl, rfl⟩)) he
theorem ET.val {e : Expr} {P : Bool → St → Prop} (h : EV C n env S e fun a S₁ => G1 C n env BR S₁ truthy a P)
    (he : isTrue e env (eval e env) = (do let v ← eval e env; standAt e.pos; holding [v] (truthy v)) := by rfl) : ET C n env S e P :=
  EV.one (fun _ _ _ x => wpAny_isTrue_value x he) h
theorem PT.val {e : Expr} {a : AV} {b : Bool} (h : PE C n env S e a) (t : T1 C n env S a b)
    (he : isTrue e env (eval e env) = (do let v ← eval e env; standAt e.pos; holding [v] (truthy v)) := by rfl) : PT C n env S e b := ET.val (h.then t) he
theorem ET.not {e : Expr} {pos : Pos} {P : Bool → St → Prop} (h : ET C n env S e fun b S₁ => P (!b) S₁) : ET C n env S (.UnaryOp .Not e pos) P :=
  fun A Y s₀ D s Q ha R q => wpAny_isTrue_Not (h A Y s₀ D s _ ha R fun r s₁ b S₁ p R₁ K₁ e => q (!r) s₁ _ S₁ p R₁ K₁ (by rw [show r = b from e]))
theorem PT.not {e : Expr} {pos : Pos} {b : Bool} (h : PT C n env S e b) : PT C n env S (.UnaryOp .Not e pos) (!b) := ET.not (h.then ⟨rfl, rfl⟩)
theorem AT.andNil {P : Bool → St → Prop} (h : P true S) : AT C n env S .And [] P := fun _ _ _ _ _ _ _ R q => wpAny_allTrue_And_nil (q _ _ _ _ h R .refl rfl)
theorem AT.orNil {P : Bool → St → Prop} (h : P false S) : AT C n env S .Or [] P := fun _ _ _ _ _ _ _ R q => wpAny_allTrue_Or_nil (q _ _ _ _ h R .refl rfl)
theorem AT.and {e : Expr} {es : List Expr} {P : Bool → St → Prop} (h : ET C n env S e fun b S₁ => if b then AT C n env S₁ .And es P else P false S₁) : AT C n env S .And (e :: es) P :=
  fun A Y s₀ D s Q ha R q => wpAny_allTrue_And_cons (h A Y s₀ D s _ ha R fun r s₁ b S₁ p R₁ K₁ e => by
    have e : r = b := e
    subst e
    cases r
    · exact q false s₁ _ S₁ p R₁ K₁ rfl
    · exact p A Y s₀ D s₁ _ ha R₁ fun r s₂ b S₂ p₂ R₂ K₂ e => q r s₂ b S₂ p₂ R₂ (K₁.trans K₂) e)
theorem AT.or {e : Expr} {es : List Expr} {P : Bool → St → Prop} (h : ET C n env S e fun b S₁ => if b then P true S₁ else AT C n env S₁ .Or es P) : AT C n env S .Or (e :: es) P :=
  fun A Y s₀ D s Q ha R q => wpAny_allTrue_Or_cons (h A Y s₀ D s _ ha R fun r s₁ b S₁ p R₁ K₁ e => by
    have e : r = b := e
    subst e
    cases r
    · exact p A Y s₀ D s₁ _ ha R₁ fun r s₂ b S₂ p₂ R₂ K₂ e => q r s₂ b S₂ p₂ R₂ (K₁.trans K₂) e
    · exact q true s₁ _ S₁ p R₁ K₁ rfl)
theorem ET.boolop {op : BoolOp} {es : List Expr} {pos : Pos} {P : Bool → St → Prop} (h : AT C n env S op es P) : ET C n env S (.BoolOp op es pos) P :=
  fun A Y s₀ D s Q ha R q => wpAny_isTrue_BoolOp (h A Y s₀ D s Q ha R q)
theorem PT.and2 {x y : Expr} {pos : Pos} {a b : Bool} (hx : PT C n env S x a) (hy : a = true → PT C n env S y b) : PT C n env S (.BoolOp .And [x, y] pos) (a && b) := by
  refine ET.boolop (.and (hx.then ?_))
  cases a
  · exact ⟨rfl, rfl⟩
  · refine .and ((hy rfl).then ?_)
    cases b
    · exact ⟨rfl, rfl⟩
    · exact .andNil ⟨rfl, rfl⟩
theorem PT.or2 {x y : Expr} {pos : Pos} {a b : Bool} (hx : PT C n env S x a) (hy : a = false → PT C n env S y b) : PT C n env S (.BoolOp .Or [x, y] pos) (a || b) := by
  refine ET.boolop (.or (hx.then ?_))
  cases a
  · refine .or ((hy rfl).then ?_)
    cases b
    · exact .orNil ⟨rfl, rfl⟩
    · exact ⟨rfl, rfl⟩
  · exact ⟨rfl, rfl⟩
theorem EV.sub {value slice : Expr} {pos : Pos} {P : AV → St → Prop} (h : EV C n env S value fun a S₁ => EV C n env S₁ slice fun b S₂ => V2 C n env S₂ (subscriptTail value slice) a b P) : EV C n env S (.Subscript value slice pos) P :=
  EV.two (m := subscriptTail value slice) (fun _ _ _ x => Subscript_ x) h
theorem PE.sub {value slice : Expr} {pos : Pos} {a b c : AV} (hl : PE C n env S value a) (hr : PE C n env S slice b) (o : P2 C n env S (subscriptTail value slice) a b c) : PE C n env S (.Subscript value slice pos) c :=
  EV.sub (hl.then (hr.then o))
theorem PE.glob {x : Str} {v : Value} {pos : Pos} (hk : env.kindOf x = some .globalImplicit) (h : C.mg x = some v) (hd : (x == ("__debug__" : Str)) = false := by decide) : PE C n env S (.Name x pos) (.raw v) :=
  fun A Y s₀ D s Q ha R q => Calls.Name_function_global R.ev.kind hk (Calls.loadGlobal_global (mg := C.mg) (by rw [R.ev.glob]; exact R.bs.g) h (q _ _ _ _ ⟨rfl, rfl⟩ R .refl (.raw _))) hd
theorem PE.built {x : Str} {v : Value} {pos : Pos} (hk : env.kindOf x = some .globalImplicit) (h : C.mg x = Option.none) (hv : C.mb x = some v) (hd : (x == ("__debug__" : Str)) = false := by decide) : PE C n env S (.Name x pos) (.raw v) :=
  fun A Y s₀ D s Q ha R q => Calls.Name_function_global R.ev.kind hk (Calls.loadGlobal_builtin (mg := C.mg) (mb := C.mb) (by rw [R.ev.glob]; exact R.bs.g) h (by rw [R.ev.buil]; exact R.bs.b) hv (q _ _ _ _ ⟨rfl, rfl⟩ R .refl (.raw _))) hd
end
section
variable {C : Cx} (ok : C.Ok) {n : Nat} {env : Env} {S : St}
include ok
theorem EV.tuple {es : List Expr} {k : Nat} {pos : Pos} {P : AV → St → Prop} (h : EL C n env S pos es fun l S₁ => l.length ≤ sizeLine ∧ P (.tup l) S₁) : EV C n env S (.Tuple es k pos) P :=
  fun A Y s₀ D s Q ha R q => wpAny_Tuple (h A Y s₀ D s _ ha R fun vs s₁ l S₁ p R₁ K₁ rv => ⟨by rw [rv.length]; exact p.1, q _ _ _ S₁ p.2 (R₁.go ok (.alloc ..)) (K₁.trans (Kp.go R₁ (.alloc ..)))
    (.tup (Heap.get?_push_size _ rfl) (fun h => (R₁.live h).ne (new_none _) rfl) (VRs.stp (Stp.push C.T ..) (fun _ h => nomatch h) R₁.hT rv))⟩)
theorem PE.tuple {es : List Expr} {k : Nat} {pos : Pos} {l : List AV} (h : PL C n env S pos es l) (hz : l.length ≤ sizeLine := by decide) : PE C n env S (.Tuple es k pos) (.tup l) := EV.tuple ok (h.then ⟨hz, rfl, rfl⟩)
theorem EV.list {es : List Expr} {pos : Pos} {P : AV → St → Prop} (h : EL C n env S pos es fun l S₁ => l.length ≤ sizeLine ∧ P (.lst l) S₁) : EV C n env S (.List es pos) P :=
  fun A Y s₀ D s Q ha R q => wpAny_List (h A Y s₀ D s _ ha R fun vs s₁ l S₁ p R₁ K₁ rv => ⟨by rw [rv.length]; exact p.1, q _ _ _ S₁ p.2 (R₁.go ok (.alloc ..)) (K₁.trans (Kp.go R₁ (.alloc ..)))
    (.lst (Heap.get?_push_size _ rfl) (fun h => (R₁.live h).ne (new_none _) rfl) (VRs.stp (Stp.push C.T ..) (fun _ h => nomatch h) R₁.hT rv))⟩)
theorem PE.list {es : List Expr} {pos : Pos} {l : List AV} (h : PL C n env S pos es l) (hz : l.length ≤ sizeLine := by decide) : PE C n env S (.List es pos) (.lst l) := EV.list ok (h.then ⟨hz, rfl, rfl⟩)
theorem EV.listM {es : List Expr} {pos : Pos} {P : AV → St → Prop} (h : EL C n env S pos es fun l S₁ => l.length ≤ sizeLine ∧ ∀ a, P (.raw (.ref a)) ⟨S₁.μ, S₁.M ++ [(a, .list l)]⟩) : EV C n env S (.List es pos) P :=
  fun A Y s₀ D s Q ha R q => wpAny_List (h A Y s₀ D s _ ha R fun vs s₁ l S₁ p R₁ K₁ rv => by
    refine ⟨by rw [rv.length]; exact p.1, ?_⟩
    obtain ⟨R₂, K₂⟩ := R₁.newObj ok (a := s₁.heap.objs.size) (o := .list l) (s' := { s₁ with heap := s₁.heap.push { cls := .type "list", data := .seq vs.toArray } })
      (fun b hb => by have : b = s₁.heap.objs.size := by simpa [foot, AO.more] using hb
                      subst this; exact ⟨new_none _, _, Heap.get?_push_size _ rfl⟩) (by simp [foot, AO.more]) (.alloc ..)
      ⟨vs, 0, Heap.get?_push_size _ rfl, by
        refine VRs.stp (Stp.push C.T ..) (fun _ h => nomatch h) (fun b h => List.mem_append_left _ h) (rv.sub fun b o e n => ?_)
        intro h3
        simp only [Xo, feet, List.mem_append, List.flatMap_append, List.flatMap_cons, List.flatMap_nil, List.append_nil, foot, AO.more, List.mem_singleton] at n h3
        rcases h3 with h | h | (h | h) | h
        · exact n (.inl h)
        · exact n (.inr (.inl h))
        · exact n (.inr (.inr (.inl h)))
        · subst h; rw [new_none] at e; cases e
        · exact n (.inr (.inr (.inr h)))⟩
    exact q _ _ _ _ (p.2 _) R₂ (K₁.trans K₂) (.raw _))
omit ok in
theorem isTup_of {h : Heap} {a : Addr} {vs : List Value} {k : Nat} (e : h.get? a = some ⟨.type "tuple", Option.none, .seq vs.toArray k, #[]⟩) : IsTup h a vs.toArray := ⟨_, e, rfl, _, rfl⟩
omit ok in
theorem isList_of {h : Heap} {a : Addr} {vs : List Value} {k : Nat} (e : h.get? a = some ⟨.type "list", Option.none, .seq vs.toArray k, #[]⟩) : h.IsList a vs.toArray := ⟨_, e, rfl, _, rfl⟩
namespace O
variable {value slice : Expr}
theorem sub_tup {l : List AV} {k : Int} {j : Nat} {c : AV} (hk : seqIndex? k l.length = some j) (hj : l[j]? = some c) (hlo : -2 ^ 63 ≤ k := by decide) (hhi : k < 2 ^ 63 := by decide)
    (hs : ∀ t u, subscripted slice false (.ref t) (.int k u) = operate [.ref t, .int k u] (getItem (.ref t) (.int k u)) := by intros; with_unfolding_all rfl) : P2 C n env S (subscriptTail value slice) (.tup l) (.int k) c :=
  .of ok fun A X s v v' Q ha B r r' _ _ q => by
    refine VR.el_tup r fun _ _ _ e nx rs => ?_
    ·
      refine VR.el_int r' fun u => ?_
      ·
        obtain ⟨x, hx, rx⟩ := rs.get hj
        exact item_tupleT (isTup_of e) hlo hhi (by rw [rs.length]; exact hk) hx (q _ _ (.refl ..) rx) (hs _ _)
end O
end
end Mine
namespace Mine
noncomputable def aget {K : Type} [DecidableEq K] (l : List (K × AV)) (k : K) : Option AV := (l.find? fun kv => kv.1 = k).map (·.2)
noncomputable def aset {K : Type} [DecidableEq K] (l : List (K × AV)) (k : K) (v : AV) : List (K × AV) := if l.any (fun kv => kv.1 = k) then l.map (fun kv => if kv.1 = k then (kv.1, v) else kv) else l ++ [(k, v)]
section
variable {h : Heap} {X : List Addr} {K : Type} [DecidableEq K]
theorem PRs.any {kvs : List (K × Value)} {l : List (K × AV)} (r : PRs h X kvs l) (k : K) : kvs.any (fun kv => kv.1 = k) = l.any (fun kv => kv.1 = k) := by
  induction r with
  | nil => rfl
  | cons a b ih => simp [ih]
theorem PRs.length {kvs : List (K × Value)} {l : List (K × AV)} (r : PRs h X kvs l) : kvs.length = l.length := by
  induction r with
  | nil => rfl
  | cons a b ih => simp [ih]
theorem PRs.at {kvs : List (K × Value)} {l : List (K × AV)} (r : PRs h X kvs l) {k : K} {a : AV} (e : aget l k = some a) : ∃ v, valueAt kvs k = some v ∧ VR h X v a := by
  induction r with
  | nil => simp [aget] at e
  | @cons k' v a' vs l' p q ih =>
    unfold aget at e
    unfold valueAt
    simp only [List.find?_cons] at e ⊢
    by_cases hk : k' = k
    · subst hk; simp at e; subst e; exact ⟨v, by simp, p⟩
    · simp only [hk, decide_false] at e ⊢; exact ih e
theorem PRs.none {kvs : List (K × Value)} {l : List (K × AV)} (r : PRs h X kvs l) {k : K} (e : aget l k = Option.none) : valueAt kvs k = Option.none := by
  induction r with
  | nil => rfl
  | @cons k' v a' vs l' p q ih =>
    unfold aget at e
    unfold valueAt
    simp only [List.find?_cons] at e ⊢
    by_cases hk : k' = k
    · subst hk; simp at e
    · simp only [hk, decide_false] at e ⊢; exact ih e
theorem PRs.append {kvs kvs' : List (K × Value)} {l l' : List (K × AV)} (r : PRs h X kvs l) (r' : PRs h X kvs' l') : PRs h X (kvs ++ kvs') (l ++ l') := by
  induction r with
  | nil => exact r'
  | cons a b ih => exact .cons a ih
theorem PRs.put {kvs : List (K × Value)} {l : List (K × AV)} (r : PRs h X kvs l) {k : K} {v : Value} {a : AV} (ra : VR h X v a) : PRs h X (kvs.map (fun kv => if kv.1 = k then (kv.1, v) else kv)) (l.map (fun kv => if kv.1 = k then (kv.1, a) else kv)) := by
  induction r with
  | nil => exact .nil
  | @cons k' v a' vs l' p q ih =>
    simp only [List.map_cons]
    by_cases hk : k' = k
    · simp only [hk, if_true]; exact .cons ra ih
    · simp only [hk, if_false]; exact .cons p ih
theorem PRs.stored {kvs : List (K × Value)} {l : List (K × AV)} (r : PRs h X kvs l) {k : K} {v : Value} {a : AV} (ra : VR h X v a) : PRs h X (PySem.stored kvs k v) (aset l k a) := by
  unfold PySem.stored aset
  rw [r.any k]
  cases l.any (fun kv => decide (kv.1 = k))
  · exact r.append (.cons ra .nil)
  · exact r.put ra
end
section
variable {C : Cx} (ok : C.Ok) {n : Nat} {env : Env} {S : St}
include ok
theorem pureM {α β : Type} {RR : Heap → List Addr → α → β → Prop} {Y : List Addr} {s₀ s : Shared} {D : List Addr} {Q : α → Shared → Prop} {b : β}
    (R : Rel C Y s₀ D env S s) (q : ∀ r s' b' S', (b' = b ∧ S' = S) → Rel C Y s₀ D env S' s' → Kp C Y env S s S' s' → RR s'.heap (Xo C Y env S') r b' → Q r s') (r : α) (s' : Shared) (x : SStp C.T [] s s')
    (rr : RR s'.heap (Xo C Y env S) r b) : Q r s' := q r s' b S ⟨rfl, rfl⟩ (R.go ok x) (Kp.go R x) rr
namespace O
variable {value slice : Expr}
theorem sub_lst {l : List AV} {k : Int} {c : AV} (h0 : 0 ≤ k) (hk : l[k.toNat]? = some c) (hhi : k < 2 ^ 63 := by decide)
    (hs : ∀ t u, subscripted slice false (.ref t) (.int k u) = operate [.ref t, .int k u] (getItem (.ref t) (.int k u)) := by intros; with_unfolding_all rfl)
    (hg : ∀ t r, letTemporaryGo value (.ref t) r = pure () := by intros; with_unfolding_all rfl) : P2 C n env S (subscriptTail value slice) (.lst l) (.int k) c :=
  .of ok fun A X s v v' Q ha B r r' _ _ q => by
    refine VR.el_lst r fun _ _ _ e nx rs => ?_
    ·
      refine VR.el_int r' fun u => ?_
      ·
        obtain ⟨x, hx, rx⟩ := rs.get hk
        exact item_listL (isList_of e) h0 hhi hx (q _ _ (.refl ..) rx) (hs _ _) (hg _)
theorem sub_lstM {a : Addr} {l : List AV} {k : Int} {c : AV} (hM : (a, AO.list l) ∈ S.M) (h0 : 0 ≤ k) (hk : l[k.toNat]? = some c) (hhi : k < 2 ^ 63)
    (hs : ∀ t u, subscripted slice false (.ref t) (.int k u) = operate [.ref t, .int k u] (getItem (.ref t) (.int k u)) := by intros; with_unfolding_all rfl)
    (hg : ∀ t r, letTemporaryGo value (.ref t) r = pure () := by intros; with_unfolding_all rfl) : P2 C n env S (subscriptTail value slice) (.raw (.ref a)) (.int k) c :=
  fun A Y s₀ D s v v' Q ha R r r' q => by
    refine VR.el_raw r ?_
    ·
      refine VR.el_int r' fun u => ?_
      ·
        obtain ⟨vs, kk, e, rs⟩ := R.ob _ hM
        obtain ⟨x, hx, rx⟩ := rs.get hk
        exact item_listL (isList_of e) h0 hhi hx (pureM ok R q _ _ (.refl ..) rx) (hs _ _) (hg _)
theorem sub_str {x : Str} {i : Int} (hr : fitsSsize i = true) (h1 : -(x.length : Int) ≤ i) (h2 : i < x.length)
    (hs : ∀ t u, subscripted slice false (.str x t) (.int i u) = operate [.str x t, .int i u] (getItem (.str x t) (.int i u)) := by intros; with_unfolding_all rfl)
    (ht : ∀ t r, letTemporaryGo value (.str x t) r = pure () := by intros; with_unfolding_all rfl) : P2 C n env S (subscriptTail value slice) (.str x) (.int i) (.str (Txt.item x i)) :=
  .of ok fun A X s v v' Q ha B r r' _ _ q => by
    refine VR.el_str r fun _ => ?_; refine VR.el_int r' fun _ => ?_
    exact item_str hr h1 h2 (fun _ => q _ _ (.toks ..) (.str ..)) (hs _ _) (ht _)
theorem sub_sdict {a : Addr} {l : List (Str × AV)} {k : Str} {c : AV} (hM : (a, AO.sdict l) ∈ S.M) (hk : aget l k = some c)
    (hs : ∀ t u, subscripted slice false (.ref t) (.str k u) = operate [.ref t, .str k u] (getItem (.ref t) (.str k u)) := by intros; with_unfolding_all rfl) : P2 C n env S (subscriptTail value slice) (.raw (.ref a)) (.str k) c :=
  fun A Y s₀ D s v v' Q ha R r r' q => by
    refine VR.el_raw r ?_
    ·
      refine VR.el_str r' fun u => ?_
      ·
        obtain ⟨kvs, e, rs⟩ := R.ob _ hM
        obtain ⟨x, hx, rx⟩ := rs.at hk
        exact tail_any e.typeIs F.slot_dict_getitem.lookup (wpAny_getItem_of (strKind_is _ _ _ _) e.mapOf hx (pureM ok R q _ _ (.toks ..) rx)) (hs _ _)
theorem sub_idict {a : Addr} {l : List (Int × AV)} {k : Int} {c : AV} (hM : (a, AO.idict l) ∈ S.M) (hk : aget l k = some c)
    (hs : ∀ t u, subscripted slice false (.ref t) (.int k u) = operate [.ref t, .int k u] (getItem (.ref t) (.int k u)) := by intros; with_unfolding_all rfl) : P2 C n env S (subscriptTail value slice) (.raw (.ref a)) (.int k) c :=
  fun A Y s₀ D s v v' Q ha R r r' q => by
    refine VR.el_raw r ?_
    ·
      refine VR.el_int r' fun u => ?_
      ·
        obtain ⟨kvs, e, rs⟩ := R.ob _ hM
        obtain ⟨x, hx, rx⟩ := rs.at hk
        exact tail_any e.typeIs F.slot_dict_getitem.lookup (wpAny_getItem_of (intKind_is _ _ _ _) e.mapOf hx (pureM ok R q _ _ (.toks ..) rx)) (hs _ _)
end O
end
end Mine
namespace Mine
noncomputable def GN {α β : Type} (C : Cx) (n : Nat) (env : Env) (RR : Heap → List Addr → α → β → Prop) (S : St) (m : List Value → Sem α) (as : List AV) (P : β → St → Prop) : Prop :=
  ∀ A Y s₀ D s vs Q, AOk n A → Rel C Y s₀ D env S s → VRs s.heap (Xo C Y env S) vs as →
    (∀ r s' b S', P b S' → Rel C Y s₀ D env S' s' → Kp C Y env S s S' s' → RR s'.heap (Xo C Y env S') r b → Q r s') → wpAny (model C.prog C.w) A (m vs) Q No s
noncomputable abbrev VN (C : Cx) (n : Nat) (env : Env) (S : St) (m : List Value → Sem Value) (as : List AV) (P : AV → St → Prop) : Prop := GN C n env VR S m as P
noncomputable abbrev PN (C : Cx) (n : Nat) (env : Env) (S : St) (m : List Value → Sem Value) (as : List AV) (c : AV) : Prop := VN C n env S m as fun x S' => x = c ∧ S' = S
section
variable {C : Cx} {n : Nat} {env : Env} {S : St}
theorem GN.mono {α β : Type} {RR : Heap → List Addr → α → β → Prop} {m : List Value → Sem α} {a : List AV} {P P' : β → St → Prop} (h : GN C n env RR S m a P) (hp : ∀ b S', P b S' → P' b S') : GN C n env RR S m a P' :=
  fun A Y s₀ D s v Q ha R r q => h A Y s₀ D s v Q ha R r fun r s' b S' p => q r s' b S' (hp b S' p)
theorem EV.callB {id : String} {x : Str} {e : Expr} {es : List Expr} {p pos : Pos} {P : AV → St → Prop} (hf : PE C n env S (.Name x p) (.raw (.builtin id)))
    (h : EL C n env S pos (e :: es) fun l S₁ => VN C n env S₁ (fun vs => call (.builtin id) vs) l P)
    (he : starEach (e :: es) env = (false, eval e env) :: starEach es env := by rfl) (hplain : (backTo pos (starEach es env)).any (·.1) = false := by rfl) : EV C n env S (.Call (.Name x p) (e :: es) [] pos) P :=
  fun A Y s₀ D s Q ha R q => wpAny_Call_Name_kw (hf A Y s₀ D s _ ha R fun f s₁ a₁ S₁ p₁ R₁ K₁ r₁ => by
    obtain ⟨rfl, rfl⟩ := p₁
    refine VR.el_raw r₁ ?_
    refine PyProof.Rows.callWith_builtin1 ?_ he hplain
    exact h A Y s₀ D s₁ _ ha R₁ fun vs s₂ l S₂ p₂ R₂ K₂ r₂ => p₂ A Y s₀ D s₂ vs Q ha R₂ r₂ fun r s₃ b S₃ p₃ R₃ K₃ r₃ => q r s₃ b S₃ p₃ R₃ ((K₁.trans K₂).trans K₃) r₃)
theorem EV.callT1 {T : String} {x : Str} {e : Expr} {p pos : Pos} {P : AV → St → Prop} (hf : PE C n env S (.Name x p) (.raw (.type T)))
    (h : EV C n env S e fun a S₁ => V1 C n env S₁ (fun v => call (.type T) [v]) a P) (hs : starEach [e] env = [(false, eval e env)] := by rfl) : EV C n env S (.Call (.Name x p) [e] [] pos) P :=
  fun A Y s₀ D s Q ha R q => Call_name1 hs (hf A Y s₀ D s _ ha R fun f s₁ a₁ S₁ p₁ R₁ K₁ r₁ => by
    obtain ⟨rfl, rfl⟩ := p₁
    refine VR.el_raw r₁ ?_
    refine callWith_type1 ?_
    exact h A Y s₀ D s₁ _ ha R₁ fun v s₂ a S₂ p₂ R₂ K₂ r₂ => p₂ A Y s₀ D s₂ v Q ha R₂ r₂ fun r s₃ b S₃ p₃ R₃ K₃ r₃ => q r s₃ b S₃ p₃ R₃ ((K₁.trans K₂).trans K₃) r₃)
theorem EV.callF {f : Addr} {o : Obj} {fd : FuncData} {x : Str} {e : Expr} {es : List Expr} {p pos : Pos} {P : AV → St → Prop} (hf : PE C n env S (.Name x p) (.raw (.ref f))) (ho : C.K.lookup f = some o) (hd : o.data = .func fd)
    (h : EL C n env S pos (e :: es) fun l S₁ => VN C n env S₁ (fun vs => call (.ref f) vs) l P)
    (he : starEach (e :: es) env = (false, eval e env) :: starEach es env := by rfl) : EV C n env S (.Call (.Name x p) (e :: es) [] pos) P :=
  fun A Y s₀ D s Q ha R q => wpAny_Call_Name_kw (hf A Y s₀ D s _ ha R fun g s₁ a₁ S₁ p₁ R₁ K₁ r₁ => by
    obtain ⟨rfl, rfl⟩ := p₁
    refine VR.el_raw r₁ ?_
    refine callWith_function_kw (o := o) (fd := fd) ?_
    rw [he]
    refine evalArgs_plain ?_
    have h' := h A Y s₀ D s₁ (fun vs s₂ => (s₂.heap.get? f = some o ∧ o.data = .func fd) ∧ wpAny (model C.prog C.w) A (call (.ref f) vs) Q No s₂) ha R₁ fun vs s₂ l S₂ p₂ R₂ K₂ r₂ => ⟨⟨R₂.bs.K _ _ ho, hd⟩, p₂ A Y s₀ D s₂ vs Q ha R₂ r₂ fun r s₃ b S₃ p₃ R₃ K₃ r₃ => q r s₃ b S₃ p₃ R₃ ((K₁.trans K₂).trans K₃) r₃⟩
    rw [he] at h'
    exact h')
end
section
variable {C : Cx} (ok : C.Ok) {n : Nat} {env : Env} {S : St}
include ok
theorem sm0 {o : Expr} {name : Str} {apos pos : Pos} {x : Str} {c : AV} (ho : PE C n env S o (.str x))
    (h : ∀ (A : Around) (s : Shared) t (Q : Value → Shared → Prop), (∀ r s', SStp C.T [] s s' → (∀ X, VR s'.heap X r c) → Q r s') → MethodOnS C.prog C.w A No name (.str x t) pos [] Q s)
    (hbase : attributeBase o name env (eval o env) = eval o env := by rfl) (hline : (apos.endLine == pos.line) = true := by rfl) : PE C n env S (.Call (.Attribute o name apos) [] [] pos) c :=
  fun A Y s₀ D s Q ha R q => Call_method0 hbase hline (ho A Y s₀ D s _ ha R fun f s₁ a₁ S₁ p₁ R₁ K₁ r₁ => by
    obtain ⟨rfl, rfl⟩ := p₁
    refine VR.el_str r₁ fun _ => ?_
    exact h A s₁ _ Q fun r s' x rr => q r s' _ S₁ ⟨rfl, rfl⟩ (R₁.go ok x) (K₁.trans (Kp.go R₁ x)) (rr _))
theorem sm1 {o e : Expr} {name : Str} {apos pos : Pos} {x y : Str} {c : AV} (ho : PE C n env S o (.str x)) (he : PE C n env S e (.str y))
    (h : ∀ (A : Around) (s : Shared) t (a : Sem Value) (Q : Value → Shared → Prop), wpAny (model C.prog C.w) A a (fun v s₁ => ∃ u, v = .str y u ∧ ∀ r s', SStp C.T [] s₁ s' → (∀ X, VR s'.heap X r c) → Q r s') No s → MethodOnS C.prog C.w A No name (.str x t) pos [(false, a)] Q s)
    (hbase : attributeBase o name env (eval o env) = eval o env := by rfl) (hs : starEach [e] env = [(false, eval e env)] := by rfl) (hline : (apos.endLine == pos.line) = true := by rfl) : PE C n env S (.Call (.Attribute o name apos) [e] [] pos) c :=
  fun A Y s₀ D s Q ha R q => Call_method1 hbase hs hline (ho A Y s₀ D s _ ha R fun f s₁ a₁ S₁ p₁ R₁ K₁ r₁ => by
    obtain ⟨rfl, rfl⟩ := p₁
    refine VR.el_str r₁ fun _ => ?_
    refine h A s₁ _ _ Q (he A Y s₀ D s₁ _ ha R₁ fun v s₂ a₂ S₂ p₂ R₂ K₂ r₂ => ?_)
    obtain ⟨rfl, rfl⟩ := p₂
    refine VR.el_str r₂ fun _ => ?_
    exact ⟨_, rfl, fun r s' x rr => q r s' _ S₂ ⟨rfl, rfl⟩ (R₂.go ok x) ((K₁.trans K₂).trans (Kp.go R₂ x)) (rr _)⟩)
section
variable {o e : Expr} {apos pos : Pos} {x y : Str}
variable (hbase : ∀ name, attributeBase o name env (eval o env) = eval o env := by intro _; rfl) (hline : (apos.endLine == pos.line) = true := by rfl)
theorem PE.lower (ho : PE C n env S o (.str x)) (hz : Builtin.Str.tooLong (Txt.lower x).length = false)
    (hbase : attributeBase o "lower" env (eval o env) = eval o env := by rfl) (hline : (apos.endLine == pos.line) = true := by rfl) : PE C n env S (.Call (.Attribute o "lower" apos) [] [] pos) (.str (Txt.lower x)) :=
  sm0 ok ho (fun _ _ _ _ q => SB.lower hz (q _ _ (.toks ..) fun _ => .str ..)) hbase hline
theorem PE.upper (ho : PE C n env S o (.str x)) (hz : Builtin.Str.tooLong (Txt.upper x).length = false)
    (hbase : attributeBase o "upper" env (eval o env) = eval o env := by rfl) (hline : (apos.endLine == pos.line) = true := by rfl) : PE C n env S (.Call (.Attribute o "upper" apos) [] [] pos) (.str (Txt.upper x)) :=
  sm0 ok ho (fun _ _ _ _ q => SB.upper hz (q _ _ (.toks ..) fun _ => .str ..)) hbase hline
theorem PE.find (ho : PE C n env S o (.str x)) (he : PE C n env S e (.str y))
    (hbase : attributeBase o "find" env (eval o env) = eval o env := by rfl) (hs : starEach [e] env = [(false, eval e env)] := by rfl) (hline : (apos.endLine == pos.line) = true := by rfl) : PE C n env S (.Call (.Attribute o "find" apos) [e] [] pos) (.int (Txt.find x y)) :=
  sm1 ok ho he (fun _ _ _ _ _ q => SB.find (wpAny_mono q (fun _ _ ⟨u, e, z⟩ => ⟨_, u, e, z _ _ (.toks ..) fun _ => .int ..⟩) fun _ _ e => e)) hbase hs hline
theorem PE.rfind (ho : PE C n env S o (.str x)) (he : PE C n env S e (.str y))
    (hbase : attributeBase o "rfind" env (eval o env) = eval o env := by rfl) (hs : starEach [e] env = [(false, eval e env)] := by rfl) (hline : (apos.endLine == pos.line) = true := by rfl) : PE C n env S (.Call (.Attribute o "rfind" apos) [e] [] pos) (.int (Txt.rfind x y)) :=
  sm1 ok ho he (fun _ _ _ _ _ q => SB.rfind (wpAny_mono q (fun _ _ ⟨u, e, z⟩ => ⟨_, u, e, z _ _ (.toks ..) fun _ => .int ..⟩) fun _ _ e => e)) hbase hs hline
theorem PE.startswith (ho : PE C n env S o (.str x)) (he : PE C n env S e (.str y))
    (hbase : attributeBase o "startswith" env (eval o env) = eval o env := by rfl) (hs : starEach [e] env = [(false, eval e env)] := by rfl) (hline : (apos.endLine == pos.line) = true := by rfl) : PE C n env S (.Call (.Attribute o "startswith" apos) [e] [] pos) (.bool (Txt.startswith x y)) :=
  sm1 ok ho he (fun _ _ _ _ _ q => SB.startswith (wpAny_mono q (fun _ _ ⟨u, e, z⟩ => ⟨_, u, e, z _ _ (.refl ..) fun _ => .bool ..⟩) fun _ _ e => e)) hbase hs hline
theorem PE.index {i : Nat} {rest : List Nat} (ho : PE C n env S o (.str x)) (he : PE C n env S e (.str y)) (hi : Builtin.Str.occurrences x y 0 x.length 1 = i :: rest)
    (hbase : attributeBase o "index" env (eval o env) = eval o env := by rfl) (hs : starEach [e] env = [(false, eval e env)] := by rfl) (hline : (apos.endLine == pos.line) = true := by rfl) : PE C n env S (.Call (.Attribute o "index" apos) [e] [] pos) (.int i) :=
  sm1 ok ho he (fun _ _ _ _ _ q => SB.index (wpAny_mono q (fun _ _ ⟨u, e, z⟩ => ⟨_, u, e, i, rest, hi, z _ _ (.toks ..) fun _ => .int ..⟩) fun _ _ e => e)) hbase hs hline
end
theorem PE_from {o lo : Expr} {p pos : Pos} {x : Str} {i : Int} (ho : PE C n env S o (.str x)) (hi : PE C n env S lo (.int i)) (hz : x.length ≤ sizeLine)
    (hg : ∀ o' r, letTemporaryGo o o' r = pure () := by intros; with_unfolding_all rfl) : PE C n env S (.Subscript o (.Slice (some lo) none none p) pos) (.str (Txt.slice x (some i) none)) :=
  fun A Y s₀ D s Q ha R q => wpAny_Subscript_str_slice (ho A Y s₀ D s _ ha R fun v s₁ a₁ S₁ p₁ R₁ K₁ r₁ => by
    obtain ⟨rfl, rfl⟩ := p₁
    refine VR.el_str r₁ fun t => ?_
    ·
      rw [evalPart_some]
      refine hi A Y s₀ D s₁ _ ha R₁ fun v s₂ a₂ S₂ p₂ R₂ K₂ r₂ => ?_
      obtain ⟨rfl, rfl⟩ := p₂
      refine VR.el_int r₂ fun u => ?_
      ·
        rw [evalPart_none]
        exact wpAny_pure ⟨x, t, some (i, u), none, rfl, rfl, rfl, post_val_or_str ⟨Nat.le_trans (Txt.slice_le x _ _) hz, fun t' k => q _ _ _ S₂ ⟨rfl, rfl⟩ ((R₂.go ok (.alloc ..)).go ok (.toks ..)) ((K₁.trans K₂).trans (Kp.go R₂ ((SStp.alloc ..).trans0 (.toks ..)))) (.str ..)⟩⟩) hg
theorem PE_to {o hi : Expr} {p pos : Pos} {x : Str} {j : Int} (ho : PE C n env S o (.str x)) (hj : PE C n env S hi (.int j)) (hz : x.length ≤ sizeLine)
    (hg : ∀ o' r, letTemporaryGo o o' r = pure () := by intros; with_unfolding_all rfl) : PE C n env S (.Subscript o (.Slice none (some hi) none p) pos) (.str (Txt.slice x none (some j))) :=
  fun A Y s₀ D s Q ha R q => wpAny_Subscript_str_slice (ho A Y s₀ D s _ ha R fun v s₁ a₁ S₁ p₁ R₁ K₁ r₁ => by
    obtain ⟨rfl, rfl⟩ := p₁
    refine VR.el_str r₁ fun t => ?_
    ·
      rw [evalPart_none]
      refine wpAny_pure ?_
      rw [evalPart_some]
      refine hj A Y s₀ D s₁ _ ha R₁ fun v s₂ a₂ S₂ p₂ R₂ K₂ r₂ => ?_
      obtain ⟨rfl, rfl⟩ := p₂
      refine VR.el_int r₂ fun u => ?_
      ·
        exact ⟨x, t, none, some (j, u), rfl, rfl, rfl, post_val_or_str ⟨Nat.le_trans (Txt.slice_le x _ _) hz, fun t' k => q _ _ _ S₂ ⟨rfl, rfl⟩ ((R₂.go ok (.alloc ..)).go ok (.toks ..)) ((K₁.trans K₂).trans (Kp.go R₂ ((SStp.alloc ..).trans0 (.toks ..)))) (.str ..)⟩⟩) hg
end
end Mine
end
section
open PySem PySem.W PySem.Calls PyProof.Rows
namespace Mine
noncomputable def NX (C : Cx) (n : Nat) (env : Env) (rest : List Stmt) (P : AF → St → Prop) (f : AF) (S : St) : Prop :=
  match f with | .next => EX C n env S rest P | f => P f S
section
variable {C : Cx} {n : Nat} {env : Env} {S : St}
theorem EX.nil {P : AF → St → Prop} (h : P .next S) : EX C n env S [] P := fun _ _ _ _ _ _ _ R q => wpAny_execs_nil (q _ _ _ _ h R .refl .next)
theorem EX.cons {st : Stmt} {rest : List Stmt} {P : AF → St → Prop} (h : E1 C n env S st (NX C n env rest P)) : EX C n env S (st :: rest) P :=
  fun A Y s₀ D s Q ha R q => wpAny_execs_cons (h A Y s₀ D s _ ha R fun f s₁ b S₁ p R₁ K₁ r => by
    cases r with
    | next => exact p A Y s₀ D s₁ Q ha R₁ fun f s₂ b S₂ p₂ R₂ K₂ r₂ => q f s₂ b S₂ p₂ R₂ (K₁.trans K₂) r₂
    | brk => exact q _ _ _ _ p R₁ K₁ .brk
    | cont => exact q _ _ _ _ p R₁ K₁ .cont
    | ret r => exact q _ _ _ _ p R₁ K₁ (.ret r))
theorem E1.ret {e : Expr} {pos : Pos} {P : AF → St → Prop} (h : EV C n env S e fun a S₁ => P (.ret a) S₁) : E1 C n env S (.Return (some e) pos) P :=
  fun A Y s₀ D s Q ha R q => wpAny_Return_some (h A Y s₀ D s _ ha R fun v s₁ a S₁ p R₁ K₁ r => q _ _ _ _ p R₁ K₁ (.ret r))
theorem E1.ite {t : Expr} {x y : List Stmt} {pos : Pos} {P : AF → St → Prop} (h : ET C n env S t fun b S₁ => if b then EX C n env S₁ x P else EX C n env S₁ y P) : E1 C n env S (.If t x y pos) P :=
  fun A Y s₀ D s Q ha R q => wpAny_If (h A Y s₀ D s _ ha R fun r s₁ b S₁ p R₁ K₁ e => by
    have e : r = b := e
    subst e
    cases r
    · exact p A Y s₀ D s₁ _ ha R₁ fun r s₂ b S₂ p₂ R₂ K₂ e => q r s₂ b S₂ p₂ R₂ (K₁.trans K₂) e
    · exact p A Y s₀ D s₁ _ ha R₁ fun r s₂ b S₂ p₂ R₂ K₂ e => q r s₂ b S₂ p₂ R₂ (K₁.trans K₂) e)
theorem E1.expr {e : Expr} {pos : Pos} {P : AF → St → Prop} (h : EV C n env S e fun _ S₁ => P .next S₁)
    (hi : interactive env = false := by rfl) (hs : swapsWith e none pos.line env = pure false := by rfl) : E1 C n env S (.Expr e pos) P :=
  fun A Y s₀ D s Q ha R q => by
    show wpAny _ _ (exec (.Expr e pos) env) _ _ _
    rw [exec_Expr env e pos hi hs]
    exact wpAny_bind (wpAny_standAt (wpAny_bind (h A Y s₀ D s _ ha R fun v s₁ a S₁ p R₁ K₁ r => wpAny_dropValue (q _ _ _ _ p R₁ K₁ .next))))
end
section
variable {C : Cx} (ok : C.Ok) {n : Nat} {env : Env} {S : St}
include ok
omit ok in
theorem SStp.bornBut {T : List Addr} {s : Shared} {h' : Heap} (hb : Heap.ExtBut s.heap.objs.size s.heap h') (hT : s.heap.objs.size ∉ T) : SStp T [] s { s with heap := h' } :=
  ⟨(Stp.extBut hb hT).fresh (fun b hb => by have e : b = s.heap.objs.size := by simpa using hb
                                            subst e; exact new_none _), rfl, rfl, id⟩
theorem store (Y : List Addr) {x : Str} {A : Around} {s₀ s : Shared} {D : List Addr} {v : Value} {av : AV} {Q : Unit → Shared → Prop} (hk : env.kindOf x = some .local ∨ Own env x ∧ ∃ c, env.cells.lookup x = some c)
    (R : Rel C Y s₀ D env S s) (r : VR s.heap (Xo C Y env S) v av) (q : ∀ s', Rel C Y s₀ D env ⟨ins x av S.μ, S.M⟩ s' → Kp C Y env S s ⟨ins x av S.μ, S.M⟩ s' → Q () s') : wpAny (model C.prog C.w) A (storeName env x v) Q No s := by
  rcases hk with hk | ⟨hk, c, hc⟩
  · obtain ⟨m, hn, hm⟩ := R.fr.loc
    refine wpAny_storeName_local hk hn (fun h' hn' hs => ?_) (by rw [R.ev.kind]; rfl)
    have st : SStp C.T [env.locals] s { s with heap := h', toks := s.toks + 1 } := ⟨.sameBut hs (R.tn (List.mem_append_left _ (fa_loc env))), rfl, rfl, id⟩
    obtain ⟨R', K'⟩ := R.setLocal ok (s' := { s with heap := h', toks := s.toks + 1 }) hk r hm hn' st
    exact q _ R' K'
  · obtain ⟨ov, hv⟩ := R.fr.cells x c hk hc
    refine wpAny_storeName_cell R.ev.kind hk.1 hc hv (fun h' hc' hs => ?_)
    have st : SStp C.T [c] s { s with heap := h' } := ⟨.sameBut hs (R.tn (List.mem_append_left _ (mem_fa_cell hk hc))), rfl, rfl, id⟩
    obtain ⟨R', K'⟩ := R.setCell ok (s' := { s with heap := h' }) hk hc r hc' st
    exact q _ R' K'
theorem E1.assign {x : Str} {px pos : Pos} {e : Expr} {P : AF → St → Prop} (hk : env.kindOf x = some .local ∨ Own env x ∧ ∃ c, env.cells.lookup x = some c)
    (h : EV C n env S e fun a S₁ => P .next ⟨ins x a S₁.μ, S₁.M⟩)
    (hs : swapsWith e (some (.Name x px)) pos.line env = pure false := by rfl) : E1 C n env S (.Assign [.Name x px] e pos) P :=
  fun A Y s₀ D s Q ha R q => wpAny_Assign_Name (h A Y s₀ D s _ ha R fun v s₁ a S₁ p R₁ K₁ r => store ok Y hk R₁ r fun s' R' K' => q _ _ _ _ p R' (K₁.trans K') .next) hs
noncomputable def TG (C : Cx) (n : Nat) (env : Env) (S : St) (t : Expr) (a : AV) (P : St → Prop) : Prop :=
  ∀ A Y s₀ D s v Q, AOk n A → Rel C Y s₀ D env S s → VR s.heap (Xo C Y env S) v a → (∀ s' S', P S' → Rel C Y s₀ D env S' s' → Kp C Y env S s S' s' → Q () s') → wpAny (model C.prog C.w) A (assign t env v) Q No s
theorem TG.name {x : Str} {p : Pos} {a : AV} {P : St → Prop} (hk : env.kindOf x = some .local ∨ Own env x ∧ ∃ c, env.cells.lookup x = some c) (h : P ⟨ins x a S.μ, S.M⟩) : TG C n env S (.Name x p) a P :=
  fun A Y s₀ D s v Q ha R r q => wpAny_assign_Name (store ok Y hk R r fun s' R' K' => q _ _ h R' K')
theorem TG.pair {x y : Str} {p p' pos : Pos} {k : Nat} {a b : AV} {P : St → Prop} (hx : env.kindOf x = some .local ∨ Own env x ∧ ∃ c, env.cells.lookup x = some c) (hy : env.kindOf y = some .local ∨ Own env y ∧ ∃ c, env.cells.lookup y = some c)
    (h : P ⟨ins y b (ins x a S.μ), S.M⟩) : TG C n env S (.Tuple [.Name x p, .Name y p'] k pos) (.tup [a, b]) P :=
  fun A Y s₀ D s v Q ha R r q => by
    refine VR.el_tup r fun _ _ _ e nx rs => ?_
    ·
      rename_i T vs kk
      refine assign_Tuple_tuple ha.handled (isTup_of e) (by have := rs.length; simp at this; simp [assignEach, this]) (by rfl) fun h' hb => ?_
      have st : SStp C.T [] s { s with heap := h' } := .bornBut hb fun q => (R.bs.liveT q).ne (new_none _) rfl
      have R₁ := R.go ok st
      have K₁ := Kp.go R st
      refine VRs.el_cons rs fun _ _ r1 rs => ?_
      ·
        refine VRs.el_cons rs fun _ _ r2 rs => ?_
        ·
          refine VRs.el_nil rs ?_
          exact assignInOrder_cons (wpAny_assign_Name (store ok Y hx R₁ (K₁ _ _ r1) fun s₂ R₂ K₂ => assignInOrder_cons (wpAny_assign_Name (store ok Y hy R₂ (K₂ _ _ (K₁ _ _ r2)) fun s₃ R₃ K₃ => assignInOrder_nil (q _ _ h R₃ ((K₁.trans K₂).trans K₃))))))
end
end Mine
end
section
open PySem PySem.W PySem.Calls PyProof.Rows
set_option tactic.hygienic false
namespace Mine
theorem toNo {α : Type} {M : Model} {A : Around} {m : Sem α} {Q : α → Shared → Prop} {E : Value → Shared → Prop} {s : Shared} (h : wpAny M A m Q No s) : wpAny M A m Q E s := wpAny_mono h (fun _ _ x => x) fun _ _ x => x.elim
theorem toNo' {α : Type} {M : Model} {A : Around} {m : Sem α} {Q Q' : α → Shared → Prop} {E : Value → Shared → Prop} {s : Shared} (h : wpAny M A m Q No s) (q : ∀ a s, Q a s → Q' a s) : wpAny M A m Q' E s := wpAny_mono h q fun _ _ x => x.elim
section
variable {C : Cx} {Y W D D₁ : List Addr} {s₀ s₁ s s' : Shared} {env : Env} {S S₀ : St}
theorem Rel.deadNot (R : Rel C Y s₀ D env S s) {b : Addr} (hb : s.heap.get? b = none) : ¬ C.Old b ∧ b ∉ C.T ∧ b ∉ fa env ++ (feet S.M ++ Y) ∧ (b ∈ D ∨ s₀.heap.get? b = none) := by
  have hT : b ∉ C.T := fun q => (R.bs.liveT q).ne hb rfl
  refine ⟨fun q => (R.bs.live q).ne hb rfl, hT, fun q => (R.hi b q).2.2.ne hb rfl, ?_⟩
  by_cases hd : b ∈ D
  · exact .inl hd
  · cases e : s₀.heap.get? b with
    | none => exact .inr rfl
    | some o => rw [R.st.heap.keep b o e hd hT] at hb; cases hb
theorem mem_Xo {a : Addr} : a ∈ Xo C Y env S ↔ a ∈ C.T ∨ a ∈ fa env ++ feet S.M ∨ a ∈ Y := by
  unfold Xo; simp only [List.mem_append, or_assoc]
theorem subY {h : Heap} (hw : ∀ b ∈ W, h.get? b = none) : ∀ a o, h.get? a = some o → a ∉ Xo C Y env S → a ∉ Xo C (W ++ Y) env S := fun a o e n q => by
  rw [mem_Xo] at n q
  rcases q with q | q | q
  · exact n (.inl q)
  · exact n (.inr (.inl q))
  · rcases List.mem_append.mp q with q | q
    · rw [hw a q] at e; cases e
    · exact n (.inr (.inr q))
theorem unY {h : Heap} : ∀ a o, h.get? a = some o → a ∉ Xo C (W ++ Y) env S → a ∉ Xo C Y env S := fun a o e n q => by
  rw [mem_Xo] at n q
  rcases q with q | q | q
  · exact n (.inl q)
  · exact n (.inr (.inl q))
  · exact n (.inr (.inr (List.mem_append_right _ q)))
theorem Rel.extY (ok : C.Ok) (R : Rel C Y s₀ D env S s) (x : SStp C.T [] s s') (hw : ∀ b ∈ W, s.heap.get? b = none) (lw : ∀ b ∈ W, Live s'.heap b) :
    Rel C (W ++ Y) s' (W ++ (fa env ++ feet S.M)) env S s' ∧ ∀ v av, VR s.heap (Xo C Y env S) v av → VR s'.heap (Xo C (W ++ Y) env S) v av := by
  have R' := R.go ok x
  have z : ∀ a ∈ ([] : List Addr), a ∈ Xo C (W ++ Y) env S := fun _ h => nomatch h
  have hT : ∀ a ∈ C.T, a ∈ Xo C (W ++ Y) env S := fun a h => List.mem_append_left _ h
  refine ⟨⟨R'.bs, R.ev, (R.fr.sub (subY hw)).stp x.heap z hT (fun b hb => ⟨fun h => (nomatch h), R.tn (List.mem_append_left _ hb)⟩) (fun y c k e => ⟨fun h => (nomatch h), R.freeT ok k e⟩), fun y c k e => (R.free y c k e).imp (List.mem_append_right _) id,
    fun p hp => ((R.ob p hp).sub (subY hw)).stp x.heap z hT fun b hb => ⟨fun h => (nomatch h), R.tn (List.mem_append_right _ (List.mem_append_left _ (mem_feet hp hb)))⟩, R.nd, fun a ha => ?_, fun a ha => ?_, .refl .., fun a ha => .inl (List.mem_append_right _ ha)⟩,
    fun v av r => (r.sub (subY hw)).stp x.heap z hT⟩
  · rcases List.mem_append.mp ha with h | h
    · exact fun q => (R.deadNot (hw a h)).2.2.1 (by rw [← List.append_assoc]; exact List.mem_append_left _ q)
    · exact R.dis a h
  · have : a ∈ W ∨ a ∈ fa env ++ (feet S.M ++ Y) := by
      simp only [List.mem_append] at ha ⊢
      rcases ha with h | h | h | h
      · exact .inr (.inl h)
      · exact .inr (.inr (.inl h))
      · exact .inl h
      · exact .inr (.inr (.inr h))
    rcases this with h | h
    · exact ⟨(R.deadNot (hw a h)).1, (R.deadNot (hw a h)).2.1, lw a h⟩
    · exact R'.hi a h
theorem Rel.turnY (ok : C.Ok) {V : List Addr} (R : Rel C Y s₁ D₁ env S s) (st : SStp C.T V s s') (hVY : ∀ a ∈ V, a ∈ Y) (hW : ∀ a ∈ V, a ∈ D₁) (lw : ∀ b ∈ V, Live s'.heap b)
    (hf : ∀ x c, Lent env x → env.cells.lookup x = some c → c ∉ V) : Rel C Y s₁ D₁ env S s' ∧ Kp C Y env S s S s' := by
  have hX : ∀ a ∈ V, a ∈ Xo C Y env S := fun a h => mem_Xo.mpr (.inr (.inr (hVY a h)))
  have nw : ∀ a ∈ fa env ++ feet S.M, a ∉ V := fun a ha q => R.dis a (hVY a q) ha
  refine ⟨⟨R.bs.stp ok st.heap fun b hb => (R.hi b (List.mem_append_right _ (List.mem_append_right _ (hVY b hb)))).1, R.ev,
    R.fr.stp st.heap hX R.hT (fun b hb => ⟨nw b (List.mem_append_left _ hb), R.tn (List.mem_append_left _ hb)⟩) (fun x c k e => ⟨hf x c k e, R.freeT ok k e⟩), R.free,
    fun p hp => (R.ob p hp).stp st.heap hX R.hT fun b hb => ⟨nw b (List.mem_append_right _ (mem_feet hp hb)), R.tn (List.mem_append_right _ (List.mem_append_left _ (mem_feet hp hb)))⟩, R.nd, R.dis, fun a ha => ⟨(R.hi a ha).1, (R.hi a ha).2.1, ?_⟩,
    R.st.trans st fun a ha => .inl (hW a ha), R.own⟩, fun v av r => r.stp st.heap hX R.hT⟩
  by_cases h : a ∈ V
  · exact lw a h
  · obtain ⟨o, e⟩ := (R.hi a ha).2.2
    exact ⟨o, st.heap.keep a o e h (R.hi a ha).2.1⟩
theorem Rel.backY (ok : C.Ok) (R₀ : Rel C Y s₀ D env S₀ s) (x : SStp C.T [] s s₁) (hw : ∀ b ∈ W, s.heap.get? b = none) (R : Rel C (W ++ Y) s₁ (W ++ (fa env ++ feet S₀.M)) env S s') : Rel C Y s₀ D env S s' := by
  have fr : ∀ a, a ∈ W ++ (fa env ++ feet S₀.M) → a ∈ D ∨ s₀.heap.get? a = none := fun a ha => by
    rcases List.mem_append.mp ha with h | h
    · exact (R₀.deadNot (hw a h)).2.2.2
    · exact R₀.own a h
  refine ⟨R.bs, R.ev, R.fr.sub unY, R₀.free, fun p hp => (R.ob p hp).sub unY, R.nd, fun a ha => R.dis a (List.mem_append_right _ ha), fun a ha => R.hi a ?_, ?_, fun a ha => ?_⟩
  · simp only [List.mem_append] at ha ⊢
    rcases ha with h | h | h
    · exact .inl h
    · exact .inr (.inl h)
    · exact .inr (.inr (.inr h))
  · exact (R₀.st.trans0 x).trans R.st fun a ha => fr a ha
  · rcases R.own a ha with h | h
    · exact fr a h
    · by_cases hd : a ∈ D
      · exact .inl hd
      · cases e : s₀.heap.get? a with
        | none => exact .inr rfl
        | some o =>
          have hT : a ∉ C.T := R.tn (by rw [← List.append_assoc]; exact List.mem_append_left _ ha)
          rw [x.heap.keep a o (R₀.st.heap.keep a o e hd hT) (fun q => nomatch q) hT] at h; cases h
theorem Rel.freeW (R : Rel C Y s₀ D env S s) (hw : ∀ b ∈ W, s.heap.get? b = none) : ∀ x c, Lent env x → env.cells.lookup x = some c → c ∉ W := fun x c k e q => by
  rcases R.free x c k e with h | h
  · exact (R.hi c (List.mem_append_right _ (List.mem_append_right _ h))).2.2.ne (hw c q) rfl
  · exact (R.bs.live h).ne (hw c q) rfl
theorem Rel.endY (ok : C.Ok) (R₀ : Rel C Y s₀ D env S₀ s) (x : SStp C.T [] s s₁) (hw : ∀ b ∈ W, s.heap.get? b = none) {s₂ : Shared} (R : Rel C (W ++ Y) s₁ (W ++ (fa env ++ feet S₀.M)) env S s') (st : SStp C.T W s' s₂) :
    Rel C Y s₀ D env S s₂ ∧ ∀ v av, VR s'.heap (Xo C (W ++ Y) env S) v av → VR s₂.heap (Xo C Y env S) v av := by
  have B := R₀.backY ok x hw R
  have hX : ∀ a ∈ W, a ∈ Xo C (W ++ Y) env S := fun a h => mem_Xo.mpr (.inr (.inr (List.mem_append_left _ h)))
  have nw : ∀ a ∈ fa env ++ feet S.M, a ∉ W := fun a ha q => R.dis a (List.mem_append_left _ q) ha
  have ny : ∀ a ∈ Y, a ∉ W := fun a ha q => (R₀.hi a (List.mem_append_right _ (List.mem_append_right _ ha))).2.2.ne (hw a q) rfl
  refine ⟨⟨R.bs.stp ok st.heap fun b hb => (R₀.deadNot (hw b hb)).1, R.ev,
    (R.fr.stp st.heap hX R.hT (fun b hb => ⟨nw b (List.mem_append_left _ hb), R.tn (List.mem_append_left _ hb)⟩) (fun y c k e => ⟨R₀.freeW hw y c k e, R₀.freeT ok k e⟩)).sub unY, R₀.free,
    fun p hp => ((R.ob p hp).stp st.heap hX R.hT fun b hb => ⟨nw b (List.mem_append_right _ (mem_feet hp hb)), R.tn (List.mem_append_right _ (List.mem_append_left _ (mem_feet hp hb)))⟩).sub unY, R.nd, B.dis, fun a ha => ⟨(B.hi a ha).1, (B.hi a ha).2.1, ?_⟩,
    B.st.trans st fun b hb => (R₀.deadNot (hw b hb)).2.2.2, B.own⟩, fun v av r => (r.stp st.heap hX R.hT).sub unY⟩
  obtain ⟨o, e⟩ := (B.hi a ha).2.2
  refine ⟨o, st.heap.keep a o e ?_ (B.hi a ha).2.1⟩
  rw [← List.append_assoc] at ha
  rcases List.mem_append.mp ha with h | h
  · exact nw a h
  · exact ny a h
end
noncomputable def Iter (C : Cx) (n : Nat) (env : Env) (S : St) (a : AV) (l : List AV) : Prop :=
  ∀ A Y s₀ D s v Q, AOk n A → Rel C Y s₀ D env S s → VR s.heap (Xo C Y env S) v a →
    (∀ I fp wr P St s', SStp C.T [] s s' → Walks C.prog C.w A I fp wr l.length P St → St 0 s'.heap → (∀ b ∈ fp, b ∉ fa env ++ feet S.M ∧ b ∉ C.T ∧ Live s'.heap b) → (∀ b ∈ wr, s.heap.get? b = none) →
      (∀ i h, St i h → ∀ b ∈ wr, Live h b) → (∀ i v, P i v → ∃ a, l[i]? = some a ∧ VR s'.heap (Xo C (wr ++ Y) env S) v a) →
      (∀ (elts : List Expr) k pos i (s : Shared) v (Q : Unit → Shared → Prop), St i s.heap → Q () s → wpAny (model C.prog C.w) A (letOwnedTupleGo (.Tuple elts k pos) (.ref I) v) Q No s) → Q (.ref I) s') →
    wpAny (model C.prog C.w) A (pyIter v) Q No s
inductive Plain : Expr → Prop
  | name (x : Str) (p : Pos) : Plain (.Name x p)
  | tuple (es : List Expr) (k : Nat) (p : Pos) : Plain (.Tuple es k p)
noncomputable def Le (S S' : St) : Prop := S.M = S'.M ∧ ∀ x av, S.μ.lookup x = some av → S'.μ.lookup x = some av
theorem Le.pre {μ ν : List (Str × AV)} {M : List (Addr × AO)} : Le ⟨μ, M⟩ ⟨μ ++ ν, M⟩ := ⟨rfl, fun x av h => by
  show (μ ++ ν).lookup x = some av
  rw [List.lookup_append, show μ.lookup x = some av from h]; rfl⟩
theorem Rel.le {C : Cx} {Y D : List Addr} {s₀ s : Shared} {env : Env} {S S' : St} (h : Le S S') (R : Rel C Y s₀ D env S' s) : Rel C Y s₀ D env S s := by
  obtain ⟨μ, M⟩ := S
  obtain ⟨e, q⟩ := h
  have e : M = S'.M := e
  subst e
  exact R.weak q
theorem Kp.le {C : Cx} {Y : List Addr} {s s' : Shared} {env : Env} {S S' S'' : St} (h : Le S'' S') (K : Kp C Y env S s S' s') : Kp C Y env S s S'' s' := fun v av r => by
  have := K v av r
  unfold Xo at this ⊢
  rw [h.1]; exact this
noncomputable def Turn (Inv : St → Prop) (P : AF → St → Prop) (f : AF) (S : St) : Prop := match f with
  | .next | .cont => ∃ S', Le S' S ∧ Inv S'
  | .brk => P .next S
  | .ret v => P (.ret v) S
section
variable {C : Cx} (ok : C.Ok) {n : Nat} {env : Env} {S : St}
include ok
theorem for_core {target : Expr} {body : List Stmt} {l : List AV} {P : AF → St → Prop} {I : Addr} {fp wr : List Addr} {St : Nat → Heap → Prop} {A : Around} {Y D : List Addr} {s₀ s₁ s₂ : Shared} {S₁ : Mine.St} {Q : Flow → Shared → Prop} (Inv : Nat → Mine.St → Prop) (ha : AOk n A) (R₁ : Rel C Y s₀ D env S₁ s₁)
    (x₂ : SStp C.T [] s₁ s₂) (hst : St 0 s₂.heap) (hfp : ∀ b ∈ fp, b ∉ fa env ++ feet S₁.M ∧ b ∉ C.T ∧ Live s₂.heap b) (hw : ∀ b ∈ wr, s₁.heap.get? b = none) (lw : ∀ i h, St i h → ∀ b ∈ wr, Live h b)
    (frame : ∀ i h h', St i h → (∀ b ∈ fp, ∀ o, h.get? b = some o → h'.get? b = some o) → St i h') (inv0 : Inv 0 S₁)
    (item : ∀ i S' s' (K : Value → Shared → Prop), i < l.length → St i s'.heap → (∀ v av, VR s₂.heap (Xo C (wr ++ Y) env S₁) v av → VR s'.heap (Xo C (wr ++ Y) env S') v av) → Inv i S' →
      (∀ v h' tk, St (i + 1) h' → (∀ b o, b ∉ wr → s'.heap.get? b = some o → h'.get? b = some o) →
        (∀ Q', Rel C (wr ++ Y) { s' with heap := h', toks := tk } (fa env ++ feet S'.M) env S' { s' with heap := h', toks := tk } → Kp C (wr ++ Y) env S' s' S' { s' with heap := h', toks := tk } →
          (∀ s₄ S₄, EX C n env S₄ body (Turn (Inv (i + 1)) P) → Rel C (wr ++ Y) { s' with heap := h', toks := tk } (fa env ++ feet S'.M) env S₄ s₄ → Kp C (wr ++ Y) env S' { s' with heap := h', toks := tk } S₄ s₄ → Q' () s₄) →
          wpAny (model C.prog C.w) A (assign target env v) Q' No { s' with heap := h', toks := tk }) → K v { s' with heap := h', toks := tk }) →
      wpAny (model C.prog C.w) A (pyNext (.ref I)) (fun r s => ∃ v, r = some v ∧ wpAny (model C.prog C.w) A (letOwnedTupleGo target (.ref I) v) (fun _ s => K v s) No s) No s')
    (done : ∀ (s' : Shared) (Q : Option Value → Shared → Prop), St l.length s'.heap → (∀ h' tk, (∀ b o, b ∉ wr → s'.heap.get? b = some o → h'.get? b = some o) → Q none { s' with heap := h', toks := tk }) → wpAny (model C.prog C.w) A (pyNext (.ref I)) Q No s')
    (fin : ∀ S₁, Inv l.length S₁ → P .next S₁)
    (q : ∀ f s' b S', P b S' → Rel C Y s₀ D env S' s' → Kp C Y env S₁ s₁ S' s' → FR s'.heap (Xo C Y env S') f b → Q f s') :
    codeAny (model C.prog C.w) A (.forLoop target (.ref I) body [] env) (fun r s' => match r with | .ok f => Q f s' | .error e => cameBackBy (model C.prog C.w) A env No e s') s₂ := by
  obtain ⟨R₂, K₂⟩ := R₁.extY ok x₂ hw (lw 0 _ hst)
  have step : ∀ {s' : Shared} {h' : Heap} {tk : Nat}, (∀ b o, b ∉ wr → s'.heap.get? b = some o → h'.get? b = some o) → SStp C.T wr s' { s' with heap := h', toks := tk } := fun hk => ⟨⟨fun a o e nw _ => hk a o nw e, fun a ha vs e tr => ⟨vs, by
    have : a ∉ wr := fun q => (R₁.bs.liveT ha).ne (hw a q) rfl
    exact hk a _ this e, tr, #[], by simp⟩⟩, rfl, rfl, id⟩
  obtain ⟨J, hJ⟩ : ∃ J : Nat → Shared → Prop, J = fun k s' => ∃ i S', k = l.length + 1 - i ∧ i ≤ l.length ∧ Rel C (wr ++ Y) s₂ (wr ++ (fa env ++ feet S₁.M)) env S' s' ∧ Kp C (wr ++ Y) env S₁ s₂ S' s' ∧ St i s'.heap ∧ Inv i S' := ⟨_, rfl⟩
  have mk : ∀ i S' s', i ≤ l.length → Rel C (wr ++ Y) s₂ (wr ++ (fa env ++ feet S₁.M)) env S' s' → Kp C (wr ++ Y) env S₁ s₂ S' s' → St i s'.heap → Inv i S' → J (l.length + 1 - i) s' := fun i S' s' a b c d e => by
    rw [hJ]; exact ⟨i, S', rfl, a, b, c, d, e⟩
  refine codeAny_forLoop_any J ?_ (l.length + 1) (mk 0 S₁ _ (Nat.zero_le _) R₂ .refl hst inv0)
  intro k s' jk
  rw [hJ] at jk
  obtain ⟨i, S', rfl, hi, R', K', hst', inv⟩ := jk
  have back : ∀ {S'' s''}, Rel C (wr ++ Y) s₂ (wr ++ (fa env ++ feet S₁.M)) env S'' s'' → Kp C (wr ++ Y) env S₁ s₂ S'' s'' → Rel C Y s₀ D env S'' s'' ∧ Kp C Y env S₁ s₁ S'' s'' := fun R' K' =>
    ⟨R₁.backY ok x₂ hw R', fun v av r => (K' v av (K₂ v av r)).sub unY⟩
  by_cases hlt : i < l.length
  · have main : wpAny (model C.prog C.w) A (pyNext (.ref I)) (fun r s => ∃ v, r = some v ∧ wpAny (model C.prog C.w) A (letOwnedTupleGo target (.ref I) v) (fun _ s => wpAny (model C.prog C.w) A (assign target env v) (fun _ s₄ => wpAny (model C.prog C.w) A (execs body env) (fun f s₅ => match f with
          | .next | .cont => ∃ m, m < l.length + 1 - i ∧ J m s₅
          | .brk => Q .next s₅
          | .ret v => Q (.ret v) s₅) No s₄) No s) No s) No s' := by
      refine item i S' s' _ hlt hst' (fun v av r => K' v av r) inv fun v h' tk hst1 hk asg => ?_
      obtain ⟨R3, K3⟩ := R'.turnY ok (step hk) (fun a h => List.mem_append_left _ h) (fun a h => List.mem_append_left _ h) (lw _ _ hst1) (R₁.freeW hw)
      refine asg _ ⟨R3.bs, R3.ev, R3.fr, R3.free, R3.ob, R3.nd, R3.dis, R3.hi, .refl .., fun a h => .inl h⟩ K3 fun s₄ S₄ p₄ R₄ K₄ => ?_
      refine p₄ A _ _ _ s₄ _ ha R₄ fun f s₅ b S₅ p₅ R₅ K₅ rf => ?_
      have Kall : Kp C (wr ++ Y) env S₁ s₂ S₅ s₅ := ((K'.trans K3).trans K₄).trans K₅
      have Rm : Rel C (wr ++ Y) s₂ (wr ++ (fa env ++ feet S₁.M)) env S₅ s₅ :=
        ⟨R₅.bs, R₅.ev, R₅.fr, R₅.free, R₅.ob, R₅.nd, R₅.dis, R₅.hi, R3.st.trans R₅.st (fun b hb => R3.own b hb), fun b hb => (R₅.own b hb).elim (fun z => R3.own b z) fun z => (R3.deadNot z).2.2.2⟩
      have again : ∀ S₆, Le S₆ S₅ → Inv (i + 1) S₆ → ∃ m, m < l.length + 1 - i ∧ J m s₅ := fun S₆ le h6 => ⟨l.length + 1 - (i + 1), by lia, mk (i + 1) S₆ _ hlt (Rm.le le) (Kall.le le) (by
        refine frame _ _ _ hst1 (fun b hb o e => R₅.st.heap.keep b o e (fun q => ?_) (hfp b hb).2.1)
        by_cases hbw : b ∈ wr
        · exact R'.dis b (List.mem_append_left _ hbw) q
        · refine (R'.own b q).elim (fun z => (List.mem_append.mp z).elim hbw (hfp b hb).1) fun z => (hfp b hb).2.2.ne z rfl) h6⟩
      obtain ⟨Ra, Ka⟩ := back Rm Kall
      cases rf with
      | next => obtain ⟨S₆, le, h6⟩ := p₅; exact again S₆ le h6
      | cont => obtain ⟨S₆, le, h6⟩ := p₅; exact again S₆ le h6
      | brk => exact q _ _ _ _ p₅ Ra Ka .next
      | ret rv => exact q _ _ _ _ p₅ Ra Ka (.ret (rv.sub unY))
    refine toNo' main fun r s z => ?_
    obtain ⟨v, rfl, z⟩ := z
    exact toNo' z fun _ _ z => toNo' z fun _ _ z => toNo' z fun f _ z => by cases f <;> exact z
  · have hin : i = l.length := by lia
    subst hin
    refine toNo' (done s' _ hst' fun h' tk hk => ?_) fun r s z => z
    refine wpAny_execs_nil ?_
    obtain ⟨Ra, Ka⟩ := R₁.endY ok x₂ hw R' (step hk)
    exact q _ _ _ _ (fin S' inv) Ra (fun v av r => Ka _ _ (K' v av (K₂ v av r))) .next
theorem E1_for {target iter : Expr} {body : List Stmt} {pos : Pos} {l : List AV} {P : AF → St → Prop} (Inv : Nat → St → Prop) (ht : Plain target)
    (h : EV C n env S iter fun a S₁ => Iter C n env S₁ a l ∧ Inv 0 S₁)
    (turn : ∀ i S₁ x, l[i]? = some x → Inv i S₁ → TG C n env S₁ target x fun S₂ => EX C n env S₂ body (Turn (Inv (i + 1)) P))
    (fin : ∀ S₁, Inv l.length S₁ → P .next S₁)
    (hs : ∀ x, foldedSetIterable iter env x = pure x := by intro _; rfl) : E1 C n env S (.For target iter body [] pos) P := by
  intro A Y s₀ D s Q ha R q
  refine wpAny_For (hs := hs) (h A Y s₀ D s _ ha R fun v s₁ a S₁ p R₁ K₁ r => p.1 A Y s₀ D s₁ v _ ha R₁ r fun I fp wr PI St s₂ x₂ W hst hfp hw lw hP go => ?_)
  refine for_core ok Inv ha R₁ x₂ hst hfp hw lw W.frame p.2 (fun i S' s' K hlt hst' up inv k => ?_) (fun s' Q hst' k => W.done s' Q No hst' k) fin fun f s' b S' pb R' K' rf => q f s' b S' pb R' (K₁.trans K') rf
  refine W.item i s' _ _ hlt hst' fun v h' tk hv hst1 hk => ⟨v, rfl, ?_⟩
  obtain ⟨a, hla, ra⟩ := hP i v hv
  have z := k v h' tk hst1 hk fun Q' R3 K3 q' => turn i S' a hla inv A _ _ _ _ v _ ha R3 (K3 _ _ (up _ _ ra)) q'
  cases ht with
  | name x p => exact wpAny_of_eq (show letOwnedTupleGo (.Name x p) (.ref I) v = pure () from rfl) z
  | tuple es kk p => exact go es kk p _ _ v _ hst1 z
end
end Mine
namespace Mine
section
variable {C : Cx} {Y D : List Addr} {s₀ s s₁ s' : Shared} {env env' : Env} {S S' : St} {μ' : List (Str × AV)}
theorem enterX (hf : ∀ b ∈ fa env', s.heap.get? b = none) : ∀ a o, s.heap.get? a = some o → a ∉ Xo C Y env S → a ∉ Xo C (fa env ++ Y) env' ⟨μ', S.M⟩ := fun a o e n q => by
  rw [mem_Xo] at n q
  simp only [List.mem_append] at n q
  rcases q with q | (q | q) | q | q
  · exact n (.inl q)
  · rw [hf a q] at e; cases e
  · exact n (.inr (.inl (.inr q)))
  · exact n (.inr (.inl (.inl q)))
  · exact n (.inr (.inr q))
theorem Rel.enter (ok : C.Ok) (R : Rel C Y s₀ D env S s) (x : SStp C.T [] s s₁) (hf : ∀ b ∈ fa env', s.heap.get? b = none) (lf : ∀ b ∈ fa env', Live s₁.heap b) (nf : (fa env').Nodup) (ev : EnvOk env')
    (fr : FrA (Xo C (fa env ++ Y) env' ⟨μ', S.M⟩) env' s₁.heap μ') (free : ∀ x c, Lent env' x → env'.cells.lookup x = some c → c ∈ fa env ++ Y ∨ C.Old c) :
    Rel C (fa env ++ Y) s (feet S.M) env' ⟨μ', S.M⟩ s₁ := by
  have R' := R.go ok x
  have z : ∀ a ∈ ([] : List Addr), a ∈ Xo C (fa env ++ Y) env' ⟨μ', S.M⟩ := fun _ h => nomatch h
  have hT : ∀ a ∈ C.T, a ∈ Xo C (fa env ++ Y) env' ⟨μ', S.M⟩ := fun a h => List.mem_append_left _ h
  have nfeet : ∀ a ∈ fa env', a ∉ fa env ++ (feet S.M ++ Y) := fun a ha => (R.deadNot (hf a ha)).2.2.1
  refine ⟨R'.bs, ev, fr, free, fun p hp => ((R.ob p hp).sub (enterX hf)).stp x.heap z hT fun b hb => ⟨fun h => (nomatch h), R.tn (List.mem_append_right _ (List.mem_append_left _ (mem_feet hp hb)))⟩, ?_, fun a ha q => ?_, fun a ha => ?_, x.mono fun _ h => (nomatch h), fun a ha => ?_⟩
  · rw [List.nodup_append]
    exact ⟨nf, (List.nodup_append.mp R.nd).2.1, fun a ha b hb e => nfeet a ha (e ▸ List.mem_append_right _ (List.mem_append_left _ hb))⟩
  · rcases List.mem_append.mp ha with h | h
    · rcases List.mem_append.mp q with q | q
      · exact nfeet a q (List.mem_append_left _ h)
      · exact (List.nodup_append.mp R.nd).2.2 a h a q rfl
    · rcases List.mem_append.mp q with q | q
      · exact nfeet a q (List.mem_append_right _ (List.mem_append_right _ h))
      · exact R.dis a h (List.mem_append_right _ q)
  · rcases List.mem_append.mp ha with h | h
    · exact ⟨(R.deadNot (hf a h)).1, (R.deadNot (hf a h)).2.1, lf a h⟩
    · refine R'.hi a ?_
      simp only [List.mem_append] at h ⊢
      rcases h with h | h | h
      · exact .inr (.inl h)
      · exact .inl h
      · exact .inr (.inr h)
  · rcases List.mem_append.mp ha with h | h
    · exact .inr (hf a h)
    · exact .inl h
theorem Rel.leaveV (ok : C.Ok) {V Z : List Addr} (R : Rel C Y s₀ D env S s) (R' : Rel C (fa env ++ Y) s (V ++ feet S.M) env' S' s') (hVY : ∀ a ∈ V, a ∈ Y) (hVD : ∀ a ∈ V, a ∈ D) (hVf : ∀ x c, Lent env x → env.cells.lookup x = some c → c ∉ V)
    (hZ : ∀ a ∈ Z, a ∈ fa env' ∧ s.heap.get? a = none) :
    Rel C (Z ++ Y) s₀ D env ⟨S.μ, S'.M⟩ s' ∧ (∀ v av, VR s.heap (Xo C Y env S) v av → VR s'.heap (Xo C (Z ++ Y) env ⟨S.μ, S'.M⟩) v av) ∧ ∀ v av, VR s'.heap (Xo C (fa env ++ Y) env' S') v av → VR s'.heap (Xo C (Z ++ Y) env ⟨S.μ, S'.M⟩) v av := by
  have st := R'.st
  have up : ∀ a o, s.heap.get? a = some o → a ∉ Xo C Y env S → a ∉ (V ++ feet S.M) ++ Xo C (Z ++ Y) env ⟨S.μ, S'.M⟩ := fun a o e n q => by
    rw [List.mem_append, mem_Xo] at q
    rw [mem_Xo] at n
    simp only [List.mem_append] at n q
    rcases q with (q | q) | q | (q | q) | (q | q)
    · exact n (.inr (.inr (hVY a q)))
    · exact n (.inr (.inl (.inr q)))
    · exact n (.inl q)
    · exact n (.inr (.inl (.inl q)))
    · rcases R'.own a (List.mem_append_right _ q) with z | z
      · rcases List.mem_append.mp z with z | z
        · exact n (.inr (.inr (hVY a z)))
        · exact n (.inr (.inl (.inr z)))
      · rw [z] at e; cases e
    · rw [(hZ a q).2] at e; cases e
    · exact n (.inr (.inr q))
  have down : ∀ a o, s'.heap.get? a = some o → a ∉ (V ++ feet S.M) ++ Xo C (Z ++ Y) env ⟨S.μ, S'.M⟩ → a ∉ Xo C (Z ++ Y) env ⟨S.μ, S'.M⟩ := fun a o _ n q => n (List.mem_append_right _ q)
  have hD : ∀ a ∈ V ++ feet S.M, a ∈ (V ++ feet S.M) ++ Xo C (Z ++ Y) env ⟨S.μ, S'.M⟩ := fun a h => List.mem_append_left _ h
  have hT : ∀ a ∈ C.T, a ∈ (V ++ feet S.M) ++ Xo C (Z ++ Y) env ⟨S.μ, S'.M⟩ := fun a h => List.mem_append_right _ (List.mem_append_left _ h)
  have bk : ∀ a o, s'.heap.get? a = some o → a ∉ Xo C (fa env ++ Y) env' S' → a ∉ Xo C (Z ++ Y) env ⟨S.μ, S'.M⟩ := fun a o _ n q => by
    rw [mem_Xo] at n q
    simp only [List.mem_append] at n q
    rcases q with q | (q | q) | (q | q)
    · exact n (.inl q)
    · exact n (.inr (.inr (.inl q)))
    · exact n (.inr (.inl (.inr q)))
    · exact n (.inr (.inl (.inl (hZ a q).1)))
    · exact n (.inr (.inr (.inr q)))
  refine ⟨⟨R'.bs, R.ev, ((R.fr.sub up).stp st.heap hD hT (fun b hb => ⟨fun q => (List.mem_append.mp q).elim (fun q => R.dis b (hVY b q) (List.mem_append_left _ hb)) (fun q => (List.nodup_append.mp R.nd).2.2 b hb b q rfl), R.tn (List.mem_append_left _ hb)⟩) (fun x c k e => ⟨fun q => (List.mem_append.mp q).elim (hVf x c k e) (fun q => R.freeN k e (List.mem_append_right _ q)), R.freeT ok k e⟩)).sub down, fun x c k e => (R.free x c k e).imp (List.mem_append_right _) id,
    fun p hp => (R'.ob p hp).sub bk, ?_, fun a ha q => ?_, fun a ha => ?_, R.st.trans st fun a ha => (List.mem_append.mp ha).elim (fun q => .inl (hVD a q)) (fun q => R.own a (List.mem_append_right _ q)), fun a ha => ?_⟩, fun v av r => ((r.sub up).stp st.heap hD hT).sub down, fun v av r => r.sub bk⟩
  · rw [List.nodup_append]
    exact ⟨nodup_fa R, (List.nodup_append.mp R'.nd).2.1, fun a ha b hb e => R'.dis a (List.mem_append_left _ ha) (List.mem_append_right _ (e ▸ hb))⟩
  · rcases List.mem_append.mp ha with ha | ha
    · rcases List.mem_append.mp q with q | q
      · exact R'.dis a (List.mem_append_left _ q) (List.mem_append_left _ (hZ a ha).1)
      · exact (List.nodup_append.mp R'.nd).2.2 a (hZ a ha).1 a q rfl
    · rcases List.mem_append.mp q with q | q
      · exact R.dis a ha (List.mem_append_left _ q)
      · exact R'.dis a (List.mem_append_right _ ha) (List.mem_append_right _ q)
  · refine R'.hi a ?_
    simp only [List.mem_append] at ha ⊢
    rcases ha with h | h | h | h
    · exact .inr (.inr (.inl h))
    · exact .inr (.inl h)
    · exact .inl (hZ a h).1
    · exact .inr (.inr (.inr h))
  · rcases List.mem_append.mp ha with h | h
    · exact R.own a (List.mem_append_left _ h)
    · rcases R'.own a (List.mem_append_right _ h) with z | z
      · exact (List.mem_append.mp z).elim (fun q => .inl (hVD a q)) (fun q => R.own a (List.mem_append_right _ q))
      · exact (R.deadNot z).2.2.2
theorem Rel.leave (ok : C.Ok) (R : Rel C Y s₀ D env S s) (R' : Rel C (fa env ++ Y) s (feet S.M) env' S' s') :
    Rel C Y s₀ D env ⟨S.μ, S'.M⟩ s' ∧ Kp C Y env S s ⟨S.μ, S'.M⟩ s' ∧ ∀ v av, VR s'.heap (Xo C (fa env ++ Y) env' S') v av → VR s'.heap (Xo C Y env ⟨S.μ, S'.M⟩) v av :=
  R.leaveV (V := []) (Z := []) ok R' (fun _ h => nomatch h) (fun _ h => nomatch h) (fun _ _ _ _ h => nomatch h) (fun _ h => nomatch h)
end
noncomputable def FN (C : Cx) (n : Nat) (f : Addr) (M : List (Addr × AO)) (args : List AV) (P : AV → List (Addr × AO) → Prop) : Prop :=
  ∀ env μ, VN C n env ⟨μ, M⟩ (fun vs => call (.ref f) vs) args fun av S' => S'.μ = μ ∧ P av S'.M
noncomputable def FC (C : Cx) (n : Nat) (f : Addr) (M : List (Addr × AO)) (args : List AV) (P : AV → List (Addr × AO) → Prop) : Prop :=
  ∀ env μ A Y s₀ D s vs (Q : Result → Shared → Prop), AOk n A → Rel C Y s₀ D env ⟨μ, M⟩ s → VRs s.heap (Xo C Y env ⟨μ, M⟩) vs args →
    (∀ v s' av S', (S'.μ = μ ∧ P av S'.M) → Rel C Y s₀ D env S' s' → Kp C Y env ⟨μ, M⟩ s S' s' → VR s'.heap (Xo C Y env S') v av → Q (.ok (.ret v)) s') → codeAny (model C.prog C.w) A (.call (.ref f) ⟨vs, []⟩) Q s
theorem FC.fn {C : Cx} {n : Nat} {f : Addr} {M : List (Addr × AO)} {args : List AV} {P : AV → List (Addr × AO) → Prop} (h : FC C n f M args P) : FN C n f M args P :=
  fun env μ A Y s₀ D s vs Q ha R rv q => wpAny_call (h env μ A Y s₀ D s vs _ ha R rv fun v s' av S' p R' K' r => q v s' av S' p R' K' r)
noncomputable def Out (P : AV → List (Addr × AO) → Prop) (f : AF) (S : St) : Prop := match f with | .ret v => P v S.M | _ => P .none S.M
theorem PRs.rev {K : Type} {h : Heap} {X : List Addr} {kvs : List (K × Value)} {l : List (K × AV)} (r : PRs h X kvs l) : PRs h X kvs.reverse l.reverse := by
  have app : ∀ {a b : List (K × Value)} {c d : List (K × AV)}, PRs h X a c → PRs h X b d → PRs h X (a ++ b) (c ++ d) := fun r r' => by
    induction r with
    | nil => exact r'
    | cons a b ih => exact .cons a ih
  induction r with
  | nil => exact .nil
  | cons a b ih => simp only [List.reverse_cons]; exact app ih (.cons a .nil)
theorem PRs.look {K : Type} [BEq K] {h : Heap} {X : List Addr} {kvs : List (K × Value)} {l : List (K × AV)} (r : PRs h X kvs l) {x : K} {a : AV} (e : l.lookup x = some a) : ∃ v, kvs.lookup x = some v ∧ VR h X v a := by
  induction r with
  | nil => cases e
  | @cons k v a' vs l' p q ih =>
    simp only [List.lookup] at e ⊢
    cases hk : x == k
    · rw [hk] at e; exact ih e
    · rw [hk] at e; cases e; exact ⟨v, rfl, p⟩
theorem PRs.keys {K : Type} {h : Heap} {X : List Addr} {kvs : List (K × Value)} {l : List (K × AV)} (r : PRs h X kvs l) : kvs.map (·.1) = l.map (·.1) := by
  induction r with
  | nil => rfl
  | cons a b ih => simp [ih]
structure FnOk (C : Cx) (f : Addr) (fd : FuncData) (body : List Stmt) : Prop where
  obj : ∃ o, C.K.lookup f = some o ∧ o.data = .func fd
  code : ∃ c o vs t, fd.code = .ref c ∧ C.K.lookup c = some o ∧ o.data = .fields vs ∧ vs[1]? = some (.str fd.qualname t)
  body : fd.body = .stmts body
  glob : fd.globals = mainGlobals
  buil : fd.builtins = builtinsNs
  clo : ∀ x c, fd.closure.lookup x = some c → C.Old c
  co : fd.scope.isCoroutine = false
  gen : fd.scope.isGenerator = false
  kind : fd.scope.kind = .function
  more : ∀ x ∈ fd.scope.names, x.2 = .free → (x.1 == ("__classdict__" : Str)) = false
theorem fc_plain {C : Cx} (ok : C.Ok) {n : Nat} {f : Addr} {fd : FuncData} {body : List Stmt} {M : List (Addr × AO)} {args : List AV} {ab : List (Str × AV)} {P : AV → List (Addr × AO) → Prop} (F : FnOk C f fd body)
    (hcell : ∀ x ∈ fd.scope.names, x.2 ≠ .cell)
    (hbind : ∀ h X vs, VRs h X vs args → C.K.In h → (∀ a, C.Old a → a ∉ X) → ∃ bs, (∀ s : Shared, s.heap = h → BindsTo s fd ⟨vs, []⟩ bs) ∧ PRs h X bs ab)
    (hloc : ∀ x ∈ ab.map (·.1), fd.scope.names.lookup x = some .local)
    (h : ∀ L, EX C n (callEnv fd L f) ⟨ab.reverse, M⟩ body (Out P)) : FC C (n + 1) f M args P := by
  intro env μ A Y s₀ D s vs Q ha R rv q
  obtain ⟨o, ho, hd⟩ := F.obj
  obtain ⟨c, oc, cvs, t, e1, e2, e3, e4⟩ := F.code
  have oldX : ∀ a, C.Old a → a ∉ Xo C Y env ⟨μ, M⟩ := fun a ha q => by
    rcases List.mem_append.mp q with z | z
    · exact ok.old a ha z
    · exact (R.hi a z).1 ha
  obtain ⟨bs, hb, rb⟩ := hbind s.heap _ vs rv R.bs.K oldX
  refine (codeAny_call_def (binds := bs) (by have := ha.depth; show A.depth < 1000; lia) (R.bs.K _ _ ho) hd R.bs.lim ⟨c, oc, cvs, t, e1, R.bs.K _ _ e2, e3, e4⟩ F.body (hb s rfl) hcell
    (fun x hx => hloc _ (by rw [← rb.keys]; exact List.mem_map.mpr ⟨x, hx, rfl⟩)) (fun h₀ hn hk => ?_) F.co F.gen F.kind)
  have x : SStp C.T [] s { s with heap := h₀, toks := s.toks + bs.length } := ⟨.of_keeps hk, rfl, rfl, id⟩
  have nocell : (callEnv fd s.heap.objs.size f).cells.filter (fun p => (callEnv fd s.heap.objs.size f).kindOf p.1 == some .cell && (callEnv fd s.heap.objs.size f).func.isSome) = [] := by
    rw [List.filter_eq_nil_iff]
    intro p _ hp
    have : (callEnv fd s.heap.objs.size f).kindOf p.1 = some .cell := by simp at hp; exact hp.1
    exact hcell (p.1, .cell) (mem_of_lookup this) rfl
  have efa : fa (callEnv fd s.heap.objs.size f) = [s.heap.objs.size] := by unfold fa; rw [nocell]; rfl
  have hf : ∀ b ∈ fa (callEnv fd s.heap.objs.size f), s.heap.get? b = none := fun b hb => by
    rw [efa] at hb; have e : b = s.heap.objs.size := by simpa using hb
    subst e; exact new_none _
  have R₁ : Rel C (fa env ++ Y) s (feet M) (callEnv fd s.heap.objs.size f) ⟨ab.reverse, M⟩ { s with heap := h₀, toks := s.toks + bs.length } := by
    refine R.enter (S := ⟨μ, M⟩) ok x hf (fun b hb => ?_) (by rw [efa]; simp) ⟨F.kind, F.glob, F.buil, fun y ky => F.more (y, .free) (mem_of_lookup ky) rfl⟩ ⟨⟨_, hn, fun y av e k => ?_⟩, fun y av e k => ?_, fun y c k _ => absurd rfl (hcell (y, .cell) (mem_of_lookup k.1)), fun y av e => ?_⟩ (fun y c _ e => .inr (F.clo y c e))
    · rw [efa] at hb; have e : b = s.heap.objs.size := by simpa using hb
      obtain ⟨o, _, _, q, _⟩ := hn; exact e ▸ ⟨o, q⟩
    · obtain ⟨v, e1, r⟩ := rb.rev.look e
      exact ⟨v, e1, (r.sub (enterX hf)).stp x.heap (fun _ h => nomatch h) (fun a h => List.mem_append_left _ h)⟩
    · exfalso
      have hm : y ∈ ab.map (·.1) := by
        have := mem_of_lookup e
        exact List.mem_map.mpr ⟨(y, av), List.mem_reverse.mp this, rfl⟩
      have kl : (callEnv fd s.heap.objs.size f).kindOf y = some .local := hloc y hm
      rw [kl] at k; rcases k with k | k <;> cases k
    · exact .inl (hloc y (List.mem_map.mpr ⟨(y, av), List.mem_reverse.mp (mem_of_lookup e), rfl⟩))
  refine wpAny_mono (h s.heap.objs.size (A.deeper (callEnv fd s.heap.objs.size f)) _ _ _ _ (fun fl s' => Q (.ok (.ret (match fl with | .ret v => v | _ => .none))) s') (ha.deeper _) R₁ fun r s' b S' p R' K' rr => ?_) (fun fl s' z => ?_) fun _ _ e => e.elim
  · obtain ⟨Ra, Ka, Va⟩ := R.leave (S := ⟨μ, M⟩) ok R'
    cases rr with
    | next => exact q _ _ _ ⟨μ, S'.M⟩ ⟨rfl, p⟩ Ra Ka .none
    | brk => exact q _ _ _ ⟨μ, S'.M⟩ ⟨rfl, p⟩ Ra Ka .none
    | cont => exact q _ _ _ ⟨μ, S'.M⟩ ⟨rfl, p⟩ Ra Ka .none
    | ret r => exact q _ _ _ ⟨μ, S'.M⟩ ⟨rfl, p⟩ Ra Ka (Va _ _ r)
  · cases fl <;> exact z
theorem fn_plain {C : Cx} (ok : C.Ok) {n : Nat} {f : Addr} {fd : FuncData} {body : List Stmt} {M : List (Addr × AO)} {args : List AV} {ab : List (Str × AV)} {P : AV → List (Addr × AO) → Prop} (F : FnOk C f fd body)
    (hcell : ∀ x ∈ fd.scope.names, x.2 ≠ .cell)
    (hbind : ∀ h X vs, VRs h X vs args → C.K.In h → (∀ a, C.Old a → a ∉ X) → ∃ bs, (∀ s : Shared, s.heap = h → BindsTo s fd ⟨vs, []⟩ bs) ∧ PRs h X bs ab)
    (hloc : ∀ x ∈ ab.map (·.1), fd.scope.names.lookup x = some .local)
    (h : ∀ L, EX C n (callEnv fd L f) ⟨ab.reverse, M⟩ body (Out P)) : FN C (n + 1) f M args P := (fc_plain ok F hcell hbind hloc h).fn
end Mine
namespace Mine
noncomputable def closOf (env : Env) : List (Str × NameKind) → List (Str × Addr) → List (Str × Addr)
  | [], acc => acc
  | (n, k) :: r, acc => if k == .free then closOf env r ((n, (env.cells.lookup n).getD 0) :: acc) else closOf env r acc
noncomputable def compOk (scope : Scope) (env : Env) : Bool := scope.names.all fun p => p.2 != .free || ((env.kindOf p.1 == some .cell || env.kindOf p.1 == some .free) && (env.cells.lookup p.1).isSome)
theorem closOf_mem {env : Env} : ∀ {ns : List (Str × NameKind)} {acc : List (Str × Addr)} {p : Str × Addr}, p ∈ closOf env ns acc → p ∈ acc ∨ ((p.1, NameKind.free) ∈ ns ∧ p.2 = (env.cells.lookup p.1).getD 0)
  | [], _, _, h => .inl h
  | (n, k) :: r, acc, p, h => by
    unfold closOf at h
    cases hk : k == NameKind.free with
    | false =>
      rw [hk] at h
      rcases closOf_mem (ns := r) h with z | z
      · exact .inl z
      · exact .inr ⟨List.mem_cons_of_mem _ z.1, z.2⟩
    | true =>
      have ek : k = .free := by simpa using hk
      rw [hk] at h
      rcases closOf_mem (ns := r) h with z | z
      · rcases List.mem_cons.mp z with z | z
        · subst z; subst ek; exact .inr ⟨List.mem_cons_self .., rfl⟩
        · exact .inl z
      · exact .inr ⟨List.mem_cons_of_mem _ z.1, z.2⟩
theorem closure_of {scope : Scope} {env : Env} (h : compOk scope env = true) : closureFor scope env = pure (closOf env scope.names []) := by
  unfold closureFor
  unfold compOk at h
  generalize scope.names = ns at h
  suffices ∀ acc, (forIn ns acc fun (x : Str × NameKind) (r : List (Str × Addr)) => (match x with
      | (name, kind) => (if (kind == NameKind.free) = true then do let c ← cellOf env name; pure (ForInStep.yield ((name, c) :: r)) else pure (ForInStep.yield r)) : Sem (ForInStep (List (Str × Addr))))) = pure (closOf env ns acc) by
    have e := this []
    first
      | (rw [show (forIn ns [] _ : Sem _) = _ from e]; rfl)
      | (simp only [bind_pure]; exact e)
  induction ns with
  | nil => intro acc; rfl
  | cons p r ih =>
    intro acc
    obtain ⟨n, k⟩ := p
    rw [List.all_cons, Bool.and_eq_true] at h
    rw [List.forIn_cons]
    cases hk : k == NameKind.free with
    | false =>
      simp only [hk, Bool.false_eq_true, if_false, pure_bind]
      rw [ih h.2]
      simp [closOf, hk]
    | true =>
      have ek : k = .free := by simpa using hk
      subst ek
      have hc : (env.cells.lookup n).isSome = true := by have := h.1; simp at this; simp [this.2]
      obtain ⟨c, hc⟩ := Option.isSome_iff_exists.mp hc
      have ec : cellOf env n = pure c := by unfold cellOf; rw [hc]
      simp only [hk, if_true, ec, pure_bind]
      rw [ih h.2]
      simp [closOf, hc]
structure Cap (env cenv : Env) (S : St) (μ : List (Str × AV)) : Prop where
  all : ∀ p ∈ μ, S.μ.lookup p.1 = some p.2 ∧ cenv.cells.lookup p.1 = env.cells.lookup p.1 ∧ (cenv.kindOf p.1 = some .cell ∨ cenv.kindOf p.1 = some .free) ∧ (env.kindOf p.1 = some .cell ∨ env.kindOf p.1 = some .free)
theorem Cap.nil {env cenv : Env} {S : St} : Cap env cenv S [] := ⟨fun _ h => nomatch h⟩
theorem Cap.cons {env cenv : Env} {S : St} {μ : List (Str × AV)} {x : Str} {a : AV} (h1 : S.μ.lookup x = some a) (h2 : cenv.cells.lookup x = env.cells.lookup x) (h3 : cenv.kindOf x = some .cell ∨ cenv.kindOf x = some .free)
    (h4 : env.kindOf x = some .cell ∨ env.kindOf x = some .free) (r : Cap env cenv S μ) : Cap env cenv S ((x, a) :: μ) := ⟨fun p hp => by
  rcases List.mem_cons.mp hp with e | h
  · subst e; exact ⟨h1, h2, h3, h4⟩
  · exact r.all p h⟩
theorem lookup_closOf {scope : Scope} {env : Env} (h : compOk scope env = true) {x : Str} {c : Addr} (e : (closOf env scope.names []).lookup x = some c) : env.cells.lookup x = some c ∧ (env.kindOf x = some .cell ∨ env.kindOf x = some .free) := by
  rcases closOf_mem (mem_of_lookup e) with z | z
  · cases z
  · unfold compOk at h
    have q := List.all_eq_true.mp h _ z.1
    have e0 : ((NameKind.free : NameKind) != NameKind.free) = false := by decide
    simp only [e0, Bool.false_or, Bool.and_eq_true, Bool.or_eq_true, beq_iff_eq] at q
    obtain ⟨q1, q2⟩ := q
    obtain ⟨d, hd⟩ := Option.isSome_iff_exists.mp q2
    have e2 : c = d := by have := z.2; rw [show (x, c).fst = x from rfl, hd] at this; exact this
    exact ⟨e2 ▸ hd, q1⟩
section
variable {prog : Program} {w : World} {A : Around} {E : Value → Shared → Prop} {R : Result → Shared → Prop} {s : Shared}
theorem codeAny_compLoop_any {elt target iter : Expr} {ifs : List Expr} {scope : Scope} {pos : Pos} {it acc : Value} {env : Env} (I : Nat → Shared → Prop)
    (turn : ∀ n s, I n s → wpAny (model prog w) A (pyNext it) (fun r s₁ => match r with
      | none => R (.ok .next) s₁
      | some v => wpAny (model prog w) A (letOwnedTupleGo target it v) (fun _ s₁' => wpAny (model prog w) A (assign target env v) (fun _ s₂ =>
          wpAny (model prog w) A (forIn ifs true fun c r => if r = true then do let ok ← isTrue c env (eval c env); pure (ForInStep.yield ok) else pure (ForInStep.yield r)) (fun ok s₃ =>
            if ok = true then wpAny (model prog w) A (eval elt env) (fun x s₄ =>
              wpAny (model prog w) A (call (.builtin "list.append") [acc, x]) (fun _ s₅ => ∃ m, m < n ∧ I m s₅) (notedBy (model prog w) A env fun e s' => R (.error e) s') s₄) (notedBy (model prog w) A env fun e s' => R (.error e) s') s₃
            else ∃ m, m < n ∧ I m s₃) (notedBy (model prog w) A env fun e s' => R (.error e) s') s₂) (notedBy (model prog w) A env fun e s' => R (.error e) s') s₁') (notedBy (model prog w) A env fun e s' => R (.error e) s') s₁) (notedBy (model prog w) A env fun e s' => R (.error e) s') s)
    (n : Nat) (h : I n s) : codeAny (model prog w) A (.compLoop (.ListComp elt [⟨target, iter, ifs, 0⟩] scope pos) 0 it acc env) R s := by
  refine codeAny_loop rfl I (fun n s hI => ?_) n h
  show wpAny _ A ((compTurn (.ListComp elt [⟨target, iter, ifs, 0⟩] scope pos) 0 it acc env).onRaise (fun x => do noteFrame x env; theTreesLotGoes x)) _ _ s
  refine wpAny_noted ?_
  rw [compTurn_list]
  refine wpAny_bind (wpAny_standAt (wpAny_bind (wpAny_mono (turn n s hI) (fun r s₁ h₁ => ?_) fun _ _ h' => h')))
  cases r with
  | none => exact wpAny_pure h₁
  | some v =>
    refine wpAny_bind (wpAny_mono h₁ (fun _ s₁' h₁ => ?_) fun _ _ h' => h')
    refine wpAny_bind (wpAny_mono h₁ (fun _ s₂ h₂ => wpAny_bind (wpAny_mono h₂ (fun ok s₃ h₃ => ?_) fun _ _ h' => h')) fun _ _ h' => h')
    cases ok with
    | false => exact wpAny_pure ⟨rfl, h₃⟩
    | true =>
      exact wpAny_bind (wpAny_bind (wpAny_mono h₃ (fun x s₄ h₄ => wpAny_bind (wpAny_mono h₄ (fun _ s₅ h₅ => wpAny_pure (wpAny_pure ⟨rfl, h₅⟩)) fun _ _ h' => h')) fun _ _ h' => h'))
theorem compLoop_no {elt target iter : Expr} {ifs : List Expr} {scope : Scope} {pos : Pos} {it acc : Value} {env : Env} (I : Nat → Shared → Prop)
    (turn : ∀ n s, I n s → wpAny (model prog w) A (pyNext it) (fun r s₁ => match r with
      | none => R (.ok .next) s₁
      | some v => wpAny (model prog w) A (letOwnedTupleGo target it v) (fun _ s₁' => wpAny (model prog w) A (assign target env v) (fun _ s₂ =>
          wpAny (model prog w) A (forIn ifs true fun c r => if r = true then do let ok ← isTrue c env (eval c env); pure (ForInStep.yield ok) else pure (ForInStep.yield r)) (fun ok s₃ =>
            if ok = true then wpAny (model prog w) A (eval elt env) (fun x s₄ =>
              wpAny (model prog w) A (call (.builtin "list.append") [acc, x]) (fun _ s₅ => ∃ m, m < n ∧ I m s₅) No s₄) No s₃
            else ∃ m, m < n ∧ I m s₃) No s₂) No s₁') No s₁) No s)
    (n : Nat) (h : I n s) : codeAny (model prog w) A (.compLoop (.ListComp elt [⟨target, iter, ifs, 0⟩] scope pos) 0 it acc env) R s := by
  refine codeAny_compLoop_any I ?_ n h
  intro n s hI
  refine toNo' (turn n s hI) ?_
  intro r s₁ z
  cases r with
  | none => exact z
  | some v =>
    refine toNo' z fun _ _ z => toNo' z fun _ _ z => toNo' z ?_
    intro okb s₂ z
    cases okb
    · exact z
    · exact toNo' z fun x _ z => toNo' z fun _ _ z => z
end
noncomputable abbrev CT (C : Cx) (n : Nat) (env : Env) (S : St) (ifs : List Expr) (P : Bool → St → Prop) : Prop :=
  G C n env BR S (forIn ifs true fun c r => if r = true then do let ok ← isTrue c env (eval c env); pure (ForInStep.yield ok) else pure (ForInStep.yield r)) P
theorem CT.nil {C : Cx} {n : Nat} {env : Env} {S : St} {P : Bool → St → Prop} (h : P true S) : CT C n env S [] P := fun _ _ _ _ _ _ _ R q => wpAny_tests_nil (q _ _ _ _ h R .refl rfl)
theorem CT.one {C : Cx} {n : Nat} {env : Env} {S : St} {P : Bool → St → Prop} {c : Expr} (h : ET C n env S c P) : CT C n env S [c] P := fun A Y s₀ D s Q ha R q => wpAny_tests_one (h A Y s₀ D s Q ha R q)
noncomputable def CEnv (scope : Scope) (env : Env) (L : Addr) : Env := compEnvC scope (closOf env scope.names []) L env
noncomputable def Step (C : Cx) (n : Nat) (env : Env) (S : St) (target : Expr) (ifs : List Expr) (elt : Expr) (a : AV) (r : Option AV) : Prop :=
  TG C n env S target a fun S₁ => CT C n env S₁ ifs fun b S₂ => match r with
    | none => b = false ∧ Le S S₂
    | some y => b = true ∧ EV C n env S₂ elt fun c S₃ => c = y ∧ Le S S₃
theorem Step.some {C : Cx} {n : Nat} {env : Env} {S : St} {target : Expr} {ifs : List Expr} {elt : Expr} {a y : AV} (h : TG C n env S target a fun S₁ => CT C n env S₁ ifs fun b S₂ => b = true ∧ EV C n env S₂ elt fun c S₃ => c = y ∧ Le S S₃) : Step C n env S target ifs elt a (Option.some y) := h
section
variable {C : Cx} {Y D D' V : List Addr} {s₀ s s' : Shared} {env : Env} {S S' : St}
theorem Rel.rebase (R : Rel C Y s₀ D env S s) : Rel C Y s (fa env ++ feet S.M) env S s := ⟨R.bs, R.ev, R.fr, R.free, R.ob, R.nd, R.dis, R.hi, .refl .., fun a h => .inl h⟩
theorem Rel.merge (R : Rel C Y s₀ D env S s) (R' : Rel C Y s (fa env ++ feet S.M) env S' s') : Rel C Y s₀ D env S' s' :=
  ⟨R'.bs, R'.ev, R'.fr, R'.free, R'.ob, R'.nd, R'.dis, R'.hi, R.st.trans R'.st (fun b hb => R.own b hb), fun b hb => by
    rcases R'.own b hb with z | z
    · exact R.own b z
    · exact (R.deadNot z).2.2.2⟩
theorem Rel.moreD (R : Rel C Y s₀ D env S s) (h : ∀ a ∈ D, a ∈ D') : Rel C Y s₀ D' env S s := ⟨R.bs, R.ev, R.fr, R.free, R.ob, R.nd, R.dis, R.hi, R.st.mono h, fun a ha => (R.own a ha).imp (h a) id⟩
theorem SStp.dead {T : List Addr} {s s' : Shared} (x : SStp T [] s s') {a : Addr} (h : s'.heap.get? a = none) (hT : a ∉ T) : s.heap.get? a = none := by
  cases e : s.heap.get? a with
  | none => rfl
  | some o => rw [x.heap.keep a o e (fun q => nomatch q) hT] at h; cases h
end
section
variable {C : Cx} (ok : C.Ok) {n : Nat} {env : Env} {S : St}
include ok
end
end Mine
namespace Mine
section
variable {C : Cx} (ok : C.Ok) {n : Nat} {env : Env} {S : St}
include ok
theorem E1_while {t : Expr} {body : List Stmt} {pos : Pos} {P : AF → St → Prop} (Inv : Nat → St → Prop) (k₀ : Nat) (h0 : Inv k₀ S)
    (turn : ∀ k S₁, Inv k S₁ → ET C n env S₁ t fun b S₂ => if b then EX C n env S₂ body (Turn (fun S₃ => ∃ j, j < k ∧ Inv j S₃) P) else P .next S₂) : E1 C n env S (.While t body [] pos) P := by
  intro A Y s₀ D s Q ha R q
  refine wpAny_While (codeAny_whileLoop (fun k s' => ∃ S', Inv k S' ∧ Rel C Y s₀ D env S' s' ∧ Kp C Y env S s S' s') (fun k s' hI => ?_) k₀ ⟨S, h0, R, .refl⟩)
  obtain ⟨S', hI, R', K'⟩ := hI
  refine toNo (turn k S' hI A Y s₀ D s' _ ha R' fun b s₂ b' S₂ p₂ R₂ K₂ e => ?_)
  have e : b = b' := e
  subst e
  cases b
  · exact wpAny_execs_nil (q _ _ _ _ p₂ R₂ (K'.trans K₂) .next)
  · refine toNo (p₂ A Y s₀ D s₂ _ ha R₂ fun f s₃ f' S₃ p₃ R₃ K₃ rf => ?_)
    have K := (K'.trans K₂).trans K₃
    cases rf with
    | next => obtain ⟨S₄, le, j, hj, h4⟩ := p₃; exact ⟨j, hj, S₄, h4, R₃.le le, K.le le⟩
    | cont => obtain ⟨S₄, le, j, hj, h4⟩ := p₃; exact ⟨j, hj, S₄, h4, R₃.le le, K.le le⟩
    | brk => exact q _ _ _ _ p₃ R₃ K .next
    | ret r => exact q _ _ _ _ p₃ R₃ K (.ret r)
theorem goPlain {I : Addr} {o : Obj} {s : Shared} {prog : Program} {w : World} {A : Around} {ty : String} {vs : Array Value} (ho : s.heap.get? I = some o) (hc : o.cls = .type ty) (hd : o.data = .fields vs)
    (hn : ["enumerate", "zip", "dict_itemiterator", "dict_reverseitemiterator", "odict_iterator", "itertools.zip_longest", "itertools.pairwise"].contains ty = false) {elts : List Expr} {k : Nat} {pos : Pos} {v : Value} {Q : Unit → Shared → Prop} (hq : Q () s) :
    wpAny (model prog w) A (letOwnedTupleGo (.Tuple elts k pos) (.ref I) v) Q No s := by
  cases v with
  | ref T =>
    unfold letOwnedTupleGo
    refine wpAny_bind (wpAny_load ho ?_)
    rw [hc, hd]
    show wpAny _ A (if (["enumerate", "zip", "dict_itemiterator", "dict_reverseitemiterator", "odict_iterator", "itertools.zip_longest", "itertools.pairwise"].contains ty && _) = true then _ else _) Q _ s
    rw [if_neg (by rw [hn, Bool.false_and]; exact Bool.false_ne_true)]
    exact wpAny_pure hq
  | _ => exact wpAny_pure hq
theorem Iter.lst {l : List AV} : Iter C n env S (.lst l) l := fun A Y s₀ D s v Q ha R r q => by
  refine VR.el_lst r fun a vs k e nx rs => ?_
  ·
    refine wpAny_pyIter_list (isList_of e) ?_
    have hne : a ≠ s.heap.objs.size := Nat.ne_of_lt (Heap.lt_size e)
    have W := Walks.list (prog := C.prog) (w := C.w) (A := A) ha.handled s.heap.objs.size a hne vs.toArray
    have el : vs.toArray.size = l.length := by rw [List.size_toArray]; exact rs.length
    rw [el] at W
    refine q s.heap.objs.size _ [s.heap.objs.size] _ _ _ (.alloc ..) W ⟨⟨_, Heap.get?_push_size _ rfl, rfl, rfl⟩, _, Heap.get?_push_of_some _ e, rfl, _, rfl⟩ (fun b hb => ?_) (fun b hb => List.mem_singleton.mp hb ▸ new_none _) (fun i h st b hb => ?_) (fun i v hv => ?_) (fun elts kk pos i s' v Q st hq => ?_)
    · rcases List.mem_cons.mp hb with e1 | hb
      · subst e1
        exact ⟨fun q => (R.hi _ (by rw [← List.append_assoc]; exact List.mem_append_left _ q)).2.2.ne (new_none _) rfl, fun q => (R.bs.liveT q).ne (new_none _) rfl, _, Heap.get?_push_size _ rfl⟩
      · have e1 := List.mem_singleton.mp hb
        subst e1
        rw [mem_Xo] at nx
        exact ⟨fun q => nx (.inr (.inl q)), fun q => nx (.inl q), _, Heap.get?_push_of_some _ e⟩
    · obtain ⟨o, ho, _⟩ := st.1; exact List.mem_singleton.mp hb ▸ ⟨o, ho⟩
    · have hi : i < vs.length := by
        have := (List.getElem?_eq_some_iff.mp (by simpa using hv : vs[i]? = some v)).1; exact this
      obtain ⟨a', ha'⟩ : ∃ a', l[i]? = some a' := ⟨_, List.getElem?_eq_getElem (rs.length ▸ hi)⟩
      obtain ⟨v', hv', rv⟩ := rs.get ha'
      have : v = v' := by
        have h1 : vs[i]? = some v := by simpa using hv
        rw [h1] at hv'; exact Option.some.inj hv'
      subst this
      exact ⟨a', ha', (rv.sub (subY (W := [s.heap.objs.size]) fun b hb => List.mem_singleton.mp hb ▸ new_none _)).stp (Stp.push C.T ..) (fun _ h => nomatch h) fun a h => List.mem_append_left _ h⟩
    · obtain ⟨o, ho, hc, hd⟩ := st.1; exact goPlain ok ho hc hd (by decide) hq
theorem Iter.tup {l : List AV} : Iter C n env S (.tup l) l := fun A Y s₀ D s v Q ha R r q => by
  refine VR.el_tup r fun a vs k e nx rs => ?_
  ·
    refine wpAny_pyIter_tuple ⟨_, e, rfl, _, rfl⟩ ?_
    have hne : a ≠ s.heap.objs.size := Nat.ne_of_lt (Heap.lt_size e)
    have W := Walks.tuple (prog := C.prog) (w := C.w) (A := A) ha.handled s.heap.objs.size a hne vs.toArray
    have el : vs.toArray.size = l.length := by rw [List.size_toArray]; exact rs.length
    rw [el] at W
    refine q s.heap.objs.size _ [s.heap.objs.size] _ _ _ (.alloc ..) W ⟨⟨_, Heap.get?_push_size _ rfl, rfl, rfl⟩, _, Heap.get?_push_of_some _ e, rfl, _, rfl⟩ (fun b hb => ?_) (fun b hb => List.mem_singleton.mp hb ▸ new_none _) (fun i h st b hb => ?_) (fun i v hv => ?_) (fun elts kk pos i s' v Q st hq => ?_)
    · rcases List.mem_cons.mp hb with e1 | hb
      · subst e1
        exact ⟨fun q => (R.hi _ (by rw [← List.append_assoc]; exact List.mem_append_left _ q)).2.2.ne (new_none _) rfl, fun q => (R.bs.liveT q).ne (new_none _) rfl, _, Heap.get?_push_size _ rfl⟩
      · have e1 := List.mem_singleton.mp hb
        subst e1
        rw [mem_Xo] at nx
        exact ⟨fun q => nx (.inr (.inl q)), fun q => nx (.inl q), _, Heap.get?_push_of_some _ e⟩
    · obtain ⟨o, ho, _⟩ := st.1; exact List.mem_singleton.mp hb ▸ ⟨o, ho⟩
    · have hi : i < vs.length := by
        have := (List.getElem?_eq_some_iff.mp (by simpa using hv : vs[i]? = some v)).1; exact this
      obtain ⟨a', ha'⟩ : ∃ a', l[i]? = some a' := ⟨_, List.getElem?_eq_getElem (rs.length ▸ hi)⟩
      obtain ⟨v', hv', rv⟩ := rs.get ha'
      have : v = v' := by
        have h1 : vs[i]? = some v := by simpa using hv
        rw [h1] at hv'; exact Option.some.inj hv'
      subst this
      exact ⟨a', ha', (rv.sub (subY (W := [s.heap.objs.size]) fun b hb => List.mem_singleton.mp hb ▸ new_none _)).stp (Stp.push C.T ..) (fun _ h => nomatch h) fun a h => List.mem_append_left _ h⟩
    · obtain ⟨o, ho, hc, hd⟩ := st.1; exact goPlain ok ho hc hd (by decide) hq
noncomputable def chars (x : Str) : List AV := x.cps.toList.map fun c => .str ⟨#[c]⟩
theorem Iter.str {x : Str} : Iter C n env S (.str x) (chars x) := fun A Y s₀ D s v Q ha R r q => by
  refine VR.el_str r fun t => ?_
  ·
    have el : x.cps.size = (chars x).length := by simp [chars]
    have fin : ∀ (ty : String) (o : Obj), o = { cls := .type ty, data := .fields #[.str x t, .int 0 0] } → True → ∀ (W : Walks C.prog C.w A s.heap.objs.size [s.heap.objs.size] [s.heap.objs.size] x.cps.size (SignAt x) (fun i h => h.IsStrIter s.heap.objs.size ty x t i)),
        ["enumerate", "zip", "dict_itemiterator", "dict_reverseitemiterator", "odict_iterator", "itertools.zip_longest", "itertools.pairwise"].contains ty = false → (s.heap.push o).IsStrIter s.heap.objs.size ty x t 0 → Q (.ref s.heap.objs.size) { s with heap := s.heap.push o } := fun ty o eo _ W hn h0 => by
      rw [el] at W
      refine q s.heap.objs.size _ [s.heap.objs.size] _ _ _ (.alloc ..) W h0 (fun b hb => ?_) (fun b hb => List.mem_singleton.mp hb ▸ new_none _) (fun i h st b hb => ?_) (fun i v hv => ?_) (fun elts kk pos i s' v Q st hq => ?_)
      · have e1 := List.mem_singleton.mp hb
        subst e1
        exact ⟨fun q => (R.hi _ (by rw [← List.append_assoc]; exact List.mem_append_left _ q)).2.2.ne (new_none _) rfl, fun q => (R.bs.liveT q).ne (new_none _) rfl, by obtain ⟨o, ho, _⟩ := h0; exact ⟨o, ho⟩⟩
      · obtain ⟨o, ho, _⟩ := st; exact List.mem_singleton.mp hb ▸ ⟨o, ho⟩
      · obtain ⟨c, u, hc, rfl⟩ := hv
        refine ⟨.str ⟨#[c]⟩, ?_, .str ..⟩
        unfold chars
        rw [List.getElem?_map, show x.cps.toList[i]? = some c by simpa using hc]; rfl
      · obtain ⟨o, ho, hc, hd⟩ := st; exact goPlain ok ho hc hd hn hq
    cases hall : x.cps.all (· < 128)
    · exact wpAny_pyIter_wide hall (fin "str_iterator" _ rfl trivial (Walks.strWide ha.handled _ x t) (by decide) ⟨_, Heap.get?_push_size _ rfl, rfl, rfl⟩)
    · exact wpAny_pyIter_ascii hall (fin "str_ascii_iterator" _ rfl trivial (Walks.strAscii ha.handled _ x t) (by decide) ⟨_, Heap.get?_push_size _ rfl, rfl, rfl⟩)
noncomputable def upto (a b : Int) : List AV := (List.range (b - a).toNat).map fun (i : Nat) => .int (a + (i : Int))
theorem Iter.rng {a b : Int} (hs : Builtin.Range.small a b 1 = true) : Iter C n env S (.rng a b 1) (upto a b) := fun A Y s₀ D s v Q ha R r q => by
  refine VR.el_rng r fun r t u w e nx => ?_
  ·
    refine wpAny_pyIter_range e hs ?_
    have el : (upto a b).length = (b - a).toNat := by simp [upto]
    have W := Walks.range (prog := C.prog) (w := C.w) (A := A) ha.handled s.heap.objs.size a 1 (b - a).toNat |>.bound
    rw [← el] at W
    have h0 : IsRangeIter (s.heap.push { cls := .type "range_iterator", data := .fields #[rawInt a, rawInt (Builtin.Range.rangeSize a b 1), rawInt 1] }) s.heap.objs.size (a + (0 : Nat) * 1) (((upto a b).length : Int) - (0 : Nat)) 1 := by
      have e1 : Builtin.Range.rangeSize a b 1 = ((upto a b).length : Int) - (0 : Nat) := by
        rw [rangeSize_one, el]; split <;> lia
      rw [e1, show a + ((0 : Nat) : Int) * 1 = a by lia]
      exact Heap.get?_push_size _ rfl
    refine q s.heap.objs.size _ [s.heap.objs.size] _ _ _ (.alloc ..) W h0 (fun b hb => ?_) (fun b hb => List.mem_singleton.mp hb ▸ new_none _) (fun i h st b hb => ?_) (fun i v hv => ?_) (fun elts kk pos i s' v Q st hq => ?_)
    · have e1 := List.mem_singleton.mp hb
      subst e1
      exact ⟨fun q => (R.hi _ (by rw [← List.append_assoc]; exact List.mem_append_left _ q)).2.2.ne (new_none _) rfl, fun q => (R.bs.liveT q).ne (new_none _) rfl, ⟨_, h0⟩⟩
    · exact List.mem_singleton.mp hb ▸ ⟨_, st⟩
    · obtain ⟨hi, t', rfl⟩ := hv
      refine ⟨.int (a + i), ?_, ?_⟩
      · unfold upto
        rw [List.getElem?_map, List.getElem?_range (by rw [← el]; exact hi)]; rfl
      · rw [Int.mul_one]; exact .int ..
    · exact goPlain ok st rfl rfl (by decide) hq
end
end Mine
namespace Mine
section
variable {C : Cx} (ok : C.Ok) {n : Nat} {env : Env} {S : St}
include ok
theorem PN.of {m : List Value → Sem Value} {as : List AV} {c : AV}
    (h : ∀ (A : Around) X s vs (Q : Value → Shared → Prop), AOk n A → Bs C s.heap → VRs s.heap X vs as → (∀ a ∈ X, a < s.heap.objs.size) → (∀ a ∈ C.T, a ∈ X) → (∀ r s', SStp C.T [] s s' → VR s'.heap X r c → Q r s') → wpAny (model C.prog C.w) A (m vs) Q No s) : PN C n env S m as c :=
  fun A Y s₀ D s vs Q ha R r q => h A _ s vs Q ha R.bs r (fun a hx => (R.live hx).lt) R.hT fun r s' x rc => q r s' _ S ⟨rfl, rfl⟩ (R.go ok x) (Kp.go R x) rc
theorem PN.M {m : List Value → Sem Value} {as : List AV} {c : AV}
    (h : ∀ (A : Around) Y s₀ D s vs (Q : Value → Shared → Prop), AOk n A → Rel C Y s₀ D env S s → VRs s.heap (Xo C Y env S) vs as → (∀ r s', SStp C.T [] s s' → VR s'.heap (Xo C Y env S) r c → Q r s') → wpAny (model C.prog C.w) A (m vs) Q No s) : PN C n env S m as c :=
  fun A Y s₀ D s vs Q ha R r q => h A Y s₀ D s vs Q ha R r fun r s' x rc => q r s' _ S ⟨rfl, rfl⟩ (R.go ok x) (Kp.go R x) rc
namespace O
theorem len_str {x : Str} (hz : x.length ≤ sizeLine) : PN C n env S (fun vs => call (.builtin "len") vs) [.str x] (.int x.length) := .of ok fun _ _ _ _ _ _ _ r _ _ q => by
  refine VRs.el_cons r fun _ _ r rs => ?_; refine VR.el_str r fun _ => ?_; refine VRs.el_nil rs ?_; exact PyProof.Rows.len_str (by unfold sizeLine at hz; lia) (q _ _ (.toks ..) (.int ..))
theorem len_lst {l : List AV} (hz : l.length ≤ sizeLine) : PN C n env S (fun vs => call (.builtin "len") vs) [.lst l] (.int l.length) := .of ok fun _ _ _ _ _ _ _ r _ _ q => by
  refine VRs.el_cons r fun _ _ r rs => ?_; refine VRs.el_nil rs ?_; refine VR.el_lst r fun _ _ _ e n rs => ?_; exact len_list (isList_of e) (by rw [List.size_toArray, rs.length]; unfold sizeLine at hz; lia) (q _ _ (.toks ..) (by rw [List.size_toArray, rs.length]; exact .int ..))
theorem len_tup {l : List AV} (hz : l.length ≤ sizeLine) : PN C n env S (fun vs => call (.builtin "len") vs) [.tup l] (.int l.length) := .of ok fun _ _ _ _ _ _ _ r _ _ q => by
  refine VRs.el_cons r fun _ _ r rs => ?_; refine VRs.el_nil rs ?_; refine VR.el_tup r fun _ _ _ e n rs => ?_; exact PyProof.Rows.len_tuple (isTup_of e) (by rw [List.size_toArray, rs.length]; unfold sizeLine at hz; lia) (q _ _ (.toks ..) (by rw [List.size_toArray, rs.length]; exact .int ..))
theorem len_lstM {a : Addr} {l : List AV} (hM : (a, AO.list l) ∈ S.M) (hz : l.length ≤ sizeLine) : PN C n env S (fun vs => call (.builtin "len") vs) [.raw (.ref a)] (.int l.length) := .M ok fun _ _ _ _ _ _ _ _ R r q => by
  refine VRs.el_cons r fun _ _ r rs => ?_; refine VRs.el_nil rs ?_; refine VR.el_raw r ?_; obtain ⟨vs, k, e, rs⟩ := R.ob _ hM; exact len_list (isList_of e) (by rw [List.size_toArray, rs.length]; unfold sizeLine at hz; lia) (q _ _ (.toks ..) (by rw [List.size_toArray, rs.length]; exact .int ..))
theorem range1 {b : Int} : P1 C n env S (fun v => call (.type "range") [v]) (.int b) (.rng 0 b 1) := .of ok fun _ X s _ _ _ _ r lt _ q => by
  refine VR.el_int r fun _ => ?_; exact call_range_1 (q _ _ ((SStp.alloc ..).trans0 (.toks ..)) (.rng (IsRange.new ..) (fun h => absurd (lt _ h) (Nat.lt_irrefl _))))
theorem range2 {a b : Int} : PN C n env S (fun vs => call (.type "range") vs) [.int a, .int b] (.rng a b 1) := .of ok fun _ X s _ _ _ _ r lt _ q => by
  refine VRs.el_cons r fun _ _ r rs => ?_; refine VRs.el_cons rs fun _ _ r' rs => ?_; refine VRs.el_nil rs ?_; refine VR.el_int r fun _ => ?_; refine VR.el_int r' fun _ => ?_; exact call_range_2 (q _ _ ((SStp.alloc ..).trans0 (.toks ..)) (.rng (IsRange.new ..) (fun h => absurd (lt _ h) (Nat.lt_irrefl _))))
theorem str_int {a : Int} (ha : a.natAbs.log2 < 1920) : P1 C n env S (fun v => call (.type "str") [v]) (.int a) (.str (toString a)) := .of ok fun _ X s _ _ _ _ r lt _ q => by
  refine VR.el_int r fun _ => ?_; exact P.str_of_int ha (q _ _ (.toks ..) (.str ..))
end O
omit ok in
theorem T1.none : T1 C n env S .none false := fun A Y s₀ D s v Q ha R r q => by refine VR.el_none r ?_; exact PyProof.Rows.truthy_none (q _ _ _ _ ⟨rfl, rfl⟩ R .refl rfl)
theorem T1.int {a : Int} : T1 C n env S (.int a) (a != 0) := fun A Y s₀ D s v Q ha R r q => by
  refine VR.el_int r fun _ => ?_; exact truthy_int (q _ _ _ _ ⟨rfl, rfl⟩ R .refl rfl)
theorem T1.str {x : Str} (hz : x.length ≤ sizeLine) : T1 C n env S (.str x) ((x.length : Int) != 0) := fun A Y s₀ D s v Q ha R r q => by
  refine VR.el_str r fun _ => ?_; exact P.truthy_str (by unfold sizeLine at hz; lia) (q _ _ _ _ ⟨rfl, rfl⟩ (R.go ok (.toks ..)) (Kp.go R (.toks ..)) rfl)
theorem T1.lstM {a : Addr} {l : List AV} (hM : (a, AO.list l) ∈ S.M) (hz : l.length ≤ sizeLine) : T1 C n env S (.raw (.ref a)) (!l.isEmpty) := fun A Y s₀ D s v Q ha R r q => by
  refine VR.el_raw r ?_
  ·
    obtain ⟨vs, k, e, rs⟩ := R.ob _ hM
    refine wpAny_truthy_list (isList_of e) (by rw [List.size_toArray, rs.length]; unfold sizeLine at hz; lia) (q _ _ _ _ ⟨rfl, rfl⟩ (R.go ok (.toks ..)) (Kp.go R (.toks ..)) ?_)
    have := rs.length
    cases vs <;> cases l <;> simp_all [BR]
theorem PE.neg {e : Expr} {pos : Pos} {a : Int} (h : PE C n env S e (.int a)) : PE C n env S (.UnaryOp .USub e pos) (.int (-a)) := fun A Y s₀ D s Q ha R q => wpAny_UnaryOp (h A Y s₀ D s _ ha R fun v s₁ a₁ S₁ p R₁ K₁ r => by
  obtain ⟨rfl, rfl⟩ := p
  refine VR.el_int r fun _ => ?_
  exact PyProof.Rows.neg_int (q _ _ _ _ ⟨rfl, rfl⟩ (R₁.go ok (.toks ..)) (K₁.trans (Kp.go R₁ (.toks ..))) (.int ..)))
end
end Mine
namespace Mine
section
variable {C : Cx} (ok : C.Ok) {n : Nat} {env : Env} {S : St}
include ok
omit ok in
theorem EV.bmeth {T id : String} {o : Expr} {name : Str} {e : Expr} {es : List Expr} {apos pos : Pos} {P : AV → St → Prop} (slot : Slot T name id) (pa : PlainAttrs T) (ty : typeOf (.builtin id) = pure (.type "method_descriptor"))
    (h : EV C n env S o fun a S₁ => ∃ p, a = .raw (.ref p) ∧ (∀ (Y D : List Addr) s₀ s, Rel C Y s₀ D env S₁ s → ∃ ob, s.heap.get? p = some ob ∧ ob.cls = .type T ∧ ob.dict = none) ∧
      EL C n env S₁ pos (e :: es) fun l S₂ => VN C n env S₂ (fun vs => call (.builtin id) (.ref p :: vs)) l P)
    (hbase : attributeBase o name env (eval o env) = eval o env := by rfl)
    (hfew : ((backTo pos (starEach (e :: es) env)).all (fun x => !x.1) && (backToKw pos (keywordEach [] env)).all (fun x => x.1.isSome) && decide ((e :: es).length + ([] : List Keyword).length + (if ([] : List Keyword).isEmpty then 0 else 1) < 30)) = true := by rfl)
    (hline : (apos.endLine == pos.line) = true := by rfl)
    (he : starEach (e :: es) env = (false, eval e env) :: starEach es env := by rfl) (hplain : (backTo pos (starEach es env)).any (·.1) = false := by rfl) :
    EV C n env S (.Call (.Attribute o name apos) (e :: es) [] pos) P :=
  fun A Y s₀ D s Q ha R q => wpAny_Call_method_lateS hbase hfew hline (h A Y s₀ D s _ ha R fun v s₁ a S₁ p R₁ K₁ rv => by
    obtain ⟨p, rfl, hob, hEL⟩ := p
    refine VR.el_raw rv ?_
    obtain ⟨ob, e1, e2, e3⟩ := hob _ _ _ _ R₁
    refine ⟨T, id, pa, slot, ty, ⟨ob, e1, e2⟩, (fun a ea => by cases ea; exact ⟨ob, e1, e3⟩), ?_⟩
    rw [he]
    refine Calls.callWith_builtin (by show (false || (backTo pos (starEach es env)).any (·.1)) = false; rw [hplain]; rfl) (evalArgs_plain ?_)
    have h' := hEL A Y s₀ D s₁ (fun vs s₂ => wpAny (model C.prog C.w) A (call (.builtin id) ([.ref p] ++ vs)) Q No s₂) ha R₁ fun vs s₂ l S₂ p₂ R₂ K₂ r₂ => p₂ A Y s₀ D s₂ vs Q ha R₂ r₂ fun r s₃ b S₃ p₃ R₃ K₃ r₃ => q r s₃ b S₃ p₃ R₃ ((K₁.trans K₂).trans K₃) r₃
    rw [he] at h'
    exact h')
omit ok in
theorem PE.bmeth {T id : String} {o : Expr} {name : Str} {e : Expr} {es : List Expr} {apos pos : Pos} {p : Addr} {l : List AV} {c : AV} (slot : Slot T name id) (pa : PlainAttrs T) (ty : typeOf (.builtin id) = pure (.type "method_descriptor"))
    (ho : PE C n env S o (.raw (.ref p))) (hob : ∀ (Y D : List Addr) s₀ s, Rel C Y s₀ D env S s → ∃ ob, s.heap.get? p = some ob ∧ ob.cls = .type T ∧ ob.dict = none)
    (hl : PL C n env S pos (e :: es) l) (h : PN C n env S (fun vs => call (.builtin id) (.ref p :: vs)) l c)
    (hbase : attributeBase o name env (eval o env) = eval o env := by rfl)
    (hfew : ((backTo pos (starEach (e :: es) env)).all (fun x => !x.1) && (backToKw pos (keywordEach [] env)).all (fun x => x.1.isSome) && decide ((e :: es).length + ([] : List Keyword).length + (if ([] : List Keyword).isEmpty then 0 else 1) < 30)) = true := by rfl)
    (hline : (apos.endLine == pos.line) = true := by rfl)
    (he : starEach (e :: es) env = (false, eval e env) :: starEach es env := by rfl) (hplain : (backTo pos (starEach es env)).any (·.1) = false := by rfl) :
    PE C n env S (.Call (.Attribute o name apos) (e :: es) [] pos) c := EV.bmeth slot pa ty (ho.then ⟨p, rfl, hob, hl.then h⟩) hbase hfew hline he hplain
omit ok in
theorem PE.callB {id : String} {x : Str} {e : Expr} {es : List Expr} {p pos : Pos} {l : List AV} {c : AV} (hf : PE C n env S (.Name x p) (.raw (.builtin id))) (hl : PL C n env S pos (e :: es) l) (h : PN C n env S (fun vs => call (.builtin id) vs) l c)
    (he : starEach (e :: es) env = (false, eval e env) :: starEach es env := by rfl) (hplain : (backTo pos (starEach es env)).any (·.1) = false := by rfl) : PE C n env S (.Call (.Name x p) (e :: es) [] pos) c := EV.callB hf (hl.then h) he hplain
omit ok in
theorem PE.callT1 {T : String} {x : Str} {e : Expr} {p pos : Pos} {a c : AV} (hf : PE C n env S (.Name x p) (.raw (.type T))) (ha : PE C n env S e a) (h : P1 C n env S (fun v => call (.type T) [v]) a c) (hs : starEach [e] env = [(false, eval e env)] := by rfl) :
    PE C n env S (.Call (.Name x p) [e] [] pos) c := EV.callT1 hf (ha.then h) hs
omit ok in
theorem PE.callF {f : Addr} {o : Obj} {fd : FuncData} {x : Str} {e : Expr} {es : List Expr} {p pos : Pos} {l : List AV} {c : AV} (hf : PE C n env S (.Name x p) (.raw (.ref f))) (ho : C.K.lookup f = some o) (hd : o.data = .func fd)
    (hl : PL C n env S pos (e :: es) l) (h : FN C n f S.M l fun a M' => a = c ∧ M' = S.M)
    (he : starEach (e :: es) env = (false, eval e env) :: starEach es env := by rfl) : PE C n env S (.Call (.Name x p) (e :: es) [] pos) c :=
  EV.callF hf ho hd (hl.then ((h env S.μ).mono fun a S' e => ⟨e.2.1, by obtain ⟨μ, M⟩ := S'; obtain ⟨e1, _, e3⟩ := e; cases e1; cases e3; rfl⟩)) he
omit ok in
theorem listOb {p : Addr} {l : List AV} (hM : (p, AO.list l) ∈ S.M) : ∀ (Y D : List Addr) s₀ s, Rel C Y s₀ D env S s → ∃ ob, s.heap.get? p = some ob ∧ ob.cls = .type "list" ∧ ob.dict = none := fun Y D s₀ s R => by
  obtain ⟨vs, k, e, _⟩ := R.ob _ hM; exact ⟨_, e, rfl, rfl⟩
omit ok in
theorem dictOb {p : Addr} {l : List (Str × AV)} (hM : (p, AO.sdict l) ∈ S.M) : ∀ (Y D : List Addr) s₀ s, Rel C Y s₀ D env S s → ∃ ob, s.heap.get? p = some ob ∧ ob.cls = .type "dict" ∧ ob.dict = none := fun Y D s₀ s R => by
  obtain ⟨kvs, e, _⟩ := R.ob _ hM
  obtain ⟨o, es, ep, ho, hc, hd, h1, h2⟩ := e
  exact ⟨o, ho, hc.1, hc.2.1⟩
omit ok in
theorem VRs.take {h : Heap} {X : List Addr} : ∀ {vs : List Value} {l : List AV} (k : Nat), VRs h X vs l → VRs h X (vs.take k) (l.take k)
  | _, _, 0, _ => .nil
  | _, _, _ + 1, .nil => .nil
  | _, _, k + 1, .cons a b => .cons a (VRs.take k b)
omit ok in
theorem VRs.drop {h : Heap} {X : List Addr} : ∀ {vs : List Value} {l : List AV} (k : Nat), VRs h X vs l → VRs h X (vs.drop k) (l.drop k)
  | _, _, 0, r => r
  | _, _, _ + 1, .nil => .nil
  | _, _, k + 1, .cons a b => VRs.drop k b
theorem Rel.setList {Y D : List Addr} {s₀ s s' : Shared} (R : Rel C Y s₀ D env S s) {i : Nat} {a : Addr} {l l' : List AV} (hM : S.M[i]? = some (a, .list l)) {vs : List Value} {k : Nat} (e : s'.heap.get? a = some ⟨.type "list", Option.none, .seq vs.toArray k, #[]⟩)
    (st : SStp C.T [a] s s') (r : VRs s.heap (Xo C Y env S) vs l') : Rel C Y s₀ D env ⟨S.μ, S.M.set i (a, .list l')⟩ s' ∧ Kp C Y env S s ⟨S.μ, S.M.set i (a, .list l')⟩ s' :=
  R.setObj ok (o' := .list l') hM rfl (List.mem_cons_self ..) st ⟨_, e⟩ ⟨vs, k, e, VRs.stp st.heap (R.inX (List.mem_append_right _ (mem_feet (mem_of_get? hM) (List.mem_cons_self ..)))) R.hT r⟩
theorem upd_stp {s : Shared} {a : Addr} {f : Obj → Obj} {t : Nat} (ha : a ∉ C.T) : SStp C.T [a] s { s with heap := s.heap.update a f, toks := t } := ⟨.sameBut (Heap.SameBut.update ..) ha, rfl, rfl, id⟩
omit ok in
theorem upd_list {h : Heap} {p : Addr} {items : Array Value} {n : Nat} (x : IsL h p items n) (f : Array Value → Array Value) (ws : List Value) (e : f items = ws.toArray) : ∃ k, (h.update p (Obj.mapSeq f)).get? p = some ⟨.type "list", Option.none, .seq ws.toArray k, #[]⟩ := ⟨_, e ▸ x.update f⟩
namespace O
theorem append {i : Nat} {p : Addr} {l : List AV} {a : AV} {P : AV → St → Prop} (hM : S.M[i]? = some (p, .list l)) (hz : l.length ≤ sizeLine) (h : P .none ⟨S.μ, S.M.set i (p, .list (l ++ [a]))⟩) :
    VN C n env S (fun vs => call (.builtin "list.append") (.ref p :: vs)) [a] P := fun A Y s₀ D s vs Q ha R r q => by
  refine VRs.el_cons r fun v0 _ r rs => ?_
  ·
    refine VRs.el_nil rs ?_
    obtain ⟨ws, k, e, rw_⟩ := R.ob _ (mem_of_get? hM)
    refine wpAny_list_append_plain ⟨k, e⟩ (fun h' hp hs => ?_) (by rw [List.size_toArray, rw_.length]; exact hz)
    obtain ⟨k', e'⟩ := hp
    have e2 : ws.toArray.push v0 = (ws ++ [v0]).toArray := by simp
    rw [e2] at e'
    have hT : p ∉ C.T := R.tn (List.mem_append_right _ (List.mem_append_left _ (mem_feet (mem_of_get? hM) (List.mem_cons_self ..))))
    obtain ⟨R', K'⟩ := Rel.setList ok R (s' := { s with heap := h' }) hM e' ⟨.sameBut hs hT, rfl, rfl, id⟩ (rw_.append (.one r))
    exact q _ _ _ _ h R' K' .none
noncomputable def insAt (l : List AV) (k : Nat) (a : AV) : List AV := l.take k ++ a :: l.drop k
theorem insert {i : Nat} {p : Addr} {l : List AV} {k : Int} {a : AV} {P : AV → St → Prop} (hM : S.M[i]? = some (p, .list l)) (hz : l.length ≤ sizeLine) (h0 : 0 ≤ k) (hk : k ≤ l.length) (h : P .none ⟨S.μ, S.M.set i (p, .list (insAt l k.toNat a))⟩) :
    VN C n env S (fun vs => call (.builtin "list.insert") (.ref p :: vs)) [.int k, a] P := fun A Y s₀ D s vs Q ha R r q => by
  refine VRs.el_cons r fun _ _ r rs => ?_
  ·
    refine VRs.el_cons rs fun v0 _ r' rs => ?_
    ·
      refine VRs.el_nil rs ?_
      refine VR.el_int r fun u => ?_
      ·
        obtain ⟨ws, kk, e, rw_⟩ := R.ob _ (mem_of_get? hM)
        have hT : p ∉ C.T := R.tn (List.mem_append_right _ (List.mem_append_left _ (mem_feet (mem_of_get? hM) (List.mem_cons_self ..))))
        have hfit : Builtin.List.listFitsIndex k = true := by
          unfold sizeLine at hz
          unfold Builtin.List.listFitsIndex
          simp
          lia
        refine call_meets F.slot_list_insert ⟨_, e, rfl⟩ F.entry_list_insert (F.args_list_insert_3 _ _ _) (AutoListH.list_insert_list_int_val_1 p ws.toArray kk k u _ (by rw [hfit]; decide) (by rw [List.size_toArray, rw_.length]; exact hz)) ⟨e, ?_⟩
        have hlen := rw_.length
        have ei : (if k < 0 then (k + ((ws.toArray.size : Nat) : Int)).toNat else min k.toNat ws.toArray.size) = k.toNat := by
          rw [if_neg (by lia), List.size_toArray, hlen, Nat.min_eq_left (by lia)]
        have e3 : ∀ K : Nat, K = k.toNat → (ws.toArray.extract 0 K).push v0 ++ ws.toArray.extract K = (ws.take k.toNat ++ v0 :: ws.drop k.toNat).toArray := by
          rintro K rfl
          apply Array.ext'
          have : List.take (ws.length - k.toNat) (List.drop k.toNat ws) = List.drop k.toNat ws := List.take_of_length_le (by simp)
          simp [this]
        obtain ⟨kk', e'⟩ := upd_list (show IsL s.heap p ws.toArray kk from e) (fun xs : Array Value => have k := if k < 0 then (k + ((xs.size : Nat) : Int)).toNat else min k.toNat xs.size; (xs.extract 0 k).push v0 ++ xs.extract k) _ (e3 _ ei)
        obtain ⟨R', K'⟩ := Rel.setList ok R (s' := { s with heap := s.heap.update p (Obj.mapSeq fun xs : Array Value => have k := if k < 0 then (k + ((xs.size : Nat) : Int)).toNat else min k.toNat xs.size; (xs.extract 0 k).push v0 ++ xs.extract k), toks := s.toks }) hM e' (upd_stp ok hT) (l' := insAt l k.toNat a) ((rw_.take k.toNat).append (.cons r' (rw_.drop k.toNat)))
        exact q _ _ _ _ h R' K' .none
end O
end
end Mine
end
section
open PySem PySem.Sre
set_option tactic.hygienic false
namespace Mine.Re
noncomputable def code : Array Nat := #[14, 8, 1, 2, 4294967295, 1, 1, 46, 0, 16, 46, 24, 9, 1, 4294967295, 13, 4, 8, 0, 0, 1, 6, 5, 1]
noncomputable def fr (s : Nat) (ou : Bool) : Sre.Frame := { wait := .nextStart, pc := 9, pos := s, outermost := ou }
noncomputable def Mx (text : Array Nat) (pc pos hd st : Nat) (ou : Bool) (fs : List Sre.Frame) (wt : Nat) (an : Option Bool) (sn : Seen) (ou2 : Option Sre.Outcome) : Sre.M :=
  { code := code, text := text, lim := text.size, start := st, lastStart := text.size, pc := pc, pos := pos, handed := hd, outermost := ou, marks := #[], frames := fs, weight := wt, answer := an, seen := sn, outcome := ou2 }
variable {text : Array Nat} {s hd st : Nat} {ou : Bool} {sn : Seen}
theorem step_lit_no (h : ¬ (text.getD s 0 = 46) ∨ text.size ≤ s) : ∃ sn', (Mx text 9 s hd st ou [fr s ou] 1 none sn none).step = Mx text 9 s hd st ou [fr s ou] 1 (some false) sn' none := by
  show ∃ sn', (Mx text 9 s hd st ou [fr s ou] 1 none sn none).exec = _
  unfold M.exec Mx
  have e : ops[(M.word { code := code, text := text, lim := text.size, start := st, lastStart := text.size, pc := 9, pos := s, handed := hd, outermost := ou, marks := #[], frames := [fr s ou], weight := 1, answer := none, seen := sn, outcome := none } 0)]? = some .LITERAL := by rfl
  rw [e]
  dsimp only
  by_cases hs : s ≥ text.size
  · rw [if_pos hs]; exact ⟨_, rfl⟩
  · rw [if_neg hs]
    have hc : ¬ (text.getD s 0 = 46) := by rcases h with h | h; exact h; exact absurd h hs
    have ea : ∀ sn, accepts code 9 (text.getD s 0) sn = .ok (false, sn) := fun sn => by
      show (Except.ok ((text.getD s 0) == 46, sn) : Except String (Bool × Seen)) = _
      rw [beq_eq_false_iff_ne.mpr hc]
    rw [ea]; exact ⟨_, rfl⟩
theorem step_lit_yes (h : text.getD s 0 = 46) (hs : s < text.size) : ∃ sn', (Mx text 9 s hd st ou [fr s ou] 1 none sn none).step = Mx text 11 (s + 1) hd st ou [fr s ou] 1 none sn' none := by
  show ∃ sn', (Mx text 9 s hd st ou [fr s ou] 1 none sn none).exec = _
  unfold M.exec Mx
  have e : ops[(M.word { code := code, text := text, lim := text.size, start := st, lastStart := text.size, pc := 9, pos := s, handed := hd, outermost := ou, marks := #[], frames := [fr s ou], weight := 1, answer := none, seen := sn, outcome := none } 0)]? = some .LITERAL := by rfl
  rw [e]
  dsimp only
  rw [if_neg (Nat.not_le.mpr hs)]
  have ea : ∀ sn, accepts code 9 (text.getD s 0) sn = .ok (true, sn) := fun sn => by
    show (Except.ok ((text.getD s 0) == 46, sn) : Except String (Bool × Seen)) = _
    rw [h]; rfl
  rw [ea]; exact ⟨_, rfl⟩
theorem run_none {p k : Nat} (h : isDigit (text.getD p 0) = false) : ∃ sn', Sre.run code text 15 k p 0 sn = .ok (0, sn') := by
  cases k with
  | zero => exact ⟨sn, rfl⟩
  | succ k =>
    have ea : ∃ sn', accepts code 15 (text.getD p 0) sn = .ok (false, sn') := by
      generalize text.getD p 0 = c at h
      have ec : category 0 c = .ok false := by
        have : category 0 c = .ok (isDigit c) := by unfold category; cases isDigit c <;> rfl
        rw [this, h]
      show ∃ sn', (do if ← category 0 c then pure (true, (Seen.add (Seen.add sn 8) 55)) else inSet code c 23 19 true (Seen.add (Seen.add sn 8) 55) : Except String (Bool × Seen)) = _
      rw [ec]
      exact ⟨_, rfl⟩
    obtain ⟨sn', e⟩ := ea
    refine ⟨sn', ?_⟩
    unfold Sre.run
    rw [e]; rfl
theorem step_rep (h : isDigit (text.getD (s + 1) 0) = false) : ∃ sn', (Mx text 11 (s + 1) hd st ou [fr s ou] 1 none sn none).step = Mx text 11 (s + 1) hd st ou [fr s ou] 1 (some false) sn' none := by
  show ∃ sn', (Mx text 11 (s + 1) hd st ou [fr s ou] 1 none sn none).exec = _
  unfold M.exec Mx
  have e : ops[(M.word { code := code, text := text, lim := text.size, start := st, lastStart := text.size, pc := 11, pos := s + 1, handed := hd, outermost := ou, marks := #[], frames := [fr s ou], weight := 1, answer := none, seen := sn, outcome := none } 0)]? = some .REPEAT_ONE := by rfl
  rw [e]
  dsimp only
  split
  · exact ⟨_, rfl⟩
  · rename_i hroom
    obtain ⟨sn', er⟩ := run_none (sn := ((sn.add 24).add 13)) (k := min 4294967295 (((text.size : Int) - ((s + 1 : Nat) : Int)).toNat)) h
    refine ⟨sn', ?_⟩
    generalize hrun : Sre.run code text (11 + 4) _ (s + 1) 0 _ = rr
    have : rr = .ok (0, sn') := hrun.symm.trans er
    subst this
    rfl
theorem step_back {pc pos : Nat} (hs : s < text.size) : (Mx text pc pos hd st ou [fr s ou] 1 (some false) sn none).step = Mx text 9 (s + 1) (s + 1) (s + 1) false [fr (s + 1) false] 1 none sn none := by
  show (if s < text.size then _ else _) = _
  rw [if_pos hs]
  rfl
theorem step_end {pc pos : Nat} (hs : text.size ≤ s) : (Mx text pc pos hd st ou [fr s ou] 1 (some false) sn none).step = Mx text 9 s hd st ou [] 0 (some false) sn none := by
  show (if s < text.size then _ else _) = _
  rw [if_neg (Nat.not_lt.mpr hs)]
  rfl
theorem step_out {pc pos : Nat} : (Mx text pc pos hd st ou [] 0 (some false) sn none).step = Mx text pc pos hd st ou [] 0 (some false) sn (some .failed) := rfl
inductive Ends : Nat → Sre.M → Prop
  | now {m : Sre.M} : m.outcome = some Sre.Outcome.failed → Ends 0 m
  | step {k : Nat} {m : Sre.M} : m.outcome = none → Ends k m.step → Ends (k + 1) m
theorem Ends.run {k : Nat} {m : Sre.M} (h : Ends k m) : ∀ j, if k ≤ j then (m.runFor j).outcome = some Sre.Outcome.failed else (m.runFor j).outcome = none ∧ Ends (k - j) (m.runFor j) := by
  induction h with
  | now e =>
    intro j
    rw [if_pos (Nat.zero_le _)]
    cases j with
    | zero => exact e
    | succ j => unfold M.runFor; rw [if_pos (by rw [e]; rfl)]; exact e
  | @step k m e h ih =>
    intro j
    cases j with
    | zero => rw [if_neg (by lia)]; exact ⟨e, Ends.step e h⟩
    | succ j =>
      have er : M.runFor (j + 1) m = M.runFor j m.step := by
        rw [M.runFor.eq_2, if_neg (by rw [e]; decide)]
      rw [er]
      have := ih j
      by_cases hk : k ≤ j
      · rw [if_pos hk] at this; rw [if_pos (by lia)]; exact this
      · rw [if_neg hk] at this; rw [if_neg (by lia)]
        rw [show k + 1 - (j + 1) = k - j by lia]; exact this
theorem fails (hd' : ∀ i, isDigit (text.getD i 0) = false) : ∀ (d s : Nat) (hd st : Nat) (ou : Bool) (sn : Seen), s + d = text.size → ∃ k, k ≤ 3 * d + 4 ∧ Ends k (Mx text 9 s hd st ou [fr s ou] 1 none sn none) := by
  have one : ∀ (s hd st : Nat) (ou : Bool) (sn : Seen), ∃ j, 1 ≤ j ∧ j ≤ 2 ∧ ∃ pc pos sn', ∀ k, Ends k (Mx text pc pos hd st ou [fr s ou] 1 (some false) sn' none) → Ends (k + j) (Mx text 9 s hd st ou [fr s ou] 1 none sn none) := by
    intro s hd st ou sn
    have lit : (¬ (text.getD s 0 = 46) ∨ text.size ≤ s) → ∃ j, 1 ≤ j ∧ j ≤ 2 ∧ ∃ pc pos sn', ∀ k, Ends k (Mx text pc pos hd st ou [fr s ou] 1 (some false) sn' none) → Ends (k + j) (Mx text 9 s hd st ou [fr s ou] 1 none sn none) := fun h => by
      obtain ⟨sn', e⟩ := step_lit_no (hd := hd) (st := st) (ou := ou) (sn := sn) h
      exact ⟨1, by lia, by lia, 9, s, sn', fun k hk => .step rfl (e ▸ hk)⟩
    by_cases hs : text.size ≤ s
    · exact lit (.inr hs)
    · by_cases h46 : text.getD s 0 = 46
      · obtain ⟨sn1, e1⟩ := step_lit_yes (hd := hd) (st := st) (ou := ou) (sn := sn) h46 (Nat.lt_of_not_le hs)
        obtain ⟨sn2, e2⟩ := step_rep (hd := hd) (st := st) (ou := ou) (sn := sn1) (hd' (s + 1))
        exact ⟨2, by lia, by lia, 11, s + 1, sn2, fun k hk => .step rfl (e1 ▸ .step rfl (e2 ▸ hk))⟩
      · exact lit (.inl h46)
  intro d
  induction d with
  | zero =>
    intro s hd st ou sn e
    obtain ⟨j, _, hj, pc, pos, sn', f⟩ := one s hd st ou sn
    refine ⟨2 + j, by lia, f 2 (.step rfl ?_)⟩
    rw [step_end (by lia)]
    exact .step rfl (by rw [step_out]; exact .now rfl)
  | succ d ih =>
    intro s hd st ou sn e
    obtain ⟨j, _, hj, pc, pos, sn', f⟩ := one s hd st ou sn
    obtain ⟨k, hk, h⟩ := ih (s + 1) (s + 1) (s + 1) false sn' (by lia)
    exact ⟨(k + 1) + j, by lia, f (k + 1) (.step rfl (by rw [step_back (by lia)]; exact h))⟩
open PySem.Builtin.Re
section
variable {prog : Program} {w : World} {A : Around} {E : Value → Shared → Prop} {sh : Shared}
theorem wp_drive {m : Sre.M} : ∀ (t k : Nat) (m : Sre.M), Ends k m → k ≤ 4 * t → 1 ≤ t → ∀ {Q : Sre.M → Shared → Prop}, (∀ m', m'.outcome = some Sre.Outcome.failed → Q m' sh) → wpAny (model prog w) A (reDrive t m) Q E sh := by
  intro t
  induction t with
  | zero => intro k m _ _ h; lia
  | succ t ih =>
    intro k m h hk _ Q hQ
    unfold reDrive
    have hr := h.run reTurnSteps
    by_cases h4 : k ≤ reTurnSteps
    · rw [if_pos h4] at hr
      show wpAny _ _ (if (M.runFor reTurnSteps m).outcome.isSome = true then pure (M.runFor reTurnSteps m) else _) Q E sh
      rw [if_pos (by rw [hr]; rfl)]
      exact wpAny_pure (hQ _ hr)
    · rw [if_neg h4] at hr
      show wpAny _ _ (if (M.runFor reTurnSteps m).outcome.isSome = true then pure (M.runFor reTurnSteps m) else _) Q E sh
      rw [if_neg (by rw [hr.1]; decide)]
      have h4' : reTurnSteps = 4 := rfl
      refine wpAny_bind (wpAny_rule ?_)
      exact ih (k - reTurnSteps) _ hr.2 (by lia) (by lia) hQ
theorem wp_rules {m : Sre.M} {Q : PUnit → Shared → Prop} {f : Nat → PUnit → Sem (ForInStep PUnit)} (hf : ∀ i u, f i u = (if m.seen.has i then do rule (Sre.names.getD i ""); pure (ForInStep.yield PUnit.unit) else pure (ForInStep.yield PUnit.unit))) (h : Q ⟨⟩ sh) :
    ∀ l : List Nat, wpAny (model prog w) A (forIn l PUnit.unit f) Q E sh := by
  intro l
  induction l with
  | nil => exact wpAny_pure h
  | cons i l ih =>
    rw [List.forIn_cons, hf]
    refine wpAny_bind ?_
    cases hh : m.seen.has i
    · exact wpAny_pure ih
    · exact wpAny_bind (wpAny_rule (wpAny_pure ih))
theorem wp_end {m : Sre.M} {k : Nat} (h : Ends k m) (hk : k ≤ 2 ^ 60) {Q : Option Sre.M → Shared → Prop} (hQ : Q none sh) : wpAny (model prog w) A (reRunToEnd m) Q E sh := by
  unfold reRunToEnd
  refine wpAny_bind (wp_drive (m := m) (2 ^ 64) k m h (by lia) (by lia) fun m' hm => ?_)
  refine wpAny_bind (wp_rules (m := m') (fun i u => ?_) ?_ _)
  · cases m'.seen.has i <;> rfl
  · rw [hm]; exact wpAny_pure hQ
end
end Mine.Re
end
section
open PySem PySem.W PySem.Calls PyProof.Rows
open PySem.Builtin.Re
set_option tactic.hygienic false
namespace Mine.Re
theorem plainAttrs_pat : PlainAttrs "re.Pattern" :=
  ⟨⟨"object.__getattribute__", by rw [typeLookup_type, builtinLookup_eq_fast]; kernel_rfl, by decide +kernel⟩, by rw [typeLookup_type, builtinLookup_eq_fast]; kernel_rfl⟩
theorem slot_search : Slot "re.Pattern" "search" "re.Pattern.search" :=
  .of (owner := "re.Pattern") (n := "search") (by rw [typeLookup_type, builtinLookup_eq_fast]; kernel_rfl) (by decide +kernel) (by decide +kernel) (by decide +kernel)
    (by first | exact .inl (by decide +kernel) | exact .inr (by decide +kernel)) (by rw [isSubtype_type]; kernel_rfl)
theorem type_search : typeOf (.builtin "re.Pattern.search") = pure (.type "method_descriptor") := by show builtinType _ = _; rw [builtinType_eq_fast]; kernel_rfl
theorem entry_search : entryFor table "re.Pattern.search" = some Builtin.«re.Pattern.search» := entryFor_of_tree (by kernel_rfl)
theorem args_search (a b : Value) : argsOk "re.Pattern.search" ⟨[a, b], []⟩ := by unfold argsOk; kernel_rfl
theorem named_search (v : Value) : reNamed "re.Pattern.search" "search" ["string", "pos", "endpos"] 1 [v] [] = pure [some v, none, none] := by rfl
theorem search_ends (text : Array Nat) (hd : ∀ i, Sre.isDigit (text.getD i 0) = false) : ∃ k, k ≤ 3 * text.size + 4 ∧ Ends k (Sre.forSearch code text 0 0 text.size false) := by
  by_cases h : text.size < 2
  · have e : Sre.forSearch code text 0 0 text.size false = { code := code, text := text, lim := text.size, start := 0, pc := 9, pos := 0, handed := 0, marks := #[], answer := some false, seen := ({} : Sre.Seen).add 14 } := by
      have hc : (decide (0 > text.size) || decide (text.size - 0 < 2)) = true := by simp [h]
      show (if (decide (0 > text.size) || decide (text.size - 0 < 2)) = true then _ else _) = _
      rw [if_pos hc]
      rfl
    rw [e]
    exact ⟨1, by lia, .step rfl (.now rfl)⟩
  · have e : Sre.forSearch code text 0 0 text.size false = Mx text 9 0 0 0 true [fr 0 true] 1 none (({} : Sre.Seen).add 14) none := by
      have hc : ¬ (decide (0 > text.size) || decide (text.size - 0 < 2)) = true := by simp; lia
      show (if (decide (0 > text.size) || decide (text.size - 0 < 2)) = true then _ else _) = _
      rw [if_neg hc]
      rfl
    rw [e]
    exact fails hd text.size 0 0 0 true _ (Nat.zero_add _)
section
variable {prog : Program} {w : World} {A : Around} {E : Value → Shared → Prop} {s : Shared}
theorem wp_search {p q : Addr} {x : Str} {t : Tok} {fl : Array Value} {op oq : Obj} {vs : Array Value} {k : Nat} {Q : Value → Shared → Prop} (hp : s.heap.get? p = some op) (hpc : op.cls = .type "re.Pattern") (hpd : op.data = .fields fl)
    (h2 : reRawNat (fl.getD 2 .none) = 0) (h6 : reRawNat (fl.getD 6 .none) = 0) (h5 : fl.getD 5 .none = .ref q) (hq : s.heap.get? q = some oq) (hqd : oq.data = .seq vs k) (hv : (vs.map reRawOf).map (·.toNat) = code)
    (hd : ∀ i, Sre.isDigit (x.cps.getD i 0) = false) (hz : x.length ≤ sizeLine) (h : Q .none s) : wpAny (model prog w) A (call (.builtin "re.Pattern.search") [.ref p, .str x t]) Q E s := by
  refine wpAny_call_entry slot_search ⟨_, hp, hpc⟩ entry_search ?_ (args_search _ _)
  show wpAny _ _ (reTarget "re.Pattern.search" "search" ⟨[.ref p, .str x t], []⟩ >>= fun t => reAnswer t (Sre.forSearch t.code t.text t.groups t.pos t.lim false)) _ _ s
  refine wpAny_bind ?_
  unfold reTarget
  dsimp only
  rw [named_search]
  refine wpAny_bind (wpAny_pure ?_)
  dsimp only
  refine wpAny_bind (wpAny_pure (wpAny_bind (wpAny_pure (wpAny_bind (wpAny_fieldsOf hp hpd ?_)))))
  refine wpAny_bind (m := reTextOf (.str x t)) ?_
  refine wpAny_of_eq (a := (x.cps, 0)) rfl ?_
  dsimp only
  rw [h6]
  rw [if_neg (by decide), if_neg (by decide)]
  refine wpAny_bind (m := reNoCollectionInside (.str x t) 0) (wpAny_of_eq (a := ()) rfl ?_)
  rw [h5]
  refine wpAny_bind (m := reRawItems (.ref q)) ?_
  unfold reRawItems
  refine wpAny_bind (wpAny_seqItems hq hqd (wpAny_pure (wpAny_pure ?_)))
  dsimp only
  rw [h2]
  have hmin : min ((2 ^ 63 - 1 : Int).toNat) x.cps.size = x.cps.size := Nat.min_eq_right (by have : x.cps.size ≤ sizeLine := hz; unfold sizeLine at this; lia)
  have e0 : min (Int.toNat 0) x.cps.size = 0 := by simp
  have ec : Array.map (fun x => x.toNat) (Array.map reRawOf ((some vs).getD #[])) = code := hv
  rw [ec, hmin, e0]
  obtain ⟨kk, hk, he⟩ := search_ends x.cps hd
  unfold reAnswer
  refine wpAny_bind (wp_end he (by have : x.cps.size ≤ sizeLine := hz; unfold sizeLine at this; lia) ?_)
  exact wpAny_pure ⟨_, rfl, h⟩
end
end Mine.Re
end
section
open PySem PySem.W PySem.Calls PyProof.Rows
set_option tactic.hygienic false
namespace Mine
noncomputable def tabsA : List Addr := [116, 123]
noncomputable def KA (P : Params) : Frag := (hx1.heap_1 P).filter fun p => !(p.1 == 116 || p.1 == 123)
noncomputable def CA (w : World) (mg mb : Str → Option Value) : Cx := { prog := PySem.Challenge.rw_xr0025_01.row.toRowW.prog, w := w, K := KA w.params, mg := mg, mb := mb, T := tabsA, accC := 154, qnC := 258 }
structure GA (w : World) (mg mb : Str → Option Value) : Prop where
  glo : ∀ x v, nsIn (KA w.params) mainGlobals x = some (some v) → mg x = some v
  non : ∀ x, nsIn (KA w.params) mainGlobals x = some none → mg x = none
  mb : ∀ x : Str, x ≠ "__name__" → mb x = bootBuiltins x
theorem lookup_mem {l : Frag} {a : Addr} {o : Obj} (h : l.lookup a = some o) : (a, o) ∈ l := by
  induction l with
  | nil => cases h
  | cons p l ih =>
    obtain ⟨b, q⟩ := p
    rw [List.lookup_cons] at h
    cases e : a == b
    · rw [e] at h; exact List.mem_cons_of_mem _ (ih h)
    · rw [e] at h
      have eb : a = b := by simpa using e
      cases h; subst eb; exact List.mem_cons_self ..
theorem lookup_filter {l : Frag} {q : Addr × Obj → Bool} {a : Addr} {o : Obj} (h : (l.filter q).lookup a = some o) : q (a, o) = true := (List.mem_filter.mp (lookup_mem h)).2
theorem okA {w : World} {mg mb : Str → Option Value} (g : GA w mg mb) : (CA w mg mb).Ok := ⟨fun a h q => by
  have hq : a = 116 ∨ a = 123 := by simpa [CA, tabsA] using q
  rcases h with ⟨o, e⟩ | e | e | e
  · have := lookup_filter (l := hx1.heap_1 w.params) (show List.lookup a ((hx1.heap_1 w.params).filter fun p => !(p.1 == 116 || p.1 == 123)) = some o from e)
    rcases hq with rfl | rfl <;> simp at this
  · subst e; rcases hq with h | h <;> exact absurd h (by decide)
  · subst e; rcases hq with h | h <;> exact absurd h (by decide)
  · subst e; rcases hq with h | h <;> exact absurd h (by decide), g.mb⟩
theorem bind1 {C : Cx} {fd : FuncData} {x : Str} {a : AV} (h : ∀ v, bindArgs fd ⟨[v], []⟩ = pure [(x, v)]) :
    ∀ h X vs, VRs h X vs [a] → C.K.In h → (∀ a, C.Old a → a ∉ X) → ∃ bs, (∀ s : Shared, s.heap = h → BindsTo s fd ⟨vs, []⟩ bs) ∧ PRs h X bs [(x, a)] := fun hp X vs r _ _ => by
  refine VRs.el_cons r fun v _ r rs => ?_; refine VRs.el_nil rs ?_; exact ⟨_, fun s _ => .of_eq (h v), .cons r .nil⟩
theorem bind2 {C : Cx} {fd : FuncData} {x y : Str} {a b : AV} (h : ∀ v u, bindArgs fd ⟨[v, u], []⟩ = pure [(x, v), (y, u)]) :
    ∀ h X vs, VRs h X vs [a, b] → C.K.In h → (∀ a, C.Old a → a ∉ X) → ∃ bs, (∀ s : Shared, s.heap = h → BindsTo s fd ⟨vs, []⟩ bs) ∧ PRs h X bs [(x, a), (y, b)] := fun hp X vs r _ _ => by
  refine VRs.el_cons r fun v _ r rs => ?_; refine VRs.el_cons rs fun u _ r' rs => ?_; refine VRs.el_nil rs ?_; exact ⟨_, fun s _ => .of_eq (h v u), .cons r (.cons r' .nil)⟩
noncomputable def noDigit (x : Str) : Prop := ∀ i, Sre.isDigit (x.cps.getD i 0) = false
noncomputable def hdn (x : Str) : Bool := !(x == ("" : Str)) && !(Txt.item x 0 == ("." : Str)) && !(Txt.item x (-1) == ("." : Str))
section
variable {w : World} {mg mb : Str → Option Value} (g : GA w mg mb)
include g
theorem search_A {n : Nat} {env : Env} {S : St} {x : Str} (hx : noDigit x) (hz : x.length ≤ sizeLine) : PN (CA w mg mb) n env S (fun vs => call (.builtin "re.Pattern.search") (.ref 163 :: vs)) [.str x] .none :=
  .of (okA g) fun A X s vs Q ha B r _ _ q => by
    refine VRs.el_cons r fun _ _ r rs => ?_
    ·
      refine VRs.el_nil rs ?_
      refine VR.el_str r fun _ => ?_
      exact Re.wp_search (B.K 163 _ rfl) rfl rfl rfl rfl rfl (B.K 162 _ rfl) rfl (by simp [Builtin.Re.reRawOf, Re.code]) hx hz (q _ _ (.refl ..) .none)
theorem is_HDN_fn {n : Nat} {M : List (Addr × AO)} {x : Str} (hx : noDigit x) (hz : x.length ≤ sizeLine) : FN (CA w mg mb) (n + 1) 170 M [.str x] (fun a M' => a = .bool (hdn x) ∧ M' = M) := by
  have ok := okA g
  refine fn_plain ok (ab := [("text", .str x)]) ⟨⟨_, rfl, rfl⟩, ⟨_, _, _, _, rfl, rfl, rfl, rfl⟩, rfl, rfl, rfl, (fun x c h => by cases h), rfl, rfl, rfl, by decide⟩ (by decide) (bind1 fun _ => rfl) (by intro x hx; simp at hx; subst hx; rfl) ?_
  intro L
  refine EX.cons (E1.ite ((PT.val (PE.bmeth Re.slot_search Re.plainAttrs_pat Re.type_search (PE.glob rfl (g.glo _ _ rfl)) (fun Y D s₀ s R => ⟨_, R.bs.K 163 _ rfl, rfl, rfl⟩) (PL.cons (PE.name rfl) PL.nil) (search_A g hx hz)) T1.none).then ?_))
  refine EX.nil ?_
  refine EX.cons (E1.ite ((PT.cmp (PE.name rfl) (PE.str ok) (O.eqs ok)).then ?_))
  by_cases h0 : x = ("" : Str)
  · rw [if_pos (by simpa using h0)]
    exact EX.cons (E1.ret ((PE.bool).then ⟨by rw [h0]; rfl, rfl⟩))
  rw [if_neg (by simpa using h0)]
  refine EX.nil ?_
  have hl : 0 < x.length := by
    rcases Nat.eq_zero_or_pos x.length with h | h
    · exfalso; apply h0
      obtain ⟨c⟩ := x
      have : c = #[] := Array.eq_empty_of_size_eq_zero h
      subst this; rfl
    · exact h
  refine EX.cons (E1.ite ((PT.or2 (PT.cmp (PE.sub (PE.name rfl) (PE.int ok) (O.sub_str ok (by decide) (by lia) (by lia))) (PE.str ok) (O.eqs ok))
    (fun _ => PT.cmp (PE.sub (PE.name rfl) (PE.neg ok (PE.int ok)) (O.sub_str ok (by decide) (by lia) (by lia))) (PE.str ok) (O.eqs ok))).then ?_))
  by_cases h1 : (Txt.item x 0 == ("." : Str) || Txt.item x (-1) == ("." : Str)) = true
  · rw [if_pos h1]
    refine EX.cons (E1.ret ((PE.bool).then ⟨congrArg AV.bool ?_, rfl⟩))
    unfold hdn; revert h1
    cases (Txt.item x 0 == ("." : Str)) <;> cases (Txt.item x (-1) == ("." : Str)) <;> simp
  · rw [if_neg h1]
    refine EX.nil (EX.cons (E1.ret ((PE.bool).then ⟨congrArg AV.bool ?_, rfl⟩)))
    have e0 : (x == ("" : Str)) = false := beq_eq_false_iff_ne.mpr h0
    unfold hdn; rw [e0]; revert h1
    cases (Txt.item x 0 == ("." : Str)) <;> cases (Txt.item x (-1) == ("." : Str)) <;> simp
noncomputable def dmatch (A B : Str) : Bool :=
  if Txt.lower A == Txt.lower B then true else if !hdn (Txt.lower A) then false
  else if Txt.rfind (Txt.lower A) (Txt.lower B) == -1 || Txt.rfind (Txt.lower A) (Txt.lower B) == 0 then false
  else if !Txt.startswith (Txt.lower B) "." then false else if !hdn (Txt.slice (Txt.lower B) (some 1) none) then false else true
noncomputable def reachF (h : Str) : Str :=
  if 0 ≤ Txt.find h "." then
    if hdn h && (decide (0 ≤ Txt.find (Txt.slice h (some (Txt.find h "." + 1)) none) ".") || Txt.slice h (some (Txt.find h "." + 1)) none == "local") then "." ++ Txt.slice h (some (Txt.find h "." + 1)) none else h
  else h
theorem PE.hdn {n : Nat} {env : Env} {S : St} {e : Expr} {p pos : Pos} {x : Str} (hk : env.kindOf "is_HDN" = some .globalImplicit) (h : PE (CA w mg mb) (n + 1) env S e (.str x)) (hx : noDigit x) (hz : x.length ≤ sizeLine)
    (he : starEach [e] env = (false, eval e env) :: starEach [] env := by rfl) : PE (CA w mg mb) (n + 1) env S (.Call (.Name "is_HDN" p) [e] [] pos) (.bool (hdn x)) :=
  PE.callF (PE.glob hk (g.glo _ _ rfl)) (show (CA w mg mb).K.lookup 170 = some _ from rfl) rfl (PL.cons h PL.nil he) (is_HDN_fn g hx hz) he
theorem reach_fn {n : Nat} {M : List (Addr × AO)} {x : Str} (hx : noDigit x) (hz : x.length + 1 ≤ sizeLine) : FN (CA w mg mb) (n + 2) 184 M [.str x] (fun a M' => a = .str (reachF x) ∧ M' = M) := by
  have ok := okA g
  have hz' : x.length ≤ sizeLine := by lia
  refine fn_plain ok (ab := [("h", .str x)]) ⟨⟨_, rfl, rfl⟩, ⟨_, _, _, _, rfl, rfl, rfl, rfl⟩, rfl, rfl, rfl, (fun x c h => by cases h), rfl, rfl, rfl, by decide⟩ (by decide) (bind1 fun _ => rfl) (by intro x hx; simp at hx; subst hx; rfl) ?_
  intro L
  refine EX.cons (E1.assign ok (.inl rfl) ((PE.find ok (PE.name rfl) (PE.str ok)).then ?_))
  refine EX.cons (E1.ite ((PT.cmp (PE.name rfl) (PE.int ok) (O.ge ok)).then ?_))
  by_cases h0 : 0 ≤ Txt.find x "."
  · rw [if_pos (decide_eq_true h0)]
    refine EX.cons (E1.assign ok (.inl rfl) ((PE_from ok (PE.name rfl) (PE.bin (PE.name rfl) (PE.int ok) (O.add ok)) hz').then ?_))
    refine EX.cons (E1.assign ok (.inl rfl) ((PE.find ok (PE.name rfl) (PE.str ok)).then ?_))
    refine EX.cons (E1.ite ((PT.and2 (PT.val (PE.hdn g rfl (PE.name rfl) hx hz') T1.bool) (fun _ => PT.or2 (PT.cmp (PE.name rfl) (PE.int ok) (O.ge ok)) (fun _ => PT.cmp (PE.name rfl) (PE.str ok) (O.eqs ok)))).then ?_))
    have hsl := Txt.slice_le x (some (Txt.find x "." + 1)) none
    by_cases h1 : (hdn x && (decide (0 ≤ Txt.find (Txt.slice x (some (Txt.find x "." + 1)) none) ".") || Txt.slice x (some (Txt.find x "." + 1)) none == "local")) = true
    · rw [if_pos h1]
      refine EX.cons (E1.ret ((PE.bin (PE.str ok) (PE.name rfl) (O.adds ok ?_)).then ⟨?_, rfl⟩))
      · have : ("." : Str).length = 1 := rfl
        lia
      · unfold reachF; rw [if_pos h0, if_pos h1]
    · rw [if_neg h1]
      refine EX.nil (EX.nil (EX.cons (E1.ret ((PE.name rfl).then ⟨?_, rfl⟩))))
      unfold reachF; rw [if_pos h0, if_neg h1]
  · rw [if_neg (by simpa using h0)]
    refine EX.nil (EX.cons (E1.ret ((PE.name rfl).then ⟨?_, rfl⟩)))
    unfold reachF; rw [if_neg h0]
end
end Mine
namespace Mine
section
variable {C : Cx} (ok : C.Ok) {n : Nat} {env : Env} {S : St}
include ok
theorem E1_esc {t : Str} {x c z : Str} {k0 k1 k2 : Nat} {p0 p1 p2 p3 p4 p5 p6 p7 p8 p9 p10 : Pos} {P : AF → St → Prop} (hk : env.kindOf t = some .local) (hx : S.μ.lookup t = some (.str x)) (hcz : (c == z) = false) (hb : x.length + (x.length + 1) * z.length ≤ 16777216)
    (h : P .next ⟨ins t (.str (if Txt.contains x c then Txt.replace x c z else x)) S.μ, S.M⟩) (hid : ins t (.str x) S.μ = S.μ)
    (hd : (t == ("__debug__" : Str)) = false := by decide) (hline : (p5.endLine == p6.line) = true := by rfl)
    (hbase : attributeBase (.Name t p4) "replace" env (eval (.Name t p4) env) = eval (.Name t p4) env := by rfl)
    (hs : swapsWith (.Call (.Attribute (.Name t p4) "replace" p5) [.Constant (.str c) k1 p7, .Constant (.str z) k2 p8] [] p6) (some (.Name t p3)) p9.line env = pure false := by rfl) :
    E1 C n env S (.If (.Compare (.Constant (.str c) k0 p0) [.In] [.Name t p1] p2) [.Assign [.Name t p3] (.Call (.Attribute (.Name t p4) "replace" p5) [.Constant (.str c) k1 p7, .Constant (.str z) k2 p8] [] p6) p9] [] p10) P :=
  fun A Y s₀ D s Q ha R q => by
    have R1 := R.go ok (SStp.toks C.T s (s.toks + 1))
    have K1 := Kp.go R (SStp.toks C.T s (s.toks + 1))
    obtain ⟨m, hn, hm⟩ := R1.fr.loc
    obtain ⟨v, e1, r1⟩ := hm t _ hx hk
    refine VR.iv_str r1 ?_; clear r1; intro tk e_0; cases e_0
    ·
      refine wpAny_If (wpAny_isTrue_Compare1 (wpAny_Constant_str (wpAny_Name (wpAny_loadName_local R1.ev.kind hk hn e1 (SB.contains (wpAny_truthy_bool ?_))) hd)))
      cases hc : Txt.contains x c
      · rw [hc] at h
        simp only [Bool.false_eq_true, if_false] at h ⊢
        rw [hid] at h
        exact wpAny_execs_nil (q _ _ _ _ h R1 K1 .next)
      · rw [hc] at h
        simp only [if_true] at h ⊢
        refine wpAny_execs_cons (wpAny_Assign_Name (hs := hs) (Call_method2 hbase rfl hline (wpAny_Name (wpAny_loadName_local R1.ev.kind hk hn e1 ?_) hd)))
        refine ⟨"str", "str.replace", F.plainAttrs_str, F.slot_str_replace, F.type_str_replace, typeIs_str _ _ _, (fun _ e => nomatch e), ?_⟩
        refine Calls.callWith_builtin rfl (Calls.evalArgs_plain (Calls.spliced_cons (wpAny_Constant_str (Calls.spliced_cons (wpAny_Constant_str (Calls.spliced_nil ?_))))))
        refine SC.replace (by show s.toks + 1 ≠ 0; lia) (by show s.toks + 1 + 1 ≠ 0; lia) (by show s.toks + 1 ≠ s.toks + 1 + 1; lia) hcz hb fun t' k => ?_
        have R2 := R1.go ok (SStp.toks C.T { s with toks := s.toks + 1 } k)
        have K2 := Kp.go R1 (SStp.toks C.T { s with toks := s.toks + 1 } k)
        refine store ok Y (.inl hk) R2 (.str (Txt.replace x c z) t') fun s' R3 K3 => wpAny_execs_nil (q _ _ _ _ h R3 ((K1.trans K2).trans K3) .next)
theorem E1_try {body : List Stmt} {h₀ : ExceptHandler} {hs : List ExceptHandler} {pos : Pos} {P : AF → St → Prop} (h : EX C n env S body P) : E1 C n env S (.Try body (h₀ :: hs) [] [] pos) P :=
  fun A Y s₀ D s Q ha R q => wpAny_Try_except (toNo' (h A Y s₀ D s Q ha R q) fun f s z => by
    cases f
    · exact wpAny_execs_nil z
    · exact z
    · exact z
    · exact z)
end
end Mine
end
section
open PySem PyProof.Rows
set_option tactic.hygienic false
namespace Mine
theorem Str.ext' {x y : Str} (h : x.cps.toList = y.cps.toList) : x = y := by
  obtain ⟨a⟩ := x; obtain ⟨b⟩ := y
  have : a = b := Array.ext' h
  rw [this]
theorem cps_append (x y : Str) : (x ++ y).cps.toList = x.cps.toList ++ y.cps.toList := by
  show (x.cps ++ y.cps).toList = _
  simp
noncomputable def repl (c : Nat) (z : List Nat) (l : List Nat) : List Nat := l.flatMap fun d => if d = c then z else [d]
theorem repl_free {c : Nat} {z l : List Nat} (h : c ∉ l) : repl c z l = l := by
  unfold repl
  induction l with
  | nil => rfl
  | cons d l ih =>
    have hd : ¬ d = c := fun e => h (e ▸ List.mem_cons_self ..)
    rw [List.flatMap_cons, ih (fun q => h (List.mem_cons_of_mem _ q)), if_neg hd]; rfl
theorem repl_append {c : Nat} {z l m : List Nat} : repl c z (l ++ m) = repl c z l ++ repl c z m := by unfold repl; simp
theorem repl_join {c : Nat} {z : Str} : ∀ parts : List Str, (∀ p ∈ parts, c ∉ p.cps.toList) → (Str.join z parts).cps.toList = repl c z.cps.toList (Str.join ⟨#[c]⟩ parts).cps.toList
  | [], _ => rfl
  | [p], h => by rw [PyProof.Rows.join_one, PyProof.Rows.join_one, repl_free (h p (List.mem_cons_self ..))]
  | p :: q :: r, h => by
    rw [PyProof.Rows.join_cons_cons, PyProof.Rows.join_cons_cons]
    rw [cps_append, cps_append, cps_append, cps_append, repl_append, repl_append, repl_free (h p (List.mem_cons_self ..)), repl_join (q :: r) fun a ha => h a (List.mem_cons_of_mem _ ha)]
    congr 2
    show z.cps.toList = repl c z.cps.toList [c]
    unfold repl; simp
theorem replace_one' (x z : Str) (c : Nat) : (Txt.replace x ⟨#[c]⟩ z).cps.toList = repl c z.cps.toList x.cps.toList := by
  rw [StrLaws.replace_one, repl_join _ (StrLaws.split_free x c), StrLaws.join_split]
noncomputable def escStep (c z x : Str) : Str := if Txt.contains x c then Txt.replace x c z else x
theorem escStep_one (x z : Str) (c : Nat) : (escStep ⟨#[c]⟩ z x).cps.toList = repl c z.cps.toList x.cps.toList := by
  unfold escStep
  have e : Txt.contains x ⟨#[c]⟩ = decide (c ∈ x.cps.toList) := StrLaws.found_one x c
  by_cases h : c ∈ x.cps.toList
  · rw [if_pos (by rw [e]; exact decide_eq_true h)]; exact replace_one' x z c
  · rw [if_neg (by rw [e]; simpa using h), repl_free h]
theorem repl_len {c : Nat} {z : List Nat} : ∀ l : List Nat, (repl c z l).length ≤ l.length * (z.length + 1)
  | [] => by simp [repl]
  | d :: l => by
    have ih := repl_len (c := c) (z := z) l
    have : repl c z (d :: l) = (if d = c then z else [d]) ++ repl c z l := by unfold repl; rw [List.flatMap_cons]
    rw [this, List.length_append, List.length_cons, Nat.add_mul]
    have h1 : (if d = c then z else [d]).length ≤ z.length + 1 := by split <;> simp
    lia
theorem len_eq (x : Str) : x.length = x.cps.toList.length := by simp [Str.length]
theorem escStep_len (x z : Str) (c : Nat) : (escStep ⟨#[c]⟩ z x).length + 1 ≤ (x.length + 1) * (z.length + 1) := by
  rw [len_eq, escStep_one, len_eq x, len_eq z]
  have := repl_len (c := c) (z := z.cps.toList) x.cps.toList
  rw [Nat.add_mul]
  lia
noncomputable def escF (T : List (Nat × Str)) (x : Str) : Str := T.foldl (fun x p => escStep ⟨#[p.1]⟩ p.2 x) x
noncomputable def tabl (T : List (Nat × Str)) (d : Nat) : List Nat := match T.lookup d with | some z => z.cps.toList | none => [d]
noncomputable def TOk : List (Nat × Str) → Prop
  | [] => True
  | (c, z) :: T => (∀ p ∈ T, p.1 ∉ z.cps.toList ∧ p.1 ≠ c) ∧ TOk T
theorem escF_free : ∀ (T : List (Nat × Str)) (l : List Nat), (∀ p ∈ T, p.1 ∉ l) → l.flatMap (tabl T) = l := by
  intro T l h
  induction l with
  | nil => rfl
  | cons d l ih =>
    rw [List.flatMap_cons, ih fun p hp q => h p hp (List.mem_cons_of_mem _ q)]
    have : tabl T d = [d] := by
      unfold tabl
      cases e : T.lookup d with
      | none => rfl
      | some z =>
        exfalso
        have hm : (d, z) ∈ T := by
          clear h ih
          induction T with
          | nil => cases e
          | cons p T ih =>
            obtain ⟨k, y⟩ := p
            rw [List.lookup_cons] at e
            cases q : d == k
            · rw [q] at e; exact List.mem_cons_of_mem _ (ih e)
            · rw [q] at e; cases e
              have : d = k := by simpa using q
              subst this; exact List.mem_cons_self ..
        exact h _ hm (List.mem_cons_self ..)
    rw [this]; rfl
theorem escF_flat : ∀ (T : List (Nat × Str)) (x : Str), TOk T → (escF T x).cps.toList = x.cps.toList.flatMap (tabl T)
  | [], x, _ => by
    show x.cps.toList = _
    have : tabl [] = fun d => [d] := by funext d; rfl
    rw [this]; simp
  | (c, z) :: T, x, h => by
    show (escF T (escStep ⟨#[c]⟩ z x)).cps.toList = _
    rw [escF_flat T _ h.2, escStep_one]
    unfold repl
    rw [List.flatMap_assoc]
    congr 1
    funext d
    by_cases hd : d = c
    · subst hd
      rw [if_pos rfl, escF_free T z.cps.toList fun p hp => (h.1 p hp).1]
      unfold tabl; rw [List.lookup_cons]; simp
    · rw [if_neg hd]
      have : (d == c) = false := beq_eq_false_iff_ne.mpr hd
      unfold tabl
      rw [List.lookup_cons, this]; simp
end Mine
end
section
open PySem PySem.W PySem.Calls PyProof.Rows
set_option tactic.hygienic false
namespace Mine
noncomputable def Tcdata : List (Nat × Str) := [(38, "&amp;"), (60, "&lt;"), (62, "&gt;")]
noncomputable def Tattr : List (Nat × Str) := [(38, "&amp;"), (60, "&lt;"), (62, "&gt;"), (34, "&quot;"), (13, "&#13;"), (10, "&#10;"), (9, "&#09;")]
noncomputable def Thtml : List (Nat × Str) := [(38, "&amp;"), (62, "&gt;"), (34, "&quot;")]
noncomputable def Tcc : List (Nat × Str) := [(38, "&amp;"), (60, "&lt;"), (62, "&gt;"), (13, "&#xD;")]
noncomputable def Tac : List (Nat × Str) := [(38, "&amp;"), (60, "&lt;"), (34, "&quot;"), (9, "&#x9;"), (10, "&#xA;"), (13, "&#xD;")]
noncomputable def Room (x : Str) (k : Nat) : Prop := (x.length + 1) * k ≤ 16777216
theorem Room.hb {x z : Str} {k l : Nat} (h : Room x k) (hk : k = (z.length + 1) * l) (hl : 1 ≤ l) : x.length + (x.length + 1) * z.length ≤ 16777216 := by
  unfold Room at h
  subst hk
  have h1 : (x.length + 1) * (z.length + 1) ≤ (x.length + 1) * ((z.length + 1) * l) := Nat.mul_le_mul_left _ (Nat.le_mul_of_pos_right _ hl)
  have h2 : (x.length + 1) * (z.length + 1) = (x.length + 1) * z.length + (x.length + 1) := Nat.mul_succ _ _
  lia
theorem Room.next {x z : Str} {c k l : Nat} (h : Room x k) (hk : k = (z.length + 1) * l) : Room (escStep ⟨#[c]⟩ z x) l := by
  unfold Room at *
  subst hk
  have := escStep_len x z c
  have h1 := Nat.mul_le_mul_right l this
  rw [Nat.mul_assoc] at h1
  lia
section
variable {w : World} {mg mb : Str → Option Value} (g : GA w mg mb)
include g
theorem esc_cdata {n : Nat} {M : List (Addr × AO)} {x : Str} (h0 : Room x (6 * (5 * (5 * (1))))) : FN (CA w mg mb) (n + 1) 276 M [.str x] (fun a M' => a = .str (escF Tcdata x) ∧ M' = M) := by
  have ok := okA g
  refine fn_plain ok (ab := [("text", .str x)]) ⟨⟨_, rfl, rfl⟩, ⟨_, _, _, _, rfl, rfl, rfl, rfl⟩, rfl, rfl, rfl, (fun x c h => by cases h), rfl, rfl, rfl, by decide⟩ (by decide) (bind1 fun _ => rfl) (by intro x hx; simp at hx; subst hx; rfl) ?_
  intro L
  have h1 := h0.next (z := "&amp;") (c := 38) (l := 5 * (5 * (1))) rfl
  have h2 := h1.next (z := "&lt;") (c := 60) (l := 5 * (1)) rfl
  refine EX.cons (E1_try ok ?_)
  refine EX.cons (E1_esc ok rfl rfl (by decide) (h0.hb (z := "&amp;") rfl (by decide)) ?_ rfl)
  refine EX.cons (E1_esc ok rfl rfl (by decide) (h1.hb (z := "&lt;") rfl (by decide)) ?_ rfl)
  refine EX.cons (E1_esc ok rfl rfl (by decide) (h2.hb (z := "&gt;") rfl (by decide)) ?_ rfl)
  exact EX.cons (E1.ret ((PE.name rfl).then ⟨rfl, rfl⟩))
theorem esc_attrib {n : Nat} {M : List (Addr × AO)} {x : Str} (h0 : Room x (6 * (5 * (5 * (7 * (6 * (6 * (6 * (1))))))))) : FN (CA w mg mb) (n + 1) 283 M [.str x] (fun a M' => a = .str (escF Tattr x) ∧ M' = M) := by
  have ok := okA g
  refine fn_plain ok (ab := [("text", .str x)]) ⟨⟨_, rfl, rfl⟩, ⟨_, _, _, _, rfl, rfl, rfl, rfl⟩, rfl, rfl, rfl, (fun x c h => by cases h), rfl, rfl, rfl, by decide⟩ (by decide) (bind1 fun _ => rfl) (by intro x hx; simp at hx; subst hx; rfl) ?_
  intro L
  have h1 := h0.next (z := "&amp;") (c := 38) (l := 5 * (5 * (7 * (6 * (6 * (6 * (1))))))) rfl
  have h2 := h1.next (z := "&lt;") (c := 60) (l := 5 * (7 * (6 * (6 * (6 * (1)))))) rfl
  have h3 := h2.next (z := "&gt;") (c := 62) (l := 7 * (6 * (6 * (6 * (1))))) rfl
  have h4 := h3.next (z := "&quot;") (c := 34) (l := 6 * (6 * (6 * (1)))) rfl
  have h5 := h4.next (z := "&#13;") (c := 13) (l := 6 * (6 * (1))) rfl
  have h6 := h5.next (z := "&#10;") (c := 10) (l := 6 * (1)) rfl
  refine EX.cons (E1_try ok ?_)
  refine EX.cons (E1_esc ok rfl rfl (by decide) (h0.hb (z := "&amp;") rfl (by decide)) ?_ rfl)
  refine EX.cons (E1_esc ok rfl rfl (by decide) (h1.hb (z := "&lt;") rfl (by decide)) ?_ rfl)
  refine EX.cons (E1_esc ok rfl rfl (by decide) (h2.hb (z := "&gt;") rfl (by decide)) ?_ rfl)
  refine EX.cons (E1_esc ok rfl rfl (by decide) (h3.hb (z := "&quot;") rfl (by decide)) ?_ rfl)
  refine EX.cons (E1_esc ok rfl rfl (by decide) (h4.hb (z := "&#13;") rfl (by decide)) ?_ rfl)
  refine EX.cons (E1_esc ok rfl rfl (by decide) (h5.hb (z := "&#10;") rfl (by decide)) ?_ rfl)
  refine EX.cons (E1_esc ok rfl rfl (by decide) (h6.hb (z := "&#09;") rfl (by decide)) ?_ rfl)
  exact EX.cons (E1.ret ((PE.name rfl).then ⟨rfl, rfl⟩))
theorem esc_html {n : Nat} {M : List (Addr × AO)} {x : Str} (h0 : Room x (6 * (5 * (7 * (1))))) : FN (CA w mg mb) (n + 1) 290 M [.str x] (fun a M' => a = .str (escF Thtml x) ∧ M' = M) := by
  have ok := okA g
  refine fn_plain ok (ab := [("text", .str x)]) ⟨⟨_, rfl, rfl⟩, ⟨_, _, _, _, rfl, rfl, rfl, rfl⟩, rfl, rfl, rfl, (fun x c h => by cases h), rfl, rfl, rfl, by decide⟩ (by decide) (bind1 fun _ => rfl) (by intro x hx; simp at hx; subst hx; rfl) ?_
  intro L
  have h1 := h0.next (z := "&amp;") (c := 38) (l := 5 * (7 * (1))) rfl
  have h2 := h1.next (z := "&gt;") (c := 62) (l := 7 * (1)) rfl
  refine EX.cons (E1_try ok ?_)
  refine EX.cons (E1_esc ok rfl rfl (by decide) (h0.hb (z := "&amp;") rfl (by decide)) ?_ rfl)
  refine EX.cons (E1_esc ok rfl rfl (by decide) (h1.hb (z := "&gt;") rfl (by decide)) ?_ rfl)
  refine EX.cons (E1_esc ok rfl rfl (by decide) (h2.hb (z := "&quot;") rfl (by decide)) ?_ rfl)
  exact EX.cons (E1.ret ((PE.name rfl).then ⟨rfl, rfl⟩))
theorem esc_cc {n : Nat} {M : List (Addr × AO)} {x : Str} (h0 : Room x (6 * (5 * (5 * (6 * (1)))))) : FN (CA w mg mb) (n + 1) 297 M [.str x] (fun a M' => a = .str (escF Tcc x) ∧ M' = M) := by
  have ok := okA g
  refine fn_plain ok (ab := [("text", .str x)]) ⟨⟨_, rfl, rfl⟩, ⟨_, _, _, _, rfl, rfl, rfl, rfl⟩, rfl, rfl, rfl, (fun x c h => by cases h), rfl, rfl, rfl, by decide⟩ (by decide) (bind1 fun _ => rfl) (by intro x hx; simp at hx; subst hx; rfl) ?_
  intro L
  have h1 := h0.next (z := "&amp;") (c := 38) (l := 5 * (5 * (6 * (1)))) rfl
  have h2 := h1.next (z := "&lt;") (c := 60) (l := 5 * (6 * (1))) rfl
  have h3 := h2.next (z := "&gt;") (c := 62) (l := 6 * (1)) rfl
  refine EX.cons (E1_try ok ?_)
  refine EX.cons (E1_esc ok rfl rfl (by decide) (h0.hb (z := "&amp;") rfl (by decide)) ?_ rfl)
  refine EX.cons (E1_esc ok rfl rfl (by decide) (h1.hb (z := "&lt;") rfl (by decide)) ?_ rfl)
  refine EX.cons (E1_esc ok rfl rfl (by decide) (h2.hb (z := "&gt;") rfl (by decide)) ?_ rfl)
  refine EX.cons (E1_esc ok rfl rfl (by decide) (h3.hb (z := "&#xD;") rfl (by decide)) ?_ rfl)
  exact EX.cons (E1.ret ((PE.name rfl).then ⟨rfl, rfl⟩))
theorem esc_ac {n : Nat} {M : List (Addr × AO)} {x : Str} (h0 : Room x (6 * (5 * (7 * (6 * (6 * (6 * (1)))))))) : FN (CA w mg mb) (n + 1) 304 M [.str x] (fun a M' => a = .str (escF Tac x) ∧ M' = M) := by
  have ok := okA g
  refine fn_plain ok (ab := [("text", .str x)]) ⟨⟨_, rfl, rfl⟩, ⟨_, _, _, _, rfl, rfl, rfl, rfl⟩, rfl, rfl, rfl, (fun x c h => by cases h), rfl, rfl, rfl, by decide⟩ (by decide) (bind1 fun _ => rfl) (by intro x hx; simp at hx; subst hx; rfl) ?_
  intro L
  have h1 := h0.next (z := "&amp;") (c := 38) (l := 5 * (7 * (6 * (6 * (6 * (1)))))) rfl
  have h2 := h1.next (z := "&lt;") (c := 60) (l := 7 * (6 * (6 * (6 * (1))))) rfl
  have h3 := h2.next (z := "&quot;") (c := 34) (l := 6 * (6 * (6 * (1)))) rfl
  have h4 := h3.next (z := "&#x9;") (c := 9) (l := 6 * (6 * (1))) rfl
  have h5 := h4.next (z := "&#xA;") (c := 10) (l := 6 * (1)) rfl
  refine EX.cons (E1_try ok ?_)
  refine EX.cons (E1_esc ok rfl rfl (by decide) (h0.hb (z := "&amp;") rfl (by decide)) ?_ rfl)
  refine EX.cons (E1_esc ok rfl rfl (by decide) (h1.hb (z := "&lt;") rfl (by decide)) ?_ rfl)
  refine EX.cons (E1_esc ok rfl rfl (by decide) (h2.hb (z := "&quot;") rfl (by decide)) ?_ rfl)
  refine EX.cons (E1_esc ok rfl rfl (by decide) (h3.hb (z := "&#x9;") rfl (by decide)) ?_ rfl)
  refine EX.cons (E1_esc ok rfl rfl (by decide) (h4.hb (z := "&#xA;") rfl (by decide)) ?_ rfl)
  refine EX.cons (E1_esc ok rfl rfl (by decide) (h5.hb (z := "&#xD;") rfl (by decide)) ?_ rfl)
  exact EX.cons (E1.ret ((PE.name rfl).then ⟨rfl, rfl⟩))
theorem dmatch_fn {n : Nat} {M : List (Addr × AO)} {x y : Str} (hx : noDigit (Txt.lower x)) (hy : noDigit (Txt.slice (Txt.lower y) (some 1) none)) (zx : (Txt.lower x).length ≤ 1000) (zy : (Txt.lower y).length ≤ 1000) :
    FN (CA w mg mb) (n + 2) 177 M [.str x, .str y] (fun a M' => a = .bool (dmatch x y) ∧ M' = M) := by
  have ok := okA g
  have sl : sizeLine = 16777216 := by decide
  have tl : ∀ z : Str, z.length ≤ 1000 → Builtin.Str.tooLong z.length = false := fun z h => by unfold Builtin.Str.tooLong; exact decide_eq_false (by lia)
  refine fn_plain ok (ab := [("A", .str x), ("B", .str y)]) ⟨⟨_, rfl, rfl⟩, ⟨_, _, _, _, rfl, rfl, rfl, rfl⟩, rfl, rfl, rfl, (fun x c h => by cases h), rfl, rfl, rfl, by decide⟩ (by decide) (bind2 fun _ _ => rfl) (by intro x hx; simp at hx; rcases hx with rfl | rfl <;> rfl) ?_
  intro L
  refine EX.cons (E1.assign ok (.inl rfl) ((PE.lower ok (PE.name rfl) (tl _ zx)).then ?_))
  refine EX.cons (E1.assign ok (.inl rfl) ((PE.lower ok (PE.name rfl) (tl _ zy)).then ?_))
  refine EX.cons (E1.ite ((PT.cmp (PE.name rfl) (PE.name rfl) (O.eqs ok)).then ?_))
  by_cases h1 : (Txt.lower x == Txt.lower y) = true
  · rw [if_pos h1]
    exact EX.cons (E1.ret ((PE.bool).then ⟨by unfold dmatch; rw [if_pos h1], rfl⟩))
  rw [if_neg h1]
  refine EX.nil (EX.cons (E1.ite ((PT.not (PT.val (PE.hdn g rfl (PE.name rfl) hx (by lia)) T1.bool)).then ?_)))
  by_cases h2 : (!hdn (Txt.lower x)) = true
  · rw [if_pos h2]
    exact EX.cons (E1.ret ((PE.bool).then ⟨by unfold dmatch; rw [if_neg h1, if_pos h2], rfl⟩))
  rw [if_neg h2]
  refine EX.nil (EX.cons (E1.assign ok (.inl rfl) ((PE.rfind ok (PE.name rfl) (PE.name rfl)).then ?_)))
  refine EX.cons (E1.ite ((PT.or2 (PT.cmp (PE.name rfl) (PE.neg ok (PE.int ok)) (O.eq ok)) (fun _ => PT.cmp (PE.name rfl) (PE.int ok) (O.eq ok))).then ?_))
  by_cases h3 : (Txt.rfind (Txt.lower x) (Txt.lower y) == -1 || Txt.rfind (Txt.lower x) (Txt.lower y) == 0) = true
  · rw [if_pos h3]
    exact EX.cons (E1.ret ((PE.bool).then ⟨by unfold dmatch; rw [if_neg h1, if_neg h2, if_pos h3], rfl⟩))
  rw [if_neg h3]
  refine EX.nil (EX.cons (E1.ite ((PT.not (PT.val (PE.startswith ok (PE.name rfl) (PE.str ok)) T1.bool)).then ?_)))
  by_cases h4 : (!Txt.startswith (Txt.lower y) ".") = true
  · rw [if_pos h4]
    exact EX.cons (E1.ret ((PE.bool).then ⟨by unfold dmatch; rw [if_neg h1, if_neg h2, if_neg h3, if_pos h4], rfl⟩))
  rw [if_neg h4]
  refine EX.nil (EX.cons (E1.ite ((PT.not (PT.val (PE.hdn g rfl (PE_from ok (PE.name rfl) (PE.int ok) (by lia)) hy (Nat.le_trans (Txt.slice_le _ _ _) (by lia))) T1.bool)).then ?_)))
  by_cases h5 : (!hdn (Txt.slice (Txt.lower y) (some 1) none)) = true
  · rw [if_pos h5]
    exact EX.cons (E1.ret ((PE.bool).then ⟨by unfold dmatch; rw [if_neg h1, if_neg h2, if_neg h3, if_neg h4, if_pos h5], rfl⟩))
  rw [if_neg h5]
  exact EX.nil (EX.cons (E1.ret ((PE.bool).then ⟨by unfold dmatch; rw [if_neg h1, if_neg h2, if_neg h3, if_neg h4, if_neg h5], rfl⟩)))
end
end Mine
namespace Mine
noncomputable def qnOb (c d : Addr) : Obj := ⟨.ref c, some d, .plain, #[]⟩
section
variable {w : World} {mg mb : Str → Option Value} (g : GA w mg mb)
theorem qnGet (P : Params) : findIn (KA P) (.ref 258) "__getattribute__" = some (some (.builtin "object.__getattribute__")) := by rfl
theorem qnFind (P : Params) {o : Obj} {v : Value} (h : lookIn (Str.ofString "text") o = some (some v)) : findObj (KA P) 258 (some o) "text" = some (.value v) := by
  have e : findObj (KA P) 258 (some o) "text" = (lookIn (Str.ofString "text") o).bind fun (own : Option Value) => (match own with
    | some v => some (.value v)
    | none => some .missing) := rfl
  rw [e, h]; rfl
theorem getText {A : Around} {s : Shared} {x d : Addr} {o : Obj} {t : Tok} {y : Str} {Q : Value → Shared → Prop} {prog : Program} {E : Value → Shared → Prop} {expr : Bool} (X : (KA w.params).In s.heap) (hx : s.heap.get? x = some (qnOb 258 d)) (hd : s.heap.get? d = some o) (hl : lookIn (Str.ofString "text") o = some (some (.str y t)))
    (h : Q (.str y t) { s with toks := s.toks + 1 }) : wpAny (model prog w) A (getAttr (.ref x) "text" expr) Q E s :=
  get_value X ⟨hx, rfl, rfl, hd⟩ (qnGet _) (qnFind _ hl) rfl h
include g
theorem PE.text {n : Nat} {env : Env} {S : St} {e : Expr} {pos : Pos} {y : Str} (h : PE (CA w mg mb) n env S e (.qn 258 y))
    (hbase : attributeBase e "text" env (eval e env) = eval e env := by rfl) : PE (CA w mg mb) n env S (.Attribute e "text" pos) (.str y) := fun A Y s₀ D s Q ha R q => by
  show wpAny _ _ (eval (.Attribute e "text" pos) env) _ _ _
  rw [arm_eval_Attribute, hbase]
  refine wpAny_bind (h A Y s₀ D s _ ha R fun v s₁ a S₁ p R₁ K₁ r => ?_)
  obtain ⟨rfl, rfl⟩ := p
  refine VR.iv_qn r ?_; clear r; intro _ _ _ _ e1 e2 e3 n1 n2 e_0; cases e_0
  ·
    refine wpAny_bind (wpAny_standAt (wpAny_bind (wpAny_holding (getText R₁.bs.K e1 e2 e3 ?_))))
    exact wpAny_bind (wpAny_letTemporaryGo (wpAny_pure (q _ _ _ _ ⟨rfl, rfl⟩ (R₁.go (okA g) (.toks ..)) (K₁.trans (Kp.go R₁ (.toks ..))) (.str ..))))
omit g in
theorem qnType {s : Shared} {x d : Addr} (hx : s.heap.get? x = some (qnOb 258 d)) (M : Model) : Looks M s.heap (typeOf (.ref x)) (.ref 258) := (Looks.ld (part := none) hx).andThen .now
theorem isi_qn {n : Nat} {env : Env} {S : St} {y : Str} : PN (CA w mg mb) n env S (fun vs => call (.builtin "isinstance") vs) [.qn 258 y, .raw (.ref 258)] (.bool true) := .of (okA g) fun A X s vs Q ha B r _ _ q => by
  refine VRs.iv_cons r ?_; clear r; intro _ _ r rs e_0; cases e_0
  ·
    refine VRs.iv_cons rs ?_; clear rs; intro _ _ r' rs e_0; cases e_0
    ·
      (refine VRs.iv_nil rs fun e_0 => ?_; subst e_0); (refine VR.iv_raw r' fun e_0 => ?_; subst e_0)
      refine VR.iv_qn r ?_; clear r; intro _ _ _ _ e1 e2 e3 n1 n2 e_0; cases e_0
      · exact isi_call B.K (qnType e1) (by rfl) (fun e => by cases e) (q _ _ (.refl ..) (.bool _))
theorem isi_str {n : Nat} {env : Env} {S : St} {y : Str} : PN (CA w mg mb) n env S (fun vs => call (.builtin "isinstance") vs) [.str y, .raw (.ref 258)] (.bool false) := .of (okA g) fun A X s vs Q ha B r _ _ q => by
  refine VRs.iv_cons r ?_; clear r; intro _ _ r rs e_0; cases e_0
  ·
    refine VRs.iv_cons rs ?_; clear rs; intro _ _ r' rs e_0; cases e_0
    ·
      (refine VRs.iv_nil rs fun e_0 => ?_; subst e_0); (refine VR.iv_raw r' fun e_0 => ?_; subst e_0); (refine VR.iv_str r fun _ e_0 => ?_; subst e_0)
      exact kia_one (K := KA w.params) kitx_str B.K trivial (by rfl) (fun e => by cases e) fun tk => q _ _ (.toks ..) (.bool _)
noncomputable def slt (x y : Str) : Bool := decide (x.cps.toList < y.cps.toList)
omit g in
theorem fLt (P : Params) : findIn (KA P) (.ref 258) "__lt__" = some (some (.ref 234)) := by rfl
omit g in
theorem fGt (P : Params) : findIn (KA P) (.ref 258) "__gt__" = some (some (.ref 248)) := by rfl
theorem lt_qn {n : Nat} {M : List (Addr × AO)} {x y : Str} : FN (CA w mg mb) (n + 1) 234 M [.qn 258 x, .qn 258 y] (fun a M' => a = .bool (slt x y) ∧ M' = M) := by
  have ok := okA g
  refine fn_plain ok (ab := [("self", .qn 258 x), ("other", .qn 258 y)]) ⟨⟨_, rfl, rfl⟩, ⟨_, _, _, _, rfl, rfl, rfl, rfl⟩, rfl, rfl, rfl, (fun x c h => by cases h), rfl, rfl, rfl, by decide⟩ (by decide) (bind2 fun _ _ => rfl) (by intro x hx; simp at hx; rcases hx with rfl | rfl <;> rfl) ?_
  intro L
  refine EX.cons (E1.ite ((PT.val (PE.callB (PE.built rfl (g.non _ rfl) ((g.mb _ (by decide)).trans rfl)) (PL.cons (PE.name rfl) (PL.cons (PE.glob rfl (g.glo _ _ rfl)) PL.nil)) (isi_qn g)) T1.bool).then ?_))
  rw [if_pos rfl]
  exact EX.cons (E1.ret ((PE.cmp (PE.text g (PE.name rfl)) (PE.text g (PE.name rfl)) (O.lts ok)).then ⟨rfl, rfl⟩))
theorem lt_qs {n : Nat} {M : List (Addr × AO)} {x y : Str} : FN (CA w mg mb) (n + 1) 234 M [.qn 258 x, .str y] (fun a M' => a = .bool (slt x y) ∧ M' = M) := by
  have ok := okA g
  refine fn_plain ok (ab := [("self", .qn 258 x), ("other", .str y)]) ⟨⟨_, rfl, rfl⟩, ⟨_, _, _, _, rfl, rfl, rfl, rfl⟩, rfl, rfl, rfl, (fun x c h => by cases h), rfl, rfl, rfl, by decide⟩ (by decide) (bind2 fun _ _ => rfl) (by intro x hx; simp at hx; rcases hx with rfl | rfl <;> rfl) ?_
  intro L
  refine EX.cons (E1.ite ((PT.val (PE.callB (PE.built rfl (g.non _ rfl) ((g.mb _ (by decide)).trans rfl)) (PL.cons (PE.name rfl) (PL.cons (PE.glob rfl (g.glo _ _ rfl)) PL.nil)) (isi_str g)) T1.bool).then ?_))
  rw [if_neg (by decide)]
  exact EX.nil (EX.cons (E1.ret ((PE.cmp (PE.text g (PE.name rfl)) (PE.name rfl) (O.lts ok)).then ⟨rfl, rfl⟩)))
theorem O.gts {n : Nat} {env : Env} {S : St} {x y : Str} : P2 (CA w mg mb) n env S (compareOp .Gt) (.str x) (.str y) (.bool (slt y x)) := .of (okA g) fun _ _ _ _ _ _ _ _ r r' _ _ q => by (refine VR.iv_str r fun _ e_0 => ?_; subst e_0); (refine VR.iv_str r' fun _ e_0 => ?_; subst e_0); exact P.gt_str (q _ _ (.refl ..) (.bool ..))
theorem gt_qs {n : Nat} {M : List (Addr × AO)} {x y : Str} : FN (CA w mg mb) (n + 1) 248 M [.qn 258 x, .str y] (fun a M' => a = .bool (slt y x) ∧ M' = M) := by
  have ok := okA g
  refine fn_plain ok (ab := [("self", .qn 258 x), ("other", .str y)]) ⟨⟨_, rfl, rfl⟩, ⟨_, _, _, _, rfl, rfl, rfl, rfl⟩, rfl, rfl, rfl, (fun x c h => by cases h), rfl, rfl, rfl, by decide⟩ (by decide) (bind2 fun _ _ => rfl) (by intro x hx; simp at hx; rcases hx with rfl | rfl <;> rfl) ?_
  intro L
  refine EX.cons (E1.ite ((PT.val (PE.callB (PE.built rfl (g.non _ rfl) ((g.mb _ (by decide)).trans rfl)) (PL.cons (PE.name rfl) (PL.cons (PE.glob rfl (g.glo _ _ rfl)) PL.nil)) (isi_str g)) T1.bool).then ?_))
  rw [if_neg (by decide)]
  exact EX.nil (EX.cons (E1.ret ((PE.cmp (PE.text g (PE.name rfl)) (PE.name rfl) (O.gts g)).then ⟨rfl, rfl⟩)))
theorem rich_own {A : Around} {s : Shared} {x d : Addr} {b tb : Value} {Q : Value → Shared → Prop} {o : Obj} (hu : A.units < cLine) (X : (KA w.params).In s.heap) (hx : s.heap.get? x = some (qnOb 258 d)) (hd : s.heap.get? d = some o)
    (hb : Looks (model (CA w mg mb).prog (CA w mg mb).w) s.heap (typeOf b) tb) (hn : tb = .ref 258 ∨ subIn (KA w.params) tb (.ref 258) = some false)
    (h : wpAny (model (CA w mg mb).prog (CA w mg mb).w) A (call (.ref 234) [.ref x, b]) (fun v s' => ∃ r, v = .bool r ∧ Q v s') No s) : wpAny (model (CA w mg mb).prog (CA w mg mb).w) A (compareOp .Lt (.ref x) b) Q No s := by
  show wpAny _ _ (richCompare .Lt (.ref x) b) _ _ _
  have I : InstAt s.heap x (qnOb 258 d) 258 (some o) := ⟨hx, rfl, rfl, hd⟩
  have own : wpAny (model (CA w mg mb).prog (CA w mg mb).w) A (tryCompare (.ref x) "__lt__" b) (fun r s' => ∃ v, r = some v ∧ Q v s') No s := by
    unfold tryCompare
    refine wpAny_bind (ifBound_K X I (fLt _) rfl (wpAny_mono h (fun v s' z => ?_) fun _ _ e => e))
    obtain ⟨r, rfl, hq⟩ := z
    exact wpAny_pure ⟨_, rfl, hq⟩
  unfold richCompare
  simp only [oneThing_ref]
  refine wpAny_holding (wpAny_bind (wpAny_cRoomFor hu (wpAny_bind ((qnType hx _).here (wpAny_bind (hb.here ?_))))))
  by_cases hne : (Value.ref 258 != tb) = true
  · rw [if_pos hne]
    have e : subIn (KA w.params) tb (.ref 258) = some false := by
      rcases hn with e | e
      · subst e; simp at hne
      · exact e
    refine wpAny_bind ((looks_subIn X e).here ?_)
    rw [if_neg Bool.false_ne_true]
    refine wpAny_bind (wpAny_mono own (fun r s' z => ?_) fun _ _ e => e)
    obtain ⟨v, rfl, hq⟩ := z
    exact wpAny_pure hq
  · rw [if_neg hne]
    refine wpAny_bind (wpAny_pure ?_)
    rw [if_neg Bool.false_ne_true]
    refine wpAny_bind (wpAny_mono own (fun r s' z => ?_) fun _ _ e => e)
    obtain ⟨v, rfl, hq⟩ := z
    exact wpAny_pure hq
theorem rich_refl {A : Around} {s : Shared} {x d : Addr} {z : Str} {u : Tok} {Q : Value → Shared → Prop} {o : Obj} (hu : A.units < cLine) (X : (KA w.params).In s.heap) (hx : s.heap.get? x = some (qnOb 258 d)) (hd : s.heap.get? d = some o)
    (h : wpAny (model (CA w mg mb).prog (CA w mg mb).w) A (call (.ref 248) [.ref x, .str z u]) (fun v s' => ∃ r, v = .bool r ∧ Q v s') No s) : wpAny (model (CA w mg mb).prog (CA w mg mb).w) A (compareOp .Lt (.str z u) (.ref x)) Q No s := by
  show wpAny _ _ (richCompare .Lt (.str z u) (.ref x)) _ _ _
  have I : InstAt s.heap x (qnOb 258 d) 258 (some o) := ⟨hx, rfl, rfl, hd⟩
  have own : wpAny (model (CA w mg mb).prog (CA w mg mb).w) A (tryCompare (.ref x) "__gt__" (.str z u)) (fun r s' => ∃ v, r = some v ∧ Q v s') No s := by
    unfold tryCompare
    refine wpAny_bind (ifBound_K X I (fGt _) rfl (wpAny_mono h (fun v s' z => ?_) fun _ _ e => e))
    obtain ⟨r, rfl, hq⟩ := z
    exact wpAny_pure ⟨_, rfl, hq⟩
  unfold richCompare
  rw [(typeIs_str s z u).oneThing_none]
  refine wpAny_holding (wpAny_bind (wpAny_cRoomFor hu (wpAny_bind (wpAny_typeOf (typeIs_str s z u) (wpAny_bind ((qnType hx _).here ?_))))))
  rw [if_pos (by rfl)]
  refine wpAny_bind ((looks_subIn (K := KA w.params) X (by rfl : subIn (KA w.params) (.ref 258) (.type "str") = some false)).here ?_)
  dsimp only
  rw [if_neg Bool.false_ne_true]
  refine wpAny_bind (wpAny_tryCompare_declines (typeIs_str s z u) F.slot_str_lt (wpAny_call_entry F.slot_str_lt (typeIs_str s z u) F.entry_str_lt ?_ (F.args_str_lt_2 _ _)))
  show wpAny _ _ (asStr? (.ref x) >>= _) _ _ s
  unfold asStr?
  refine wpAny_bind (wpAny_bind (wpAny_load hx (wpAny_pure (wpAny_bind (wpAny_rule (wpAny_pure ⟨_, rfl, rfl, ?_⟩))))))
  dsimp only
  rw [if_pos (show (!false) = true from rfl)]
  refine wpAny_bind (wpAny_mono own (fun r s' z => ?_) fun _ _ e => e)
  obtain ⟨v, rfl, hq⟩ := z
  exact wpAny_pure hq
omit g in
theorem units_lt {n : Nat} {A : Around} (h : AOk n A) : A.units < cLine := by have := h.units; show A.units < 9900; lia
theorem O.ltQQ {n : Nat} {env : Env} {S : St} {x y : Str} : P2 (CA w mg mb) (n + 1) env S (compareOp .Lt) (.qn 258 x) (.qn 258 y) (.bool (slt x y)) := fun A Y s₀ D s v v' Q ha R r r' q => by
  have h := lt_qn g (n := n) (M := S.M) (x := x) (y := y) env S.μ A Y s₀ D s [v, v'] (fun v s' => ∃ r, v = .bool r ∧ Q v s') ha R (.cons r (.cons r' .nil)) fun r s' b S' p R' K' rr => by
    obtain ⟨e1, rfl, e3⟩ := p
    (refine VR.iv_bool rr fun e_0 => ?_; subst e_0)
    refine ⟨_, rfl, q _ _ _ S' ⟨rfl, ?_⟩ R' K' (.bool _)⟩
    obtain ⟨μ, M⟩ := S'; cases e1; cases e3; rfl
  refine VR.iv_qn r ?_; clear r; intro _ _ _ _ e1 e2 e3 n1 n2 e_0; cases e_0
  ·
    refine VR.iv_qn r' ?_; clear r'; intro _ _ _ _ f1 f2 f3 m1 m2 e_0; cases e_0
    · exact rich_own g (units_lt ha) R.bs.K e1 e2 (qnType f1 _) (.inl rfl) h
theorem O.ltQS {n : Nat} {env : Env} {S : St} {x y : Str} : P2 (CA w mg mb) (n + 1) env S (compareOp .Lt) (.qn 258 x) (.str y) (.bool (slt x y)) := fun A Y s₀ D s v v' Q ha R r r' q => by
  have h := lt_qs g (n := n) (M := S.M) (x := x) (y := y) env S.μ A Y s₀ D s [v, v'] (fun v s' => ∃ r, v = .bool r ∧ Q v s') ha R (.cons r (.cons r' .nil)) fun r s' b S' p R' K' rr => by
    obtain ⟨e1, rfl, e3⟩ := p
    (refine VR.iv_bool rr fun e_0 => ?_; subst e_0)
    refine ⟨_, rfl, q _ _ _ S' ⟨rfl, ?_⟩ R' K' (.bool _)⟩
    obtain ⟨μ, M⟩ := S'; cases e1; cases e3; rfl
  refine VR.iv_qn r ?_; clear r; intro _ _ _ _ e1 e2 e3 n1 n2 e_0; cases e_0
  · (refine VR.iv_str r' fun _ e_0 => ?_; subst e_0); exact rich_own g (units_lt ha) R.bs.K e1 e2 (tb := .type "str") (Looks.of_pure rfl) (.inr (by rfl)) h
theorem O.ltSQ {n : Nat} {env : Env} {S : St} {x y : Str} : P2 (CA w mg mb) (n + 1) env S (compareOp .Lt) (.str y) (.qn 258 x) (.bool (slt y x)) := fun A Y s₀ D s v v' Q ha R r r' q => by
  have h := gt_qs g (n := n) (M := S.M) (x := x) (y := y) env S.μ A Y s₀ D s [v', v] (fun v s' => ∃ r, v = .bool r ∧ Q v s') ha R (.cons r' (.cons r .nil)) fun r s' b S' p R' K' rr => by
    obtain ⟨e1, rfl, e3⟩ := p
    (refine VR.iv_bool rr fun e_0 => ?_; subst e_0)
    refine ⟨_, rfl, q _ _ _ S' ⟨rfl, ?_⟩ R' K' (.bool _)⟩
    obtain ⟨μ, M⟩ := S'; cases e1; cases e3; rfl
  refine VR.iv_qn r' ?_; clear r'; intro _ _ _ _ e1 e2 e3 n1 n2 e_0; cases e_0
  · (refine VR.iv_str r fun _ e_0 => ?_; subst e_0); exact rich_refl g (units_lt ha) R.bs.K e1 e2 h
end
end Mine
namespace Mine
noncomputable def evO {α : Type} : Nat → List Obj → Sem α → Option (List Addr × α)
  | 0, _, _ => none
  | n + 1, os, m => match m with
    | .pure a => some ([], a)
    | .rule _ k => evO n os (k ())
    | .at _ k => evO n os (k ())
    | .load a _ k => match os with
      | o :: os => match evO n os (k o) with
        | some (l, r) => some (a :: l, r)
        | none => none
      | [] => none
    | _ => none
noncomputable def Looked (h : Heap) : List Addr → List Obj → Prop
  | [], _ => True
  | a :: l, o :: os => h.get? a = some o ∧ Looked h l os
  | _ :: _, [] => False
noncomputable def EvP {α : Type} (M : Model) (A : Around) (Q : α → Shared → Prop) (E : Value → Shared → Prop) (s : Shared) (os : List Obj) (m : Sem α) : Option (List Addr × α) → Prop
  | none => True
  | some (l, r) => Looked s.heap l os → Q r s → wpAny M A m Q E s
theorem EvP.imp {α : Type} {M : Model} {A : Around} {Q : α → Shared → Prop} {E : Value → Shared → Prop} {s : Shared} {os : List Obj} {m m' : Sem α} (h : wpAny M A m Q E s → wpAny M A m' Q E s) : ∀ {x : Option (List Addr × α)}, EvP M A Q E s os m x → EvP M A Q E s os m' x
  | none, _ => trivial
  | some _, k => fun a b => h (k a b)
theorem EvP.load {α : Type} {M : Model} {A : Around} {Q : α → Shared → Prop} {E : Value → Shared → Prop} {s : Shared} {o : Obj} {os : List Obj} {a : Addr} {part : Option Value} {k : Obj → Sem α} : ∀ {x : Option (List Addr × α)}, EvP M A Q E s os (k o) x →
    EvP M A Q E s (o :: os) (.load a part k) (match x with | some (l, r) => some (a :: l, r) | none => none)
  | none, _ => trivial
  | some _, h => fun hl q => wpAny_bind (m := loadPart a part) (f := k) (wpAny_loadPart hl.1 (h hl.2 q))
theorem evO_all {α : Type} {M : Model} {A : Around} {Q : α → Shared → Prop} {E : Value → Shared → Prop} {s : Shared} : ∀ (n : Nat) (os : List Obj) (m : Sem α), EvP M A Q E s os m (evO n os m)
  | 0, _, _ => trivial
  | n + 1, os, .pure a => fun _ q => wpAny_pure q
  | n + 1, os, .rule t k => (evO_all n os (k ())).imp fun h => wpAny_bind (m := rule t) (f := k) (wpAny_rule h)
  | n + 1, os, .at p k => (evO_all n os (k ())).imp fun h Γ _ hΓ => h Γ p hΓ
  | n + 1, [], .load a part k => trivial
  | n + 1, o :: os, .load a part k => (evO_all n os (k o)).load
  | _ + 1, _, .raise .. | _ + 1, _, .unsupported .. | _ + 1, _, .finish .. | _ + 1, _, .update .. | _ + 1, _, .alloc .. | _ + 1, _, .loadIfAlive .. | _ + 1, _, .point .. | _ + 1, _, .register .. | _ + 1, _, .fresh .. | _ + 1, _, .ask .. | _ + 1, _, .choose .. | _ + 1, _, .os .. | _ + 1, _, .call ..
  | _ + 1, _, .handled .. | _ + 1, _, .newGen .. | _ + 1, _, .genState .. | _ + 1, _, .resume .. | _ + 1, _, .yield .. | _ + 1, _, .stack .. | _ + 1, _, .fork .. | _ + 1, _, .thread .. | _ + 1, _, .await .. => trivial
theorem evO_wp {α : Type} {M : Model} {A : Around} {Q : α → Shared → Prop} {E : Value → Shared → Prop} {s : Shared} (n : Nat) {os : List Obj} {m : Sem α} {l : List Addr} {r : α} (h : evO n os m = some (l, r)) (hl : Looked s.heap l os) (q : Q r s) : wpAny M A m Q E s := by
  have := evO_all (M := M) (A := A) (Q := Q) (E := E) (s := s) n os m
  rw [h] at this
  exact this hl q
theorem Looked.nil {h : Heap} {os : List Obj} : Looked h [] os := trivial
theorem Looked.cons {h : Heap} {a : Addr} {o : Obj} {l : List Addr} {os : List Obj} (e : h.get? a = some o) (r : Looked h l os) : Looked h (a :: l) (o :: os) := ⟨e, r⟩
end Mine
namespace Mine
noncomputable def BA (C : Cx) (fd : FuncData) (args : List AV) (ab : List (Str × AV)) : Prop :=
  ∀ h X vs, VRs h X vs args → C.K.In h → (∀ a, C.Old a → a ∉ X) → ∃ bs, (∀ s : Shared, s.heap = h → BindsTo s fd ⟨vs, []⟩ bs) ∧ PRs h X bs ab
theorem BA.two {C : Cx} {fd : FuncData} {T : Addr} {o : Obj} {a b : AV} {x y : Str} (ho : C.K.lookup T = some o) (h : ∀ u v, evO 40 [o] (bindArgs fd ⟨[u, v], []⟩) = some ([T], [(x, u), (y, v)])) : BA C fd [a, b] [(x, a), (y, b)] := fun hp X vs r hK _ => by
  refine VRs.el_cons r fun u _ r rs => ?_
  · refine VRs.el_cons rs fun v _ r' rs => ?_; refine VRs.el_nil rs ?_; exact ⟨_, fun s e M A E Q hq => evO_wp _ (h u v) (.cons (e ▸ hK _ _ ho) .nil) hq, .cons r (.cons r' .nil)⟩
noncomputable def abB (a b : AV) : List (Str × AV) := [("a", a), ("x", b), ("lo", .int 0), ("hi", .none), ("key", .none)]
noncomputable def ArgsB (args : List AV) (a b : AV) : Prop := args = [a, b] ∨ args = [a, b, .int 0, .none]
theorem bindB {C : Cx} {fd : FuncData} {T d : Addr} {o oD : Obj} {n : Nat} {t0 : Tok} {a b : AV} {args : List AV} (ho : C.K.lookup T = some o) (hs : o.data = .seq #[.int 0 t0, .none] n) (hD : C.K.lookup d = some oD)
    (h2 : ∀ u v, evO 40 [o, oD] (bindArgs fd ⟨[u, v], []⟩) = some ([T, d], ([("a", u), ("x", v), ("lo", .int 0 t0), ("hi", .none), ("key", .none)] : List (Str × Value))))
    (h4 : ∀ u v p q, evO 40 [o, oD] (bindArgs fd ⟨[u, v, p, q], []⟩) = some ([T, d], ([("a", u), ("x", v), ("lo", p), ("hi", q), ("key", .none)] : List (Str × Value))))
    (ha : ArgsB args a b) : BA C fd args (abB a b) := fun hp X vs r hK _ => by
  rcases ha with rfl | rfl
  · refine VRs.el_cons r fun u _ r rs => ?_
    ·
      refine VRs.el_cons rs fun v _ r' rs => ?_
      ·
        refine VRs.el_nil rs ?_
        exact ⟨_, fun s e M A E Q hq => evO_wp _ (h2 u v) (.cons (e ▸ hK _ _ ho) (.cons (e ▸ hK _ _ hD) .nil)) hq, .cons r (.cons r' (.cons (.int ..) (.cons .none (.cons .none .nil))))⟩
  · refine VRs.el_cons r fun u _ r rs => ?_
    ·
      refine VRs.el_cons rs fun v _ r' rs => ?_
      ·
        refine VRs.el_cons rs fun p _ r2 rs => ?_
        ·
          refine VRs.el_cons rs fun q _ r3 rs => ?_
          ·
            refine VRs.el_nil rs ?_
            exact ⟨_, fun s e M A E Q hq => evO_wp _ (h4 u v p q) (.cons (e ▸ hK _ _ ho) (.cons (e ▸ hK _ _ hD) .nil)) hq, .cons r (.cons r' (.cons r2 (.cons r3 (.cons .none .nil))))⟩
section
variable {w : World} {mg mb : Str → Option Value} (g : GA w mg mb)
include g
theorem fdiv2 (a b : Nat) : ((a : Int) + (b : Int)).fdiv 2 = (((a + b) / 2 : Nat) : Int) := by
  rw [Int.fdiv_eq_ediv_of_nonneg _ (by decide)]; lia
theorem bisR_fn {n : Nat} {M : List (Addr × AO)} {r : Addr} {l : List AV} {xv : AV} {k : Nat} {p : AV → Bool} {args : List AV} (hargs : ArgsB args (.raw (.ref r)) xv) (hM : (r, AO.list l) ∈ M) (hz : l.length ≤ 1000) (hk : k ≤ l.length)
    (hc : ∀ c ∈ l, ∀ env μ, P2 (CA w mg mb) (n + 1) env ⟨μ, M⟩ (compareOp .Lt) xv c (.bool (p c))) (hp : ∀ i c, l[i]? = some c → p c = decide (k ≤ i)) :
    FN (CA w mg mb) (n + 2) 56 M args (fun a M' => a = .int k ∧ M' = M) := by
  have ok := okA g
  have sl : sizeLine = 16777216 := by decide
  refine fn_plain ok (ab := abB (.raw (.ref r)) xv) ⟨⟨_, rfl, rfl⟩, ⟨_, _, _, _, rfl, rfl, rfl, rfl⟩, rfl, rfl, rfl, (fun x c h => by cases h), rfl, rfl, rfl, by decide⟩ (by decide)
    ?hb (by intro x hx; simp [abB] at hx; rcases hx with rfl | rfl | rfl | rfl | rfl <;> rfl) ?hbody
  case hb => exact bindB (T := 48) (d := 49) rfl rfl rfl (by intro u v; kernel_rfl) (by intro u v p q; kernel_rfl) hargs
  intro L
  refine EX.cons (E1.ite ((PT.cmp (PE.name rfl) (PE.int ok) (O.lt ok)).then ?_))
  rw [if_neg (by decide)]
  refine EX.nil (EX.cons (E1.ite ((PT.cmp (PE.name rfl) PE.nul (O.is_none_ ok rfl)).then ?_)))
  rw [if_pos rfl]
  refine EX.cons (E1.assign ok (.inl rfl) ((PE.callB (PE.built rfl (g.non _ rfl) ((g.mb _ (by decide)).trans rfl)) (PL.cons (PE.name rfl) PL.nil) (O.len_lstM ok hM (by lia))).then (EX.nil ?_)))
  refine EX.cons (E1.ite ((PT.cmp (PE.name rfl) PE.nul (O.is_none_ ok rfl)).then ?_))
  rw [if_pos rfl]
  refine EX.cons (E1_while ok (fun m S => ∃ lo hi : Nat, lo ≤ k ∧ k ≤ hi ∧ hi ≤ l.length ∧ m = hi - lo ∧ S = ⟨[("key", .none), ("hi", .int hi), ("lo", .int lo), ("x", xv), ("a", .raw (.ref r))], M⟩) l.length ⟨0, l.length, by lia, hk, by lia, by lia, rfl⟩ ?_)
  rintro m S₁ ⟨lo, hi, h1, h2, h3, rfl, rfl⟩
  refine (PT.cmp (PE.name rfl) (PE.name rfl) (O.lt ok)).then ?_
  by_cases hlt : lo < hi
  · rw [if_pos (by simpa using hlt)]
    have hm : (lo + hi) / 2 < l.length := by lia
    obtain ⟨c, hcm⟩ : ∃ c, l[(lo + hi) / 2]? = some c := ⟨_, List.getElem?_eq_getElem hm⟩
    refine EX.cons (E1.assign ok (.inl rfl) ((PE.cast (PE.bin (PE.bin (PE.name rfl) (PE.name rfl) (O.add ok)) (PE.int ok) (O.fdiv ok (by decide) (by decide))) (congrArg AV.int (fdiv2 g lo hi))).then ?_))
    refine EX.cons (E1.ite ((PT.cmp (PE.name rfl) (PE.sub (PE.name rfl) (PE.name rfl) (O.sub_lstM ok hM (by lia) (by rw [Int.toNat_natCast]; exact hcm) (by lia))) (hc c (List.mem_of_getElem? hcm) _ _)).then ?_))
    rw [hp _ _ hcm]
    by_cases hkm : k ≤ (lo + hi) / 2
    · rw [if_pos (by simpa using hkm)]
      refine EX.cons (E1.assign ok (.inl rfl) ((PE.name rfl).then (EX.nil (EX.nil ?_))))
      exact ⟨_, Le.pre (ν := [("mid", .int ((lo + hi) / 2 : Nat))]), _, by lia, lo, (lo + hi) / 2, h1, hkm, by lia, rfl, rfl⟩
    · rw [if_neg (by simpa using hkm)]
      refine EX.cons (E1.assign ok (.inl rfl) ((PE.cast (PE.bin (PE.name rfl) (PE.int ok) (O.add ok)) (show AV.int ((((lo + hi) / 2 : Nat) : Int) + 1) = AV.int (((lo + hi) / 2 + 1 : Nat) : Int) by rw [Int.natCast_add]; rfl)).then (EX.nil (EX.nil ?_))))
      exact ⟨_, Le.pre (ν := [("mid", .int ((lo + hi) / 2 : Nat))]), _, by lia, (lo + hi) / 2 + 1, hi, by lia, h2, h3, rfl, rfl⟩
  · rw [if_neg (by simpa using hlt)]
    have : lo = k := by lia
    subst this
    exact EX.nil (EX.cons (E1.ret ((PE.name rfl).then ⟨rfl, rfl⟩)))
theorem bisL_fn {n : Nat} {M : List (Addr × AO)} {r : Addr} {l : List AV} {xv : AV} {k : Nat} {p : AV → Bool} {args : List AV} (hargs : ArgsB args (.raw (.ref r)) xv) (hM : (r, AO.list l) ∈ M) (hz : l.length ≤ 1000) (hk : k ≤ l.length)
    (hc : ∀ c ∈ l, ∀ env μ, P2 (CA w mg mb) (n + 1) env ⟨μ, M⟩ (compareOp .Lt) c xv (.bool (p c))) (hp : ∀ i c, l[i]? = some c → p c = decide (i < k)) :
    FN (CA w mg mb) (n + 2) 74 M args (fun a M' => a = .int k ∧ M' = M) := by
  have ok := okA g
  have sl : sizeLine = 16777216 := by decide
  refine fn_plain ok (ab := abB (.raw (.ref r)) xv) ⟨⟨_, rfl, rfl⟩, ⟨_, _, _, _, rfl, rfl, rfl, rfl⟩, rfl, rfl, rfl, (fun x c h => by cases h), rfl, rfl, rfl, by decide⟩ (by decide)
    ?hb (by intro x hx; simp [abB] at hx; rcases hx with rfl | rfl | rfl | rfl | rfl <;> rfl) ?hbody
  case hb => exact bindB (T := 66) (d := 67) rfl rfl rfl (by intro u v; kernel_rfl) (by intro u v p q; kernel_rfl) hargs
  intro L
  refine EX.cons (E1.ite ((PT.cmp (PE.name rfl) (PE.int ok) (O.lt ok)).then ?_))
  rw [if_neg (by decide)]
  refine EX.nil (EX.cons (E1.ite ((PT.cmp (PE.name rfl) PE.nul (O.is_none_ ok rfl)).then ?_)))
  rw [if_pos rfl]
  refine EX.cons (E1.assign ok (.inl rfl) ((PE.callB (PE.built rfl (g.non _ rfl) ((g.mb _ (by decide)).trans rfl)) (PL.cons (PE.name rfl) PL.nil) (O.len_lstM ok hM (by lia))).then (EX.nil ?_)))
  refine EX.cons (E1.ite ((PT.cmp (PE.name rfl) PE.nul (O.is_none_ ok rfl)).then ?_))
  rw [if_pos rfl]
  refine EX.cons (E1_while ok (fun m S => ∃ lo hi : Nat, lo ≤ k ∧ k ≤ hi ∧ hi ≤ l.length ∧ m = hi - lo ∧ S = ⟨[("key", .none), ("hi", .int hi), ("lo", .int lo), ("x", xv), ("a", .raw (.ref r))], M⟩) l.length ⟨0, l.length, by lia, hk, by lia, by lia, rfl⟩ ?_)
  rintro m S₁ ⟨lo, hi, h1, h2, h3, rfl, rfl⟩
  refine (PT.cmp (PE.name rfl) (PE.name rfl) (O.lt ok)).then ?_
  by_cases hlt : lo < hi
  · rw [if_pos (by simpa using hlt)]
    have hm : (lo + hi) / 2 < l.length := by lia
    obtain ⟨c, hcm⟩ : ∃ c, l[(lo + hi) / 2]? = some c := ⟨_, List.getElem?_eq_getElem hm⟩
    refine EX.cons (E1.assign ok (.inl rfl) ((PE.cast (PE.bin (PE.bin (PE.name rfl) (PE.name rfl) (O.add ok)) (PE.int ok) (O.fdiv ok (by decide) (by decide))) (congrArg AV.int (fdiv2 g lo hi))).then ?_))
    refine EX.cons (E1.ite ((PT.cmp (PE.sub (PE.name rfl) (PE.name rfl) (O.sub_lstM ok hM (by lia) (by rw [Int.toNat_natCast]; exact hcm) (by lia))) (PE.name rfl) (hc c (List.mem_of_getElem? hcm) _ _)).then ?_))
    rw [hp _ _ hcm]
    by_cases hkm : (lo + hi) / 2 < k
    · rw [if_pos (by simpa using hkm)]
      refine EX.cons (E1.assign ok (.inl rfl) ((PE.cast (PE.bin (PE.name rfl) (PE.int ok) (O.add ok)) (show AV.int ((((lo + hi) / 2 : Nat) : Int) + 1) = AV.int (((lo + hi) / 2 + 1 : Nat) : Int) by rw [Int.natCast_add]; rfl)).then (EX.nil (EX.nil ?_))))
      exact ⟨_, Le.pre (ν := [("mid", .int ((lo + hi) / 2 : Nat))]), _, by lia, (lo + hi) / 2 + 1, hi, by lia, h2, h3, rfl, rfl⟩
    · rw [if_neg (by simpa using hkm)]
      refine EX.cons (E1.assign ok (.inl rfl) ((PE.name rfl).then (EX.nil (EX.nil ?_))))
      exact ⟨_, Le.pre (ν := [("mid", .int ((lo + hi) / 2 : Nat))]), _, by lia, lo, (lo + hi) / 2, h1, by lia, by lia, rfl, rfl⟩
  · rw [if_neg (by simpa using hlt)]
    have : lo = k := by lia
    subst this
    exact EX.nil (EX.cons (E1.ret ((PE.name rfl).then ⟨rfl, rfl⟩)))
theorem insR_fn {n : Nat} {M : List (Addr × AO)} {i : Nat} {r : Addr} {l : List AV} {xv : AV} {k : Nat} {p : AV → Bool} (hM : M[i]? = some (r, AO.list l)) (hz : l.length ≤ 1000) (hk : k ≤ l.length)
    (hc : ∀ c ∈ l, ∀ env μ, P2 (CA w mg mb) (n + 1) env ⟨μ, M⟩ (compareOp .Lt) xv c (.bool (p c))) (hp : ∀ i c, l[i]? = some c → p c = decide (k ≤ i)) :
    FN (CA w mg mb) (n + 3) 47 M [.raw (.ref r), xv] (fun a M' => a = .none ∧ M' = M.set i (r, .list (O.insAt l k xv))) := by
  have ok := okA g
  have sl : sizeLine = 16777216 := by decide
  refine fn_plain ok (ab := abB (.raw (.ref r)) xv) ⟨⟨_, rfl, rfl⟩, ⟨_, _, _, _, rfl, rfl, rfl, rfl⟩, rfl, rfl, rfl, (fun x c h => by cases h), rfl, rfl, rfl, by decide⟩ (by decide)
    ?hb (by intro x hx; simp [abB] at hx; rcases hx with rfl | rfl | rfl | rfl | rfl <;> rfl) ?hbody
  case hb => exact bindB (T := 39) (d := 40) rfl rfl rfl (by intro u v; kernel_rfl) (by intro u v p q; kernel_rfl) (.inl rfl)
  intro L
  refine EX.cons (E1.ite ((PT.cmp (PE.name rfl) PE.nul (O.is_none_ ok rfl)).then ?_))
  rw [if_pos rfl]
  refine EX.cons (E1.assign ok (.inl rfl) ((PE.callF (c := .int k) (PE.glob rfl (g.glo _ _ rfl)) (show (CA w mg mb).K.lookup 56 = some _ from rfl) rfl (PL.cons (PE.name rfl) (PL.cons (PE.name rfl) (PL.cons (PE.name rfl) (PL.cons (PE.name rfl) PL.nil)))) (bisR_fn g (.inr rfl) (mem_of_get? hM) hz hk hc hp)).then (EX.nil ?_)))
  refine EX.cons (E1.expr (EV.bmeth F.slot_list_insert F.plainAttrs_list F.type_list_insert ((PE.name rfl).then ⟨r, rfl, listOb (mem_of_get? hM), PL.then (PL.cons (PE.name rfl) (PL.cons (PE.name rfl) PL.nil)) (O.insert ok hM (by lia) (by lia) (by lia) (EX.nil ⟨rfl, ?_⟩))⟩)))
  rw [Int.toNat_natCast]
theorem insL_fn {n : Nat} {M : List (Addr × AO)} {i : Nat} {r : Addr} {l : List AV} {xv : AV} {k : Nat} {p : AV → Bool} (hM : M[i]? = some (r, AO.list l)) (hz : l.length ≤ 1000) (hk : k ≤ l.length)
    (hc : ∀ c ∈ l, ∀ env μ, P2 (CA w mg mb) (n + 1) env ⟨μ, M⟩ (compareOp .Lt) c xv (.bool (p c))) (hp : ∀ i c, l[i]? = some c → p c = decide (i < k)) :
    FN (CA w mg mb) (n + 3) 65 M [.raw (.ref r), xv] (fun a M' => a = .none ∧ M' = M.set i (r, .list (O.insAt l k xv))) := by
  have ok := okA g
  have sl : sizeLine = 16777216 := by decide
  refine fn_plain ok (ab := abB (.raw (.ref r)) xv) ⟨⟨_, rfl, rfl⟩, ⟨_, _, _, _, rfl, rfl, rfl, rfl⟩, rfl, rfl, rfl, (fun x c h => by cases h), rfl, rfl, rfl, by decide⟩ (by decide)
    ?hb (by intro x hx; simp [abB] at hx; rcases hx with rfl | rfl | rfl | rfl | rfl <;> rfl) ?hbody
  case hb => exact bindB (T := 57) (d := 58) rfl rfl rfl (by intro u v; kernel_rfl) (by intro u v p q; kernel_rfl) (.inl rfl)
  intro L
  refine EX.cons (E1.ite ((PT.cmp (PE.name rfl) PE.nul (O.is_none_ ok rfl)).then ?_))
  rw [if_pos rfl]
  refine EX.cons (E1.assign ok (.inl rfl) ((PE.callF (c := .int k) (PE.glob rfl (g.glo _ _ rfl)) (show (CA w mg mb).K.lookup 74 = some _ from rfl) rfl (PL.cons (PE.name rfl) (PL.cons (PE.name rfl) (PL.cons (PE.name rfl) (PL.cons (PE.name rfl) PL.nil)))) (bisL_fn g (.inr rfl) (mem_of_get? hM) hz hk hc hp)).then (EX.nil ?_)))
  refine EX.cons (E1.expr (EV.bmeth F.slot_list_insert F.plainAttrs_list F.type_list_insert ((PE.name rfl).then ⟨r, rfl, listOb (mem_of_get? hM), PL.then (PL.cons (PE.name rfl) (PL.cons (PE.name rfl) PL.nil)) (O.insert ok hM (by lia) (by lia) (by lia) (EX.nil ⟨rfl, ?_⟩))⟩)))
  rw [Int.toNat_natCast]
end
end Mine
namespace Mine
structure Takes (K : Frag) (c : Addr) : Prop where
  set : findIn K (.ref c) "__setattr__" = some (some (.builtin "object.__setattr__"))
  over : plainOver K c = true
  dict : (clsIn K c).any (·.hasDict) = true
section
variable {C : Cx} (ok : C.Ok) {n : Nat} {env : Env} {S : St}
include ok
theorem setAttr_obj {A : Around} {s : Shared} {x c d : Addr} {ox : Obj} {name : Str} {v : Value} {Q : Unit → Shared → Prop} (K : C.K.In s.heap) (T : Takes C.K c) (hx : s.heap.get? x = some ox) (hcl : ox.cls = .ref c) (hno : notCls ox = true) (hd : ox.dict = some d)
    (hn : s.heap.get? d = some ⟨.type "dict", none, .dict #[] 0, #[]⟩) (ht : takerIn C.K c name = some none)
    (h : ∀ h' hs t ep tk, h'.get? d = some ⟨.type "dict", none, .dict #[⟨hs, .str name t, v⟩] ep, #[]⟩ → Heap.SameBut d s.heap h' → Q () { s with heap := h', toks := tk }) : wpAny (model C.prog C.w) A (setAttr (.ref x) name v) Q No s := by
  have I : InstAt s.heap x ox c (some ⟨.type "dict", none, .dict #[] 0, #[]⟩) := ⟨hx, hcl, hno, by rw [hd]; exact hn⟩
  refine set_plain K I T.set (osa_open (s := { s with toks := s.toks + 1 }) K I T.over ht fun b => ?_)
  obtain ⟨cd, hc, hd'⟩ := any_some T.dict
  obtain ⟨oc, odi, oda, osl⟩ := ox
  dsimp only at hcl hd
  subst hcl hd
  refine wpAny_bind (wpAny_pure (wpAny_bind (wpAny_bind (wpAny_loadPart hx (wpAny_bind ((looks_clsIn (show C.K.In ({ s with toks := s.toks + 1 } : Shared).heap from K) hc).here ?_))))))
  rw [hd']
  refine wpAny_pure (a := some d) (wpAny_bind (wpAny_pure (wpAny_bind ?_)))
  unfold nsSet
  refine wpAny_bind (wpAny_bind (wpAny_askSetting (wpAny_pure (wpAny_bind (wpAny_mkText (wpAny_bind (wpAny_loadPart hn ?_)))))))
  dsimp only
  have eA : aRefKeyMayBeTheName name #[] = false := by first | rfl | (rw [aRefKeyMayBeTheName_at]; rfl)
  rw [eA]
  refine wpAny_updatePart hn ?_
  have eP : ∀ H Kk, Obj.putName name H Kk v ⟨.type "dict", none, .dict #[] 0, #[]⟩ = ⟨.type "dict", none, .dict #[⟨H, Kk, v⟩] 1, #[]⟩ := fun H Kk => by simp [Obj.putName_eq, Obj.putNameByArray]
  have D' := fun H Kk => Heap.get?_update_self (h := s.heap) (a := d) (Obj.putName name H Kk v) hn (by rw [eP]; rfl)
  refine wpAny_bind (wpAny_lookBehind (D' _ _) (by rw [eP]; exact pastItsLine_dict (by show 1 ≤ sizeLine + 1; unfold sizeLine; lia)) ?_)
  refine wpAny_pure ?_
  exact h _ _ _ _ _ (by rw [← eP]; exact D' _ _) (Heap.SameBut.update ..)
end
end Mine
namespace Mine
theorem nodup_flatMap_one {α β : Type} {f : α → List β} {x : α} : ∀ {l : List α}, (l.flatMap f).Nodup → x ∈ l → (f x).Nodup
  | y :: l, h, m => by
    rw [List.flatMap_cons] at h
    rcases List.mem_cons.mp m with rfl | m
    · exact (List.nodup_append.mp h).1
    · exact nodup_flatMap_one (List.nodup_append.mp h).2.1 m
section
variable {C : Cx} {Y D : List Addr} {s₀ s : Shared} {env : Env} {μ : List (Str × AV)} {M : List (Addr × AO)} {p : Addr × AO}
theorem feet_snoc : feet (M ++ [p]) = feet M ++ foot p := by unfold feet; simp
theorem Rel.drop (R : Rel C Y s₀ D env ⟨μ, M ++ [p]⟩ s) : Rel C Y s₀ D env ⟨μ, M⟩ s ∧ (∀ v av, VR s.heap (Xo C Y env ⟨μ, M ++ [p]⟩) v av → VR s.heap (Xo C Y env ⟨μ, M⟩) v av) ∧ ∀ b ∈ foot p, b ∉ Xo C Y env ⟨μ, M⟩ := by
  have sub : ∀ a o, s.heap.get? a = some o → a ∉ Xo C Y env ⟨μ, M ++ [p]⟩ → a ∉ Xo C Y env ⟨μ, M⟩ := fun a o _ n q => n (by
    rw [mem_Xo] at q ⊢
    simp only [feet_snoc, List.mem_append] at q ⊢
    rcases q with q | (q | q) | q
    · exact .inl q
    · exact .inr (.inl (.inl q))
    · exact .inr (.inl (.inr (.inl q)))
    · exact .inr (.inr q))
  have nd := R.nd
  rw [feet_snoc, ← List.append_assoc, List.nodup_append] at nd
  refine ⟨⟨R.bs, R.ev, R.fr.sub sub, R.free, fun q hq => (R.ob q (List.mem_append_left _ hq)).sub sub, nd.1, fun a ha q => R.dis a ha ?_, fun a ha => R.hi a ?_, R.st, fun a ha => R.own a ?_⟩, fun v av r => r.sub sub, fun b hb q => ?_⟩
  · rw [feet_snoc, ← List.append_assoc]; exact List.mem_append_left _ q
  · simp only [feet_snoc, List.mem_append] at ha ⊢
    rcases ha with h | h | h
    · exact .inl h
    · exact .inr (.inl (.inl h))
    · exact .inr (.inr h)
  · rw [feet_snoc, ← List.append_assoc]; exact List.mem_append_left _ ha
  · have hm : b ∈ feet (M ++ [p]) := by rw [feet_snoc]; exact List.mem_append_right _ hb
    rw [mem_Xo] at q
    rcases q with q | q | q
    · exact (R.hi b (List.mem_append_right _ (List.mem_append_left _ hm))).2.1 q
    · exact nd.2.2 b q b hb rfl
    · exact R.dis b q (List.mem_append_right _ hm)
end
section
variable {C : Cx} {n : Nat} {env : Env} {S : St}
theorem EV.callK {f : Addr} {x : Str} {e : Expr} {es : List Expr} {p pos : Pos} {P : AV → St → Prop} (hf : PE C n env S (.Name x p) (.raw (.ref f))) (hk : keepIn C.K (.ref f) = true)
    (h : EL C n env S pos (e :: es) fun l S₁ => VN C n env S₁ (fun vs => call (.ref f) vs) l P)
    (he : starEach (e :: es) env = (false, eval e env) :: starEach es env := by rfl) (hplain : (backTo pos (starEach es env)).any (·.1) = false := by rfl) : EV C n env S (.Call (.Name x p) (e :: es) [] pos) P :=
  fun A Y s₀ D s Q ha R q => wpAny_Call_Name_kw (hf A Y s₀ D s _ ha R fun g s₁ a₁ S₁ p₁ R₁ K₁ r₁ => by
    obtain ⟨rfl, rfl⟩ := p₁
    refine VR.el_raw r₁ ?_
    refine callWith_K (h₀ := s₁.heap) R₁.bs.K hk ?_ he hplain
    exact h A Y s₀ D s₁ _ ha R₁ fun vs s₂ l S₂ p₂ R₂ K₂ r₂ => ⟨R₂.bs.K, p₂ A Y s₀ D s₂ vs Q ha R₂ r₂ fun r s₃ b S₃ p₃ R₃ K₃ r₃ => q r s₃ b S₃ p₃ R₃ ((K₁.trans K₂).trans K₃) r₃⟩)
theorem EV.callK0 {f : Addr} {x : Str} {p pos : Pos} {P : AV → St → Prop} (hf : PE C n env S (.Name x p) (.raw (.ref f))) (hk : keepIn C.K (.ref f) = true)
    (h : VN C n env S (fun vs => call (.ref f) vs) [] P) : EV C n env S (.Call (.Name x p) [] [] pos) P :=
  fun A Y s₀ D s Q ha R q => wpAny_Call_Name_kw (hf A Y s₀ D s _ ha R fun g s₁ a₁ S₁ p₁ R₁ K₁ r₁ => by
    obtain ⟨rfl, rfl⟩ := p₁
    refine VR.el_raw r₁ ?_
    refine callWith_K0 R₁.bs.K hk ?_
    exact h A Y s₀ D s₁ [] Q ha R₁ .nil fun r s₃ b S₃ p₃ R₃ K₃ r₃ => q r s₃ b S₃ p₃ R₃ (K₁.trans K₃) r₃)
end
section
variable {C : Cx} (ok : C.Ok) {n : Nat} {env : Env} {S : St}
include ok
theorem E1_setAttr {i : Nat} {a c d : Addr} {sq : Option (List (Str × Str))} {o value : Expr} {attr : Str} {pos' pos : Pos} {av : AV} {P : AF → St → Prop} (T : Takes C.K c) (ht : takerIn C.K c attr = some none)
    (hM : S.M[i]? = some (a, .obj c d none sq)) (hv : PE C n env S value av) (ho : PE C n env S o (.raw (.ref a))) (h : P .next ⟨S.μ, S.M.set i (a, .obj c d (some (attr, av)) sq)⟩)
    (hs : swapsWith value (some (.Attribute o attr pos')) pos.line env = pure false := by rfl) : E1 C n env S (.Assign [.Attribute o attr pos'] value pos) P :=
  fun A Y s₀ D s Q ha R q => plainObj_wpAny_Assign_Attribute (hs := hs) (hv A Y s₀ D s _ ha R fun v s₁ a₁ S₁ p₁ R₁ K₁ r₁ => by
    obtain ⟨rfl, rfl⟩ := p₁
    refine ho A Y s₀ D s₁ _ ha R₁ fun ov s₂ a₂ S₂ p₂ R₂ K₂ r₂ => ?_
    obtain ⟨rfl, rfl⟩ := p₂
    refine VR.el_raw r₂ ?_
    obtain ⟨⟨vs, k, e, hsq⟩, hdict⟩ := R₂.ob _ (mem_of_get? hM)
    have hdX : d ∈ fa env ++ feet S₂.M := List.mem_append_right _ (mem_feet (mem_of_get? hM) (by simp [foot, AO.more]))
    have hda : d ≠ a := by
      have nd := (List.nodup_append.mp R₂.nd).2.1
      intro q
      have hf : (foot (a, AO.obj c d none sq)).Nodup := by
        unfold feet at nd
        exact nodup_flatMap_one nd (mem_of_get? hM)
      simp [foot, AO.more] at hf
      exact hf q.symm
    refine setAttr_obj ok R₂.bs.K T e rfl (by cases sq <;> rfl) rfl hdict ht fun h' hs t ep tk hd' hb => ?_
    have hT : d ∉ C.T := R₂.tn (by rw [← List.append_assoc]; exact List.mem_append_left _ hdX)
    have st : SStp C.T [d] s₂ { s₂ with heap := h', toks := tk } := ⟨.sameBut hb hT, rfl, rfl, id⟩
    have rv : VR h' (Xo C Y env S₂) v a₁ := (K₂ _ _ r₁).stp st.heap (R₂.inX hdX) R₂.hT
    obtain ⟨R₃, K₃⟩ := R₂.setObj ok (s' := { s₂ with heap := h', toks := tk }) (o' := .obj c d (some (attr, a₁)) sq) hM rfl (by simp [foot, AO.more] : d ∈ foot (a, AO.obj c d none sq)) st ⟨_, hd'⟩
      ⟨⟨vs, k, (hb.2 a hda.symm).trans e, fun l el => VRs.stp st.heap (R₂.inX hdX) R₂.hT (hsq l el)⟩, hs, t, ep, v, hd', rv⟩
    exact q _ _ _ _ h R₃ ((K₁.trans K₂).trans K₃) .next)
end
end Mine
namespace Mine
section
variable {C : Cx} (ok : C.Ok) {n : Nat} {M : List (Addr × AO)} {args : List AV}
include ok
theorem fc_make {c fI : Addr} {P : AV → List (Addr × AO) → Prop} (hm : makesIn C.K c = true) (hi : findIn C.K (.ref c) "__init__" = some (some (.ref fI))) (hf : typeIn C.K (.ref fI) = some (.type "function"))
    (h : ∀ x d, FC C n fI (M ++ [(x, .obj c d none none)]) (.raw (.ref x) :: args) fun av M' => av = .none ∧ P (.raw (.ref x)) M') : FC C (n + 1) c M args P := by
  intro env μ A Y s₀ D s vs Q ha R rv q
  obtain ⟨hh, g, d, t, os⟩ := s
  refine make_core (makes_of R.bs.K hm) (looks_findIn R.bs.K hi) (fun self => bind_fn R.bs.K self hf) (.inl rfl) ?_
  have hA : AOk n (A.under (.builtin "type.__call__" ⟨.ref c :: vs, []⟩)) := ⟨ha.1, by have := ha.2; show A.depth + 1 + n < 900; lia, by have := ha.3; show A.units + 1 + 8 * n < 9000; lia⟩
  have kk : ∀ b o, hh.get? b = some o → ((hh.push emptyDict).push (instObj c hh.objs.size)).get? b = some o := fun b o e => Heap.get?_push_of_some _ (Heap.get?_push_of_some _ e)
  have ex : ((hh.push emptyDict).push (instObj c hh.objs.size)).get? (hh.objs.size + 1) = some (instObj c hh.objs.size) := by heap_get
  have ed : ((hh.push emptyDict).push (instObj c hh.objs.size)).get? hh.objs.size = some emptyDict := by heap_get
  have no : ∀ k, hh.get? (hh.objs.size + k) = none := fun k => by
    cases e : hh.get? (hh.objs.size + k) with
    | none => rfl
    | some o => exact absurd (Heap.lt_size e) (Nat.not_lt.mpr (Nat.le_add_right _ _))
  obtain ⟨R₁, K₁⟩ := R.newObj ok (a := hh.objs.size + 1) (o := .obj c hh.objs.size none none) (s' := ⟨(hh.push emptyDict).push (instObj c hh.objs.size), g, d, t, os⟩)
    (fun b hb => by
      have hb' : b = hh.objs.size + 1 ∨ b = hh.objs.size := by simpa [foot, AO.more] using hb
      rcases hb' with rfl | rfl
      · exact ⟨no 1, _, ex⟩
      · exact ⟨no 0, _, ed⟩)
    (by simp [foot, AO.more]) ⟨.of_keeps kk, rfl, rfl, id⟩ ⟨⟨[], 0, ex, fun l e => by cases e⟩, ed⟩
  refine h _ _ env μ _ Y s₀ D _ _ _ hA R₁ (.cons (.raw _) (K₁.all rv)) fun v s' av S' p R' K' r => ?_
  obtain ⟨hμ, rfl, hP⟩ := p
  (refine VR.iv_none r fun e_0 => ?_; subst e_0)
  exact ⟨rfl, q _ _ _ _ ⟨hμ, hP⟩ R' (K₁.trans K') (.raw _)⟩
theorem FC.qn {f c : Addr} {y : Str} (h : FC C n f M args fun av M' => ∃ x d, av = .raw (.ref x) ∧ M' = M ++ [(x, .obj c d (some ("text", .str y)) none)]) : FC C n f M args (fun av M' => av = .qn c y ∧ M' = M) := by
  intro env μ A Y s₀ D s vs Q ha R rv q
  refine h env μ A Y s₀ D s vs Q ha R rv fun v s' av S' p R' K' r => ?_
  obtain ⟨μ', M'⟩ := S'
  obtain ⟨hμ, x, d, rfl, hM⟩ := p
  dsimp only at hμ hM
  subst hμ hM
  (refine VR.iv_raw r fun e_0 => ?_; subst e_0)
  obtain ⟨Rd, Vd, Nd⟩ := R'.drop
  obtain ⟨⟨vs', k, e1, _⟩, hs, tk, ep, u, e2, ru⟩ := R'.ob (x, .obj c d (some ("text", .str y)) none) (List.mem_append_right _ (List.mem_singleton.mpr rfl))
  refine VR.iv_str ru ?_; clear ru; intro t1 e_0; cases e_0
  ·
    have hl : lookIn (Str.ofString "text") ⟨.type "dict", none, .dict #[⟨hs, .str (Str.ofString "text") tk, .str y t1⟩] ep, #[]⟩ = some (some (.str y t1)) := by simp [lookIn, Value.isStr]
    exact q _ _ (.qn c y) ⟨μ', M⟩ ⟨rfl, rfl, rfl⟩ Rd (fun v av r => Vd _ _ (K' v av r)) (.qn e1 e2 hl (Nd _ (by simp [foot])) (Nd _ (by simp [foot, AO.more])))
end
end Mine
namespace Mine
noncomputable def brace (x y : Str) : Str := Str.ofString "{" ++ x ++ Str.ofString "}" ++ y
theorem braceIs (x y : Str) : AV.str (Str.empty ++ Str.ofString "{" ++ x ++ Str.ofString "}" ++ y) = AV.str (brace x y) := by
  have : Str.empty ++ Str.ofString "{" = Str.ofString "{" := by decide +kernel
  rw [this]; rfl
section
variable {C : Cx} (ok : C.Ok) {n : Nat} {env : Env} {S : St}
noncomputable def PJ (C : Cx) (n : Nat) (env : Env) (S : St) (es : List Expr) (acc out : Str) : Prop :=
  ∀ A Y s₀ D s (Q : Str → Shared → Prop), AOk n A → Rel C Y s₀ D env S s → (∀ s', Rel C Y s₀ D env S s' → Kp C Y env S s S s' → Q out s') → Joins (model C.prog C.w) A No (evalEach es env) acc Q s
theorem PJ.nil {acc : Str} : PJ C n env S [] acc acc := fun A Y s₀ D s Q ha R q => q s R .refl
theorem PJ.cons {e : Expr} {es : List Expr} {acc y out : Str} (h : PE C n env S e (.str y)) (hz : (acc ++ y).length ≤ sizeLine) (t : PJ C n env S es (acc ++ y) out) : PJ C n env S (e :: es) acc out :=
  fun A Y s₀ D s Q ha R q => h A Y s₀ D s _ ha R fun v s₁ a S₁ p R₁ K₁ r => by
    obtain ⟨rfl, rfl⟩ := p
    refine VR.el_str r fun u => ?_
    · exact ⟨y, u, rfl, hz, t A Y s₀ D s₁ _ ha R₁ fun s' R' K' => q s' R' (K₁.trans K')⟩
include ok
theorem PE.joined {e e' : Expr} {es : List Expr} {pos : Pos} {out : Str} (h : PJ C n env S (e :: e' :: es) Str.empty out) (hz : out.length ≤ sizeLine) : PE C n env S (.JoinedStr (e :: e' :: es) pos) (.str out) :=
  fun A Y s₀ D s Q ha R q => wpAny_JoinedStr (h A Y s₀ D s _ ha R fun s' R' K' => ⟨hz, q _ _ _ _ ⟨rfl, rfl⟩ (R'.go ok (.toks ..)) (K'.trans (Kp.go R' (.toks ..))) (.str ..)⟩)
theorem PE.fmt_s {e : Expr} {pos : Pos} {x : Str} (h : PE C n env S e (.str x)) (hz : x.length ≤ sizeLine) : PE C n env S (.FormattedValue e 115 none pos) (.str x) := fun A Y s₀ D s Q ha R q => by
  show wpAny _ _ (do let v ← eval e env; standAt pos; formatted pos (← holding [v] (converted 115 v)) none) Q No s
  refine wpAny_bind (h A Y s₀ D s _ ha R fun v s₁ a S₁ p R₁ K₁ r => ?_)
  obtain ⟨rfl, rfl⟩ := p
  refine VR.el_str r fun t => ?_
  ·
    refine wpAny_bind (wpAny_standAt ?_)
    show wpAny _ _ (do let v' ← holding [Value.str x t] (converted 115 (.str x t)); formatField v' Str.empty) Q No s₁
    refine wpAny_bind (wpAny_holding ?_)
    refine habitSame_str (row := "fstring-hands-on-the-str") (fun t1 tk1 => ?_) hz
    exact formatField_str (fun t' tk => q _ _ _ _ ⟨rfl, rfl⟩ (R₁.go ok (.toks ..)) (K₁.trans (Kp.go R₁ (.toks ..))) (.str ..)) hz
end
end Mine
namespace Mine
theorem bind3d {C : Cx} {fd : FuncData} {T : Addr} {o : Obj} {a b c : AV} {x y z : Str} (ho : C.K.lookup T = some o) (h : ∀ u v t, evO 40 [o] (bindArgs fd ⟨[u, v, t], []⟩) = some ([T], [(x, u), (y, v), (z, t)])) : BA C fd [a, b, c] [(x, a), (y, b), (z, c)] := fun hp X vs r hK _ => by
  refine VRs.el_cons r fun v _ r rs => ?_; refine VRs.el_cons rs fun u _ r' rs => ?_; refine VRs.el_cons rs fun t _ r2 rs => ?_; refine VRs.el_nil rs ?_; exact ⟨_, fun s e M A E Q hq => evO_wp _ (h v u t) (.cons (e ▸ hK _ _ ho) .nil) hq, .cons r (.cons r' (.cons r2 .nil))⟩
section
variable {w : World} {mg mb : Str → Option Value} (g : GA w mg mb)
include g
theorem qname_init {n : Nat} {M : List (Addr × AO)} {x y : Str} (a d : Addr) (hx : x.length ≤ 100000) (hy : y.length ≤ 100000) (h0 : 0 < y.length) :
    FC (CA w mg mb) (n + 1) 199 (M ++ [(a, .obj 258 d none none)]) [.raw (.ref a), .str x, .str y] (fun av M' => av = .none ∧ M' = M ++ [(a, .obj 258 d (some ("text", .str (brace x y))) none)]) := by
  have ok := okA g
  refine fc_plain ok (ab := [("self", .raw (.ref a)), ("text_or_uri", .str x), ("tag", .str y)]) ⟨⟨_, rfl, rfl⟩, ⟨_, _, _, _, rfl, rfl, rfl, rfl⟩, rfl, rfl, rfl, (fun x c h => by cases h), rfl, rfl, rfl, by decide⟩ (by decide) (bind3d (T := 192) rfl (by intro u v t; kernel_rfl)) (by intro x hx; simp at hx; rcases hx with rfl | rfl | rfl <;> rfl) ?_
  intro L
  have sl : sizeLine = 16777216 := by decide
  have l0 : Str.empty.length = 0 := rfl
  have l1 : (Str.ofString "{").length = 1 := by decide
  have l2 : (Str.ofString "}").length = 1 := by decide
  refine EX.cons (E1.ite ((PT.val (PE.name rfl) (T1.str ok (by lia))).then ?_))
  rw [if_pos (by simp; lia)]
  refine EX.cons (E1.assign ok (.inl rfl) ((PE.cast (PE.joined ok (PJ.cons (PE.str ok) (by simp only [strLen_append, l0, l1, l2]; lia) (PJ.cons (PE.fmt_s ok (PE.name rfl) (by lia)) (by simp only [strLen_append, l0, l1, l2]; lia) (PJ.cons (PE.str ok) (by simp only [strLen_append, l0, l1, l2]; lia) (PJ.cons (PE.fmt_s ok (PE.name rfl) (by lia)) (by simp only [strLen_append, l0, l1, l2]; lia) PJ.nil)))) (by simp only [strLen_append, l0, l1, l2]; lia)) (braceIs x y)).then (EX.nil ?_)))
  refine EX.cons (E1_setAttr ok (i := M.length) (a := a) (c := 258) (d := d) (sq := none) ⟨rfl, rfl, rfl⟩ rfl (by simp) (PE.name rfl) (PE.name rfl) (EX.nil ?_))
  exact ⟨rfl, by simp⟩
theorem qname_fc {n : Nat} {M : List (Addr × AO)} {x y : Str} (hx : x.length ≤ 100000) (hy : y.length ≤ 100000) (h0 : 0 < y.length) :
    FC (CA w mg mb) (n + 2) 258 M [.str x, .str y] (fun av M' => av = .qn 258 (brace x y) ∧ M' = M) := by
  have ok := okA g
  refine FC.qn ok (fc_make ok (fI := 199) rfl rfl rfl fun a d => ?_)
  have h := qname_init g (n := n) (M := M) a d hx hy h0
  intro env μ A Y s₀ D s vs Q ha R rv q
  refine h env μ A Y s₀ D s vs Q ha R rv fun v s' av S' p R' K' r => q v s' av S' ⟨p.1, p.2.1, a, d, rfl, p.2.2⟩ R' K' r
end
end Mine
namespace Mine
theorem call_meth {prog : Program} {w : World} {A : Around} {E : Value → Shared → Prop} {s : Shared} {env : Env} {o : Expr} {name : Str} {apos pos : Pos} {args : List Expr} {Q : Value → Shared → Prop}
    (hbase : attributeBase o name env (eval o env) = eval o env)
    (hfew : ((backTo pos (starEach args env)).all (fun x => !x.1) && (backToKw pos (keywordEach [] env)).all (fun x => x.1.isSome) && decide (args.length + ([] : List Keyword).length + (if ([] : List Keyword).isEmpty then 0 else 1) < 30)) = true)
    (hline : (apos.endLine == pos.line) = true)
    (h : wpAny (model prog w) A (eval o env) (fun ov s₁ => ∀ pl, wpAny (model prog w) A (getMethod ov name pl) (fun r s₂ => wpAny (model prog w) A (callWith pos r.1 r.2 (backTo pos (starEach args env)) []) Q E s₂) E s₁) E s) :
    wpAny (model prog w) A (eval (.Call (.Attribute o name apos) args [] pos) env) Q E s := by
  rw [arm_eval_Call, hbase]
  refine wpAny_bind (wpAny_mono h (fun ov s₁ h₁ => ?_) fun _ _ e => e)
  refine wpAny_bind (wpAny_standAt ?_)
  have hform : methodCallForm (args.length + ([] : List Keyword).length) (backTo pos (starEach args env)) (backToKw pos (keywordEach [] env)) = true := hfew
  have hpos : methodCallPos true o env apos pos = pure pos := by unfold methodCallPos; simp [hline]
  unfold methodCall
  rw [hform]
  refine wpAny_bind (wpAny_holding (wpAny_mono (h₁ _) (fun r s₂ h₂ => ?_) fun _ _ e => e))
  exact wpAny_bind (wpAny_of_eq hpos h₂)
theorem method_bi {prog : Program} {w : World} {A : Around} {E : Value → Shared → Prop} {s : Shared} {K : Frag} {x C : Addr} {ox : Obj} {od : Option Obj} {name : Str} {pl : Sem Bool} {Q : Value × List Value → Shared → Prop} {v : Value} {t ga : String} (X : K.In s.heap) (I : InstAt s.heap x ox C od) (hga : findIn K (.ref C) "__getattribute__" = some (some (.builtin ga))) (hcan : Manifest.canonical ga = "object.__getattribute__") (hk : findIn K (.ref C) "__getattr__" = some none)
    (hf : findIn K (.ref C) name = some (some v)) (ht : typeIn K v = some (.type t)) (ht' : (t == "function" || t == "method_descriptor") = true) (hs : shadowIn od name = some false) (h : Q (v, [.ref x]) s) :
    wpAny (model prog w) A (getMethod (.ref x) name pl) Q E s := by
  unfold getMethod specialOf
  refine wpAny_bind (wpAny_bind (I.type.here ((looks_findIn X hga).here ?_)))
  dsimp only
  rw [hcan, if_neg (by decide)]
  refine wpAny_bind (wpAny_bind (I.type.here ((looks_findIn X hk).here ?_)))
  refine wpAny_bind (wpAny_bind (I.type.here ((looks_findIn X hf).here (wpAny_bind ((looks_typeIn X ht).here ?_)))))
  rw [if_neg (by
    have : t = "function" ∨ t = "method_descriptor" := by simpa using ht'
    rcases this with rfl | rfl <;> decide +kernel)]
  refine wpAny_bind (wpAny_loadPart I.at_ ?_)
  have hd := I.dict
  cases e : ox.dict with
  | none => exact wpAny_bind (wpAny_rule (wpAny_pure h))
  | some dx =>
    cases od with
    | none => rw [e] at hd; exact hd.elim
    | some o =>
      rw [e] at hd
      obtain ⟨r, a, b⟩ := Option.map_eq_some_iff.mp hs
      refine wpAny_bind (wpAny_bind (wpAny_loadPart hd ?_))
      rw [nsLook_of a]
      refine wpAny_pure ?_
      rw [b]
      exact wpAny_bind (wpAny_rule (wpAny_pure h))
theorem inst_of {C : Cx} {h : Heap} {X : List Addr} {p c d : Addr} {kv : Option (Str × AV)} {sq : Option (List (Str × Str))} {name : Str} (o : OR C h X p (.obj c d kv sq)) (hy : ∀ q, kv = some q → (q.1 == name) = false) : ∃ ox od, InstAt h p ox c (some od) ∧ shadowIn (some od) name = some false := by
  obtain ⟨⟨vs, k, e, _⟩, hd⟩ := o
  cases kv with
  | none => exact ⟨_, _, ⟨e, rfl, by cases sq <;> rfl, hd⟩, by simp [shadowIn, lookIn]⟩
  | some q =>
    obtain ⟨y, a⟩ := q
    obtain ⟨hs, tk, ep, u, e2, _⟩ := hd
    refine ⟨_, _, ⟨e, rfl, by cases sq <;> rfl, e2⟩, ?_⟩
    have := hy _ rfl
    have e3 : ([⟨hs, .str y tk, u⟩] : List DictEntry).find? (·.key.isStr name) = none := by simp [Value.isStr, this]
    show (lookIn name _).map (·.isSome) = some false
    unfold lookIn
    dsimp only
    rw [e3]
    rfl
section
variable {C : Cx} {n : Nat} {env : Env} {S : St}
structure Meth (C : Cx) (c : Addr) (name : Str) (v : Value) : Prop where
  ga : ∃ i, findIn C.K (.ref c) "__getattribute__" = some (some (.builtin i)) ∧ Manifest.canonical i = "object.__getattribute__"
  gt : findIn C.K (.ref c) "__getattr__" = some none
  at_ : findIn C.K (.ref c) name = some (some v)
  ty : ∃ t, typeIn C.K v = some (.type t) ∧ (t == "function" || t == "method_descriptor") = true
  keep : keepIn C.K v = true ∨ ∃ i, v = .builtin i
theorem EV.ometh {o : Expr} {name : Str} {e : Expr} {es : List Expr} {apos pos : Pos} {c : Addr} {v : Value} {P : AV → St → Prop} (m : Meth C c name v)
    (h : EV C n env S o fun a S₁ => ∃ p d kv sq, a = .raw (.ref p) ∧ (p, .obj c d kv sq) ∈ S₁.M ∧ (∀ q, kv = some q → (q.1 == name) = false) ∧ EL C n env S₁ pos (e :: es) fun l S₂ => VN C n env S₂ (fun vs => call v (.ref p :: vs)) l P)
    (hbase : attributeBase o name env (eval o env) = eval o env := by rfl)
    (hfew : ((backTo pos (starEach (e :: es) env)).all (fun x => !x.1) && (backToKw pos (keywordEach [] env)).all (fun x => x.1.isSome) && decide ((e :: es).length + ([] : List Keyword).length + (if ([] : List Keyword).isEmpty then 0 else 1) < 30)) = true := by rfl)
    (hline : (apos.endLine == pos.line) = true := by rfl)
    (he : starEach (e :: es) env = (false, eval e env) :: starEach es env := by rfl) (hplain : (backTo pos (starEach es env)).any (·.1) = false := by rfl) :
    EV C n env S (.Call (.Attribute o name apos) (e :: es) [] pos) P :=
  fun A Y s₀ D s Q ha R q => call_meth hbase hfew hline (h A Y s₀ D s _ ha R fun ov s₁ a S₁ p R₁ K₁ rv => by
    obtain ⟨p, d, kv, sq, rfl, hm, hy, hEL⟩ := p
    refine VR.el_raw rv ?_
    intro pl
    obtain ⟨ox, od, I, sh⟩ := inst_of (R₁.ob _ hm) hy
    obtain ⟨t, t1, t2⟩ := m.ty
    obtain ⟨gi, g1, g2⟩ := m.ga
    refine method_bi R₁.bs.K I g1 g2 m.gt m.at_ t1 t2 sh ?_
    have go : wpAny (model C.prog C.w) A (spliced (backTo pos (starEach (e :: es) env))) (fun vs s₂ => C.K.In s₂.heap ∧ wpAny (model C.prog C.w) A (call v ([.ref p] ++ vs)) Q No s₂) No s₁ → wpAny (model C.prog C.w) A (callWith pos v [.ref p] (backTo pos (starEach (e :: es) env)) []) Q No s₁ := fun h => by
      rcases m.keep with k | ⟨i, rfl⟩
      · exact callWith_K R₁.bs.K k h he hplain
      · rw [he] at h ⊢
        exact Calls.callWith_builtin (by show (false || (backTo pos (starEach es env)).any (·.1)) = false; rw [hplain]; rfl) (evalArgs_plain (wpAny_mono h (fun _ _ x => x.2) fun _ _ x => x))
    refine go ?_
    rw [he]
    have h' := hEL A Y s₀ D s₁ (fun vs s₂ => C.K.In s₂.heap ∧ wpAny (model C.prog C.w) A (call v ([.ref p] ++ vs)) Q No s₂) ha R₁ fun vs s₂ l S₂ p₂ R₂ K₂ r₂ => ⟨R₂.bs.K, p₂ A Y s₀ D s₂ vs Q ha R₂ r₂ fun r s₃ b S₃ p₃ R₃ K₃ r₃ => q r s₃ b S₃ p₃ R₃ ((K₁.trans K₂).trans K₃) r₃⟩
    rw [he] at h'
    exact h')
theorem EV.ometh0 {o : Expr} {name : Str} {apos pos : Pos} {c : Addr} {v : Value} {P : AV → St → Prop} (m : Meth C c name v)
    (h : EV C n env S o fun a S₁ => ∃ p d kv sq, a = .raw (.ref p) ∧ (p, .obj c d kv sq) ∈ S₁.M ∧ (∀ q, kv = some q → (q.1 == name) = false) ∧ VN C n env S₁ (fun vs => call v (.ref p :: vs)) [] P)
    (hbase : attributeBase o name env (eval o env) = eval o env := by rfl)
    (hline : (apos.endLine == pos.line) = true := by rfl) :
    EV C n env S (.Call (.Attribute o name apos) [] [] pos) P :=
  fun A Y s₀ D s Q ha R q => call_meth hbase rfl hline (h A Y s₀ D s _ ha R fun ov s₁ a S₁ p R₁ K₁ rv => by
    obtain ⟨p, d, kv, sq, rfl, hm, hy, hVN⟩ := p
    refine VR.el_raw rv ?_
    intro pl
    obtain ⟨ox, od, I, sh⟩ := inst_of (R₁.ob _ hm) hy
    obtain ⟨t, t1, t2⟩ := m.ty
    obtain ⟨gi, g1, g2⟩ := m.ga
    refine method_bi R₁.bs.K I g1 g2 m.gt m.at_ t1 t2 sh ?_
    have go : wpAny (model C.prog C.w) A (call v ([.ref p] ++ [])) Q No s₁ → wpAny (model C.prog C.w) A (callWith pos v [.ref p] (backTo pos (starEach [] env)) []) Q No s₁ := fun h => by
      rcases m.keep with k | ⟨i, rfl⟩
      · exact callWith_K0 R₁.bs.K k h
      · exact Calls.callWith_builtin rfl (evalArgs_nil3 h)
    exact go (hVN A Y s₀ D s₁ [] Q ha R₁ .nil fun r s₃ b S₃ p₃ R₃ K₃ r₃ => q r s₃ b S₃ p₃ R₃ (K₁.trans K₃) r₃))
end
end Mine
namespace Mine
theorem check_meth {M : Model} {A : Around} {E : Value → Shared → Prop} {s : Shared} {i owner n : String} {self : Value} {rest : List Value} {kw : List (Str × Value)} {Q : Unit → Shared → Prop}
    (hk : builtinKind i = some .method ∨ builtinKind i = some .slot) (hs : splitId i = some (owner, n)) (hi : Looks M s.heap (isInstance self (.type owner)) true) (ha : argsOk i ⟨self :: rest, kw⟩) (q : Q () s) :
    wpAny M A (checkBuiltinCall i ⟨self :: rest, kw⟩) Q E s := by
  rcases hk with hk | hk
  case inr => exact check_slot hk hs hi ha q
  simp only [checkBuiltinCall, hk, hs]
  refine wpAny_bind (hi.here ?_)
  simp only [Bool.not_true, Bool.false_eq_true, if_false]
  cases hsig : Manifest.signature? i with
  | none => exact wpAny_pure q
  | some sig =>
    simp only [argsOk, hsig] at ha
    have h2 : Bind.checkArgs i sig ⟨self :: rest, kw⟩ = pure () := ha
    show wpAny M A (Bind.checkArgs i sig ⟨self :: rest, kw⟩) Q E s
    rw [h2]; exact wpAny_pure q
theorem inst_is {C : Cx} {h : Heap} {X : List Addr} {p c d : Addr} {kv : Option (Str × AV)} {sq : Option (List (Str × Str))} {T : String} {r : Bool} (K : C.K.In h) (o : OR C h X p (.obj c d kv sq)) (e : subIn C.K (.ref c) (.type T) = some r) (M : Model) : Looks M h (isInstance (.ref p) (.type T)) r := by
  obtain ⟨⟨vs, k, e1, _⟩, _⟩ := o
  have t : Looks M h (typeOf (.ref p)) (.ref c) := (Looks.ld (part := none) e1).andThen .now
  exact t.andThen (looks_subIn K e)
section
variable {C : Cx} (ok : C.Ok) {n : Nat} {env : Env} {S : St}
include ok
theorem Rel.setSeq {Y D : List Addr} {s₀ s : Shared} (R : Rel C Y s₀ D env S s) {i : Nat} {p c d : Addr} {kv : Option (Str × AV)} {l l' : List (Str × Str)} (hM : S.M[i]? = some (p, .obj c d kv (some l))) {vs ws : List Value} {k : Nat} (e : s.heap.get? p = some ⟨.ref c, some d, .seq vs.toArray k, #[]⟩)
    (f : Array Value → Array Value) (hf : f vs.toArray = ws.toArray) (r : VRs s.heap (Xo C Y env S) ws (l'.map pieceAV)) : Rel C Y s₀ D env ⟨S.μ, S.M.set i (p, .obj c d kv (some l'))⟩ { s with heap := s.heap.update p (Obj.mapSeq f) } ∧ Kp C Y env S s ⟨S.μ, S.M.set i (p, .obj c d kv (some l'))⟩ { s with heap := s.heap.update p (Obj.mapSeq f) } := by
  have hm := mem_of_get? hM
  have hfoot : p ∈ feet S.M := mem_feet hm (List.mem_cons_self ..)
  have hT : p ∉ C.T := R.tn (List.mem_append_right _ (List.mem_append_left _ hfoot))
  have hda : d ≠ p := by
    have nd := (List.nodup_append.mp R.nd).2.1
    intro q
    have hf : (foot (p, AO.obj c d kv (some l))).Nodup := by unfold feet at nd; exact nodup_flatMap_one nd hm
    simp [foot, AO.more] at hf
    exact hf q.symm
  have st : SStp C.T [p] s { s with heap := s.heap.update p (Obj.mapSeq f) } := upd_stp (t := s.toks) ok hT
  have e' : (s.heap.update p (Obj.mapSeq f)).get? p = some ⟨.ref c, some d, .seq ws.toArray (if (f vs.toArray).size == vs.toArray.size then k else k + 1), #[]⟩ := by rw [← hf]; exact Heap.get?_update_self _ e rfl
  obtain ⟨_, hd⟩ := R.ob _ hm
  refine R.setObj ok (o' := .obj c d kv (some l')) hM rfl (List.mem_cons_self ..) st ⟨_, e'⟩ ⟨⟨ws, _, e', fun l2 el => ?_⟩, ?_⟩
  · cases el; exact VRs.stp st.heap (R.inX (List.mem_append_right _ hfoot)) R.hT r
  · cases kv with
    | none => exact (Heap.get?_update_other _ _ (Ne.symm hda)).trans hd
    | some q =>
      obtain ⟨hs, tk, ep, u, e3, r3⟩ := hd
      exact ⟨hs, tk, ep, u, (Heap.get?_update_other _ _ (Ne.symm hda)).trans e3, r3.stp st.heap (R.inX (List.mem_append_right _ hfoot)) R.hT⟩
namespace O
theorem oappend {i : Nat} {p c d : Addr} {kv : Option (Str × AV)} {l : List (Str × Str)} {q : Str × Str} {P : AV → St → Prop} (hM : S.M[i]? = some (p, .obj c d kv (some l))) (hz : l.length ≤ sizeLine) (hsub : subIn C.K (.ref c) (.type "list") = some true) (h : P .none ⟨S.μ, S.M.set i (p, .obj c d kv (some (l ++ [q])))⟩) :
    VN C n env S (fun vs => call (.builtin "list.append") (.ref p :: vs)) [pieceAV q] P := fun A Y s₀ D s vs Q ha R r qq => by
  refine VRs.el_cons r fun v0 _ r rs => ?_
  ·
    refine VRs.el_nil rs ?_
    have o := R.ob _ (mem_of_get? hM)
    have hI := inst_is R.bs.K o hsub (model C.prog C.w)
    obtain ⟨⟨ws, k, e, rw_⟩, _⟩ := o
    have rl := rw_ l rfl
    have hlen : ws.length = l.length := by rw [rl.length, List.length_map]
    refine wpAny_call (codeAny_call_builtin_at (Code.quiet_builtin _ (by decide +kernel)) entry_list_append (check_meth (n := "append") (.inl (by decide +kernel)) (by decide +kernel) hI (args_list_append _ _) ?_))
    show wpAny _ _ (updateSeq p (·.push v0) >>= fun _ => ret .none) _ _ s
    refine wpAny_bind (wpAny_updateSeq e rfl (wpAny_pure ?_) (hz := by rw [List.size_toArray]; lia) (_hz' := by rw [Array.size_push, List.size_toArray]; lia))
    obtain ⟨R', K'⟩ := Rel.setSeq ok R hM e (·.push v0) (ws := ws ++ [v0]) (l' := l ++ [q]) (by simp) (by rw [List.map_append]; exact rl.append (.one r))
    exact qq _ _ _ _ h R' K' .none
end O
end
end Mine
namespace Mine
theorem kv_ne : (Str.ofString "_initial_size" == Str.ofString "append") = false := by decide
theorem bind3n {C : Cx} {fd : FuncData} {x y z : Str} {a b c : AV} (h : ∀ v u t, bindArgs fd ⟨[v, u, t], []⟩ = pure [(x, v), (y, u), (z, t)]) : BA C fd [a, b, c] [(x, a), (y, b), (z, c)] := fun hp X vs r _ _ => by
  refine VRs.el_cons r fun v _ r rs => ?_; refine VRs.el_cons rs fun u _ r' rs => ?_; refine VRs.el_cons rs fun t _ r2 rs => ?_; refine VRs.el_nil rs ?_; exact ⟨_, fun s _ => .of_eq (h v u t), .cons r (.cons r' (.cons r2 .nil))⟩
section
variable {w : World} {mg mb : Str → Option Value} (g : GA w mg mb)
include g
theorem acc_meth_append : Meth (CA w mg mb) 154 "append" (.builtin "list.append") := ⟨⟨"list.__getattribute__", rfl, by decide +kernel⟩, rfl, rfl, ⟨"method_descriptor", rfl, rfl⟩, .inr ⟨_, rfl⟩⟩
theorem acc_meth_push : Meth (CA w mg mb) 154 "push" (.ref 98) := ⟨⟨"list.__getattribute__", rfl, by decide +kernel⟩, rfl, rfl, ⟨"function", rfl, rfl⟩, .inl rfl⟩
theorem acc_meth_pop_from : Meth (CA w mg mb) 154 "pop_from" (.ref 106) := ⟨⟨"list.__getattribute__", rfl, by decide +kernel⟩, rfl, rfl, ⟨"function", rfl, rfl⟩, .inl rfl⟩
theorem acc_meth_pop : Meth (CA w mg mb) 154 "pop" (.ref 114) := ⟨⟨"list.__getattribute__", rfl, by decide +kernel⟩, rfl, rfl, ⟨"function", rfl, rfl⟩, .inl rfl⟩
theorem acc_meth_part_count : Meth (CA w mg mb) 154 "part_count" (.ref 151) := ⟨⟨"list.__getattribute__", rfl, by decide +kernel⟩, rfl, rfl, ⟨"function", rfl, rfl⟩, .inl rfl⟩
noncomputable def AccKv (i : Nat) : Option (Str × AV) := some ("_initial_size", .int i)
theorem push_fn {n : Nat} {M : List (Addr × AO)} {j k : Nat} {p d : Addr} {l : List (Str × Str)} {x y : Str} (hM : M[j]? = some (p, .obj 154 d (AccKv k) (some l))) (hz : l.length ≤ 1000) :
    FC (CA w mg mb) (n + 1) 98 M [.raw (.ref p), .str x, .str y] (fun av M' => av = .none ∧ M' = M.set j (p, .obj 154 d (AccKv k) (some (l ++ [(x, y)])))) := by
  have ok := okA g
  have sl : sizeLine = 16777216 := by decide
  refine fc_plain ok (ab := [("self", .raw (.ref p)), ("fws", .str x), ("string", .str y)]) ⟨⟨_, rfl, rfl⟩, ⟨_, _, _, _, rfl, rfl, rfl, rfl⟩, rfl, rfl, rfl, (fun x c h => by cases h), rfl, rfl, rfl, by decide⟩ (by decide) (bind3n fun _ _ _ => rfl) (by intro x hx; simp at hx; rcases hx with rfl | rfl | rfl <;> rfl) ?_
  intro L
  refine EX.cons (E1.expr (EV.ometh (acc_meth_append g) ((PE.name rfl).then ⟨p, d, AccKv k, some l, rfl, mem_of_get? hM, (fun q hq => by cases hq; exact kv_ne), (PL.cons (PE.tuple ok (PL.cons (PE.name rfl) (PL.cons (PE.name rfl) PL.nil)) (by simp only [List.length_cons, List.length_nil]; lia)) PL.nil).then (O.oappend (q := (x, y)) ok hM (by lia) rfl (EX.nil ?_))⟩)))
  exact ⟨rfl, rfl⟩
end
end Mine
namespace Mine
noncomputable def EXat (C : Cx) (n : Nat) (c : Code) (env : Env) (S : St) (body : List Stmt) (P : AF → St → Prop) : Prop :=
  ∀ A Y s₀ D s (Q : Flow → Shared → Prop), AOk n A → Rel C Y s₀ D env S s → (∀ r s' b S', P b S' → Rel C Y s₀ D env S' s' → Kp C Y env S s S' s' → FR s'.heap (Xo C Y env S') r b → Q r s') → _root_.PySem.wpAt (model C.prog C.w) A c (execs body env) Q No s
theorem fc_at {C : Cx} (ok : C.Ok) {n : Nat} {f : Addr} {fd : FuncData} {body : List Stmt} {M : List (Addr × AO)} {args : List AV} {ab : List (Str × AV)} {P : AV → List (Addr × AO) → Prop} (F : FnOk C f fd body)
    (hcell : ∀ x ∈ fd.scope.names, x.2 ≠ .cell)
    (hbind : ∀ h X vs, VRs h X vs args → C.K.In h → (∀ a, C.Old a → a ∉ X) → ∃ bs, (∀ s : Shared, s.heap = h → BindsTo s fd ⟨vs, []⟩ bs) ∧ PRs h X bs ab)
    (hloc : ∀ x ∈ ab.map (·.1), fd.scope.names.lookup x = some .local)
    (h : ∀ L, EXat C n (.func body (callEnv fd L f)) (callEnv fd L f) ⟨ab.reverse, M⟩ body (Out P)) : FC C (n + 1) f M args P := by
  intro env μ A Y s₀ D s vs Q ha R rv q
  obtain ⟨o, ho, hd⟩ := F.obj
  obtain ⟨c, oc, cvs, t, e1, e2, e3, e4⟩ := F.code
  have oldX : ∀ a, C.Old a → a ∉ Xo C Y env ⟨μ, M⟩ := fun a ha q => by
    rcases List.mem_append.mp q with z | z
    · exact ok.old a ha z
    · exact (R.hi a z).1 ha
  obtain ⟨bs, hb, rb⟩ := hbind s.heap _ vs rv R.bs.K oldX
  refine (ks_codeAny_call_defAt (binds := bs) (by have := ha.depth; show A.depth < 1000; lia) (R.bs.K _ _ ho) hd R.bs.lim ⟨c, oc, cvs, t, e1, R.bs.K _ _ e2, e3, e4⟩ F.body (hb s rfl) hcell
    (fun x hx => hloc _ (by rw [← rb.keys]; exact List.mem_map.mpr ⟨x, hx, rfl⟩)) (fun h₀ hn hk => ?_) F.co F.gen F.kind)
  have x : SStp C.T [] s { s with heap := h₀, toks := s.toks + bs.length } := ⟨.of_keeps hk, rfl, rfl, id⟩
  have nocell : (callEnv fd s.heap.objs.size f).cells.filter (fun p => (callEnv fd s.heap.objs.size f).kindOf p.1 == some .cell && (callEnv fd s.heap.objs.size f).func.isSome) = [] := by
    rw [List.filter_eq_nil_iff]
    intro p _ hp
    have : (callEnv fd s.heap.objs.size f).kindOf p.1 = some .cell := by simp at hp; exact hp.1
    exact hcell (p.1, .cell) (mem_of_lookup this) rfl
  have efa : fa (callEnv fd s.heap.objs.size f) = [s.heap.objs.size] := by unfold fa; rw [nocell]; rfl
  have hf : ∀ b ∈ fa (callEnv fd s.heap.objs.size f), s.heap.get? b = none := fun b hb => by
    rw [efa] at hb; have e : b = s.heap.objs.size := by simpa using hb
    subst e; exact new_none _
  have R₁ : Rel C (fa env ++ Y) s (feet M) (callEnv fd s.heap.objs.size f) ⟨ab.reverse, M⟩ { s with heap := h₀, toks := s.toks + bs.length } := by
    refine R.enter (S := ⟨μ, M⟩) ok x hf (fun b hb => ?_) (by rw [efa]; simp) ⟨F.kind, F.glob, F.buil, fun y ky => F.more (y, .free) (mem_of_lookup ky) rfl⟩ ⟨⟨_, hn, fun y av e k => ?_⟩, fun y av e k => ?_, fun y c k _ => absurd rfl (hcell (y, .cell) (mem_of_lookup k.1)), fun y av e => ?_⟩ (fun y c _ e => .inr (F.clo y c e))
    · rw [efa] at hb; have e : b = s.heap.objs.size := by simpa using hb
      obtain ⟨o, _, _, q, _⟩ := hn; exact e ▸ ⟨o, q⟩
    · obtain ⟨v, e1, r⟩ := rb.rev.look e
      exact ⟨v, e1, (r.sub (enterX hf)).stp x.heap (fun _ h => nomatch h) (fun a h => List.mem_append_left _ h)⟩
    · exfalso
      have hm : y ∈ ab.map (·.1) := by
        have := mem_of_lookup e
        exact List.mem_map.mpr ⟨(y, av), List.mem_reverse.mp this, rfl⟩
      have kl : (callEnv fd s.heap.objs.size f).kindOf y = some .local := hloc y hm
      rw [kl] at k; rcases k with k | k <;> cases k
    · exact .inl (hloc y (List.mem_map.mpr ⟨(y, av), List.mem_reverse.mp (mem_of_lookup e), rfl⟩))
  refine ks_wpAt_mono (h s.heap.objs.size (A.deeper (callEnv fd s.heap.objs.size f)) _ _ _ _ (fun fl s' => Q (.ok (.ret (match fl with | .ret v => v | _ => .none))) s') (ha.deeper _) R₁ fun r s' b S' p R' K' rr => ?_) (fun fl s' z => ?_) fun _ _ e => e.elim
  · obtain ⟨Ra, Ka, Va⟩ := R.leave (S := ⟨μ, M⟩) ok R'
    cases rr with
    | next => exact q _ _ _ ⟨μ, S'.M⟩ ⟨rfl, p⟩ Ra Ka .none
    | brk => exact q _ _ _ ⟨μ, S'.M⟩ ⟨rfl, p⟩ Ra Ka .none
    | cont => exact q _ _ _ ⟨μ, S'.M⟩ ⟨rfl, p⟩ Ra Ka .none
    | ret r => exact q _ _ _ ⟨μ, S'.M⟩ ⟨rfl, p⟩ Ra Ka (Va _ _ r)
  · cases fl <;> exact z
section
variable {C : Cx} {n : Nat} {c : Code} {env : Env} {S : St}
noncomputable def NXat (C : Cx) (n : Nat) (c : Code) (env : Env) (rest : List Stmt) (P : AF → St → Prop) (f : AF) (S : St) : Prop := match f with
  | .next => EXat C n c env S rest P
  | f => P f S
theorem EXat.cons {st : Stmt} {rest : List Stmt} {P : AF → St → Prop} (h : E1 C n env S st (NXat C n c env rest P)) : EXat C n c env S (st :: rest) P :=
  fun A Y s₀ D s Q ha R q => ks_wpAt_execs_cons (_root_.PySem.wpAt_of_wpAny (h A Y s₀ D s _ ha R fun f s₁ b S₁ p R₁ K₁ r => by
    cases r with
    | next => exact p A Y s₀ D s₁ Q ha R₁ fun f s₂ b S₂ p₂ R₂ K₂ r₂ => q f s₂ b S₂ p₂ R₂ (K₁.trans K₂) r₂
    | brk => exact q _ _ _ _ p R₁ K₁ .brk
    | cont => exact q _ _ _ _ p R₁ K₁ .cont
    | ret r => exact q _ _ _ _ p R₁ K₁ (.ret r)))
end
end Mine
namespace Mine
theorem slot_wd_get : Slot "wrapper_descriptor" "__get__" "wrapper_descriptor.__get__" := .of (owner := "wrapper_descriptor") (n := "__get__") (by rw [typeLookup_type, builtinLookup_eq_fast]; kernel_rfl) (by decide +kernel) (by decide +kernel) (by decide +kernel)
  (by first | exact .inl (by decide +kernel) | exact .inr (by decide +kernel)) (by rw [isSubtype_type]; kernel_rfl)
theorem entry_wd_get : entryFor table "wrapper_descriptor.__get__" = some Builtin.«wrapper_descriptor.__get__» := entryFor_of_tree (by kernel_rfl)
theorem args_wd_get (a b c : Value) : argsOk "wrapper_descriptor.__get__" ⟨[a, b, c], []⟩ := by unfold argsOk; kernel_rfl
theorem slot_md_get : Slot "method_descriptor" "__get__" "method_descriptor.__get__" := .of (owner := "method_descriptor") (n := "__get__") (by rw [typeLookup_type, builtinLookup_eq_fast]; kernel_rfl) (by decide +kernel) (by decide +kernel) (by decide +kernel)
  (by first | exact .inl (by decide +kernel) | exact .inr (by decide +kernel)) (by rw [isSubtype_type]; kernel_rfl)
theorem entry_md_get : entryFor table "method_descriptor.__get__" = some Builtin.«method_descriptor.__get__» := entryFor_of_tree (by kernel_rfl)
theorem args_md_get (a b c : Value) : argsOk "method_descriptor.__get__" ⟨[a, b, c], []⟩ := by unfold argsOk; kernel_rfl
noncomputable def boundOb (T i : String) (x : Addr) : Obj := { cls := .type T, data := .fields #[.builtin i, .ref x] }
section
variable {M : Model} {A : Around} {E : Value → Shared → Prop} {s : Shared} {x c : Addr}
theorem wd_get_len {P : Fin → Shared → Prop} (hI : Looks M s.heap (isInstance (.ref x) (.type "list")) true) (h : P (.done (.ret (.ref s.heap.objs.size))) { s with heap := s.heap.push (boundOb "method-wrapper" "list.__len__" x) }) :
    wpAny M A (Builtin.«wrapper_descriptor.__get__» ⟨[.builtin "list.__len__", .ref x, .ref c], []⟩) P E s := by
  obtain ⟨hp, g, d, tk, os⟩ := s
  unfold Builtin.«wrapper_descriptor.__get__»
  refine wpAny_bind (wpAny_of_eq (a := (.builtin "list.__len__", some (.ref x), some (.ref c))) (by first | rfl | kernel_rfl) ?_)
  refine wpAny_bind (wpAny_bind (wpAny_of_eq (a := ((Str.ofString "__len__"), .type "list")) (by first | rfl | kernel_rfl) ?_))
  refine wpAny_bind (Looks.at hI ?_)
  rw [if_neg (by decide)]
  refine wpAny_pure ?_
  unfold newFields
  repeat (first | (with_reducible refine wpAny_newObj_type ?_ (by size_fits)) | wp_step)
  exact h
theorem wd_get_init {P : Fin → Shared → Prop} (hI : Looks M s.heap (isInstance (.ref x) (.type "list")) true) (h : P (.done (.ret (.ref s.heap.objs.size))) { s with heap := s.heap.push (boundOb "method-wrapper" "list.__init__" x) }) :
    wpAny M A (Builtin.«wrapper_descriptor.__get__» ⟨[.builtin "list.__init__", .ref x, .ref c], []⟩) P E s := by
  obtain ⟨hp, g, d, tk, os⟩ := s
  unfold Builtin.«wrapper_descriptor.__get__»
  refine wpAny_bind (wpAny_of_eq (a := (.builtin "list.__init__", some (.ref x), some (.ref c))) (by first | rfl | kernel_rfl) ?_)
  refine wpAny_bind (wpAny_bind (wpAny_of_eq (a := ((Str.ofString "__init__"), .type "list")) (by first | rfl | kernel_rfl) ?_))
  refine wpAny_bind (Looks.at hI ?_)
  rw [if_neg (by decide)]
  refine wpAny_pure ?_
  unfold newFields
  repeat (first | (with_reducible refine wpAny_newObj_type ?_ (by size_fits)) | wp_step)
  exact h
theorem md_get_pop {P : Fin → Shared → Prop} (hI : Looks M s.heap (isInstance (.ref x) (.type "list")) true) (h : P (.done (.ret (.ref s.heap.objs.size))) { s with heap := s.heap.push (boundOb "builtin_function_or_method" "list.pop" x) }) :
    wpAny M A (Builtin.«method_descriptor.__get__» ⟨[.builtin "list.pop", .ref x, .ref c], []⟩) P E s := by
  obtain ⟨hp, g, d, tk, os⟩ := s
  unfold Builtin.«method_descriptor.__get__»
  refine wpAny_bind (wpAny_of_eq (a := (.builtin "list.pop", some (.ref x), some (.ref c))) (by first | rfl | kernel_rfl) ?_)
  dsimp only
  rw [if_neg (by decide +kernel)]
  refine wpAny_bind (wpAny_bind (wpAny_of_eq (a := ((Str.ofString "pop"), .type "list")) (by first | rfl | kernel_rfl) ?_))
  refine wpAny_bind (Looks.at hI ?_)
  rw [if_neg (by decide)]
  refine wpAny_pure ?_
  unfold newFields
  repeat (first | (with_reducible refine wpAny_newObj_type ?_ (by size_fits)) | wp_step)
  exact h
end
section
variable {prog : Program} {w : World} {A : Around} {E : Value → Shared → Prop} {h : Heap} {g : Array GenState} {d : Drawn} {t : Nat} {os : OsState}
theorem super_ga_bi {so D x C : Addr} {i TD gid T : String} {B : Builtin} {l₀ l : List Value} {K : Frag} {name : Str} {tk : Tok} {Q : Fin → Shared → Prop}
    (hso : h.get? so = some { cls := .type "super", dict := none, data := .fields #[.ref D, .ref x, .ref C], slots := #[] }) (hno : Looks (model prog w) h (opaqueClassAbove (.ref C)) none)
    (hC : Looks (model prog w) h (mroOf (.ref C)) l₀) (hl : (l₀.dropWhile (· != .ref D)).drop 1 = l) (X : K.In h)
    (hf : alongIn K name l = some (some (.builtin i))) (hTf : typeOf (.builtin i) = pure (.type TD)) (slot : Slot TD "__get__" gid) (entry : entryFor table gid = some B) (args : ∀ a b c, argsOk gid ⟨[a, b, c], []⟩)
    (hget : ∀ {A' : Around} {E' : Value → Shared → Prop} (P : Fin → Shared → Prop), P (.done (.ret (.ref h.objs.size))) ⟨h.push (boundOb T i x), g, d, t, os⟩ → wpAny (model prog w) A' (B ⟨[.builtin i, .ref x, .ref C], []⟩) P E' ⟨h, g, d, t, os⟩)
    (hxC : x ≠ C) (hn : (name == ("__class__" : Str)) = false)
    (hq : Q (.done (.ret (.ref h.objs.size))) ⟨h.push (boundOb T i x), g, d, t, os⟩) :
    wpAny (model prog w) A (Builtin.«super.__getattribute__» ⟨[.ref so, .str name tk], []⟩) Q E ⟨h, g, d, t, os⟩ := by
  have hlk := slot.lookup
  have hne : (Value.ref x == Value.ref C) = false := by simp [hxC]
  have hT : (⟨h, g, d, t, os⟩ : Shared).TypeIs (.builtin i) TD := hTf
  have hdt : ({ cls := .type "super", dict := none, data := .fields #[.ref D, .ref x, .ref C], slots := #[] } : Obj).data = .fields #[.ref D, .ref x, .ref C] := rfl
  have f0 : (#[.ref D, .ref x, .ref C] : Array Value)[0]? = some (.ref D) := rfl
  have f1 : (#[.ref D, .ref x, .ref C] : Array Value)[1]? = some (.ref x) := rfl
  have f2 : (#[.ref D, .ref x, .ref C] : Array Value)[2]? = some (.ref C) := rfl
  unfold Builtin.«super.__getattribute__»
  repeat (first
    | (with_reducible refine wpAny_field hso hdt f0 ?_) | (with_reducible refine wpAny_field hso hdt f1 ?_) | (with_reducible refine wpAny_field hso hdt f2 ?_)
    | (with_reducible refine ks_wpAny_notOpaque hno ?_)
    | (with_reducible refine Looks.at hC ?_; rw [hl])
    | (refine ks_forIn_along X (fun _ _ => rfl) rfl ?_ hf)
    | (with_reducible refine wpAny_typeOf hT ?_)
    | (with_reducible refine wpAny_call_entry slot hT entry ?_ (args _ _ _))
    | (refine hget _ ?_)
    | (with_reducible refine ⟨_, rfl, ?_⟩)
    | (simp only [hn, hne, Bool.or_false, Bool.false_eq_true, if_false])
    | wp_step
    | dsimp only)
  all_goals exact hq
theorem super_meth_bi {so D x C : Addr} {i TD gid T : String} {B : Builtin} {l₀ l : List Value} {K : Frag} {name : Str} {pl : Sem Bool} {Q : Value × List Value → Shared → Prop}
    (hso : h.get? so = some { cls := .type "super", dict := none, data := .fields #[.ref D, .ref x, .ref C], slots := #[] }) (hno : Looks (model prog w) h (opaqueClassAbove (.ref C)) none)
    (hC : Looks (model prog w) h (mroOf (.ref C)) l₀) (hl : (l₀.dropWhile (· != .ref D)).drop 1 = l) (X : K.In h)
    (hf : alongIn K name l = some (some (.builtin i))) (hTf : typeOf (.builtin i) = pure (.type TD)) (slot : Slot TD "__get__" gid) (entry : entryFor table gid = some B) (args : ∀ a b c, argsOk gid ⟨[a, b, c], []⟩)
    (hget : ∀ {A' : Around} {E' : Value → Shared → Prop} (P : Fin → Shared → Prop), P (.done (.ret (.ref h.objs.size))) ⟨h.push (boundOb T i x), g, d, t + 1, os⟩ → wpAny (model prog w) A' (B ⟨[.builtin i, .ref x, .ref C], []⟩) P E' ⟨h, g, d, t + 1, os⟩)
    (hxC : x ≠ C) (hn : (name == ("__class__" : Str)) = false)
    (hq : Q (.ref h.objs.size, []) ⟨h.push (boundOb T i x), g, d, t + 1, os⟩) :
    wpAny (model prog w) A (getMethod (.ref so) name pl) Q E ⟨h, g, d, t, os⟩ := by
  have hlk := F.ks_slot_super_ga.lookup
  have hcan := F.ks_canon_super_ga
  have hT : ∀ t', (⟨h, g, d, t', os⟩ : Shared).TypeIs (.ref so) "super" := fun _ => ⟨_, hso, rfl⟩
  unfold getMethod
  refine wpAny_bind (wpAny_specialOf (hT _) hlk ?_)
  show wpAny _ _ (if (Manifest.canonical "super.__getattribute__" != "object.__getattribute__") = true then _ else _) _ _ _
  rw [if_pos hcan]
  unfold getAttr getAttrBy
  refine wpAny_bind (wpAny_bind (wpAny_mkText (wpAny_holding (wpAny_bind (wpAny_typeOf (hT _) (wpAny_bind (wpAny_of_eq hlk ?_)))))))
  show wpAny _ _ (getAttrByItsOwn (.ref so) (.str name t) (.type "super") (.builtin "super.__getattribute__") true false) _ _ _
  unfold getAttrByItsOwn hookBefore callGetattribute boundAndCalled
  refine wpAny_bind (wpAny_of_eq (show (if onTheHeap (.type "super") then typeLookup (.type "super") "__getattr__" else pure none) = pure none from rfl) ?_)
  refine wpAny_bind (wpAny_attempt (wpAny_holding ?_))
  show wpAny _ _ (bindSpecial (.builtin "super.__getattribute__") (.ref so) >>= _) _ _ _
  refine wpAny_bind (wpAny_of_eq (F.ks_slot_super_ga.bind _) ?_)
  refine wpAny_mono (Q := fun v s' => v = .ref h.objs.size ∧ s' = ⟨h.push (boundOb T i x), g, d, t + 1, os⟩) (E := fun _ _ => False)
    (wpAny_call_entry F.ks_slot_super_ga (hT _) F.ks_entry_super_ga (super_ga_bi hso hno hC hl X hf hTf slot entry args hget hxC hn ⟨_, rfl, rfl, rfl⟩) (F.ks_gaArgs_super _ _)) (fun v s' hv => ?_) fun _ _ z => z.elim
  obtain ⟨rfl, rfl⟩ := hv
  exact wpAny_pure (wpAny_pure hq)
end
end Mine
namespace Mine
section
variable {prog : Program} {w : World} {A : Around} {s : Shared} {b x : Addr} {T i : String} {vs : List Value}
theorem call_bound {R : Result → Shared → Prop} (hb : s.heap.get? b = some (boundOb T i x)) (hT : T = "method-wrapper" ∨ T = "builtin_function_or_method")
    (hc : ∀ {Q' : Unit → Shared → Prop} {E' : Value → Shared → Prop}, Q' () s → wpAny (model prog w) A.in1 (checkBoundCall i ⟨.ref x :: vs, []⟩) Q' E' s) (hqu : (Code.builtin i ⟨.ref x :: vs, []⟩).quiet = true)
    (hq : codeAny (model prog w) A (.builtin i ⟨.ref x :: vs, []⟩) R s) : codeAny (model prog w) A (.call (.ref b) ⟨vs, []⟩) R s := by
  refine codeAny_of_tree ?_
  show wpAny _ A.in1 (callAny (.ref b) _) _ _ _
  unfold callAny
  refine wpAny_bind (wpAny_load hb ?_)
  have h1 : ((boundOb T i x).cls == .type "method" || (boundOb T i x).cls == .type "builtin_function_or_method" || (boundOb T i x).cls == .type "method-wrapper") = true := by
    rcases hT with rfl | rfl <;> rfl
  have h2 : ((boundOb T i x).cls != .type "method") = true := by
    rcases hT with rfl | rfl <;> rfl
  show wpAny _ _ (if _ then _ else _) _ _ _
  rw [if_pos h1]
  show wpAny _ _ (if ((boundOb T i x).cls != .type "method") = true then _ else _) _ _ _
  rw [if_pos h2]
  exact wpAny_bind (hc (wpAny_pure ⟨hqu, hq⟩))
theorem keeps_bound {M : Model} (hT : T = "method-wrapper" ∨ T = "builtin_function_or_method") (h : Heap) (X : h.get? b = some (boundOb T i x)) : ∃ k, (k = Keeper.frame ∨ k = Keeper.machine ∨ k = Keeper.boundFrame) ∧ Looks M h (keeperOf (.ref b)) k := by
  refine ⟨.machine, .inr (.inl rfl), (Looks.ld (part := none) X).andThen ?_⟩
  rcases hT with rfl | rfl <;> exact .now
theorem chk_len {A : Around} {s : Shared} {Q' : Unit → Shared → Prop} {E' : Value → Shared → Prop} {M : Model} (q : Q' () s) : wpAny M A (checkBoundCall "list.__len__" ⟨[.ref x], []⟩) Q' E' s :=
  wpAny_of_eq (a := ()) (by first | rfl | kernel_rfl) q
theorem chk_init {A : Around} {s : Shared} {Q' : Unit → Shared → Prop} {E' : Value → Shared → Prop} {M : Model} (q : Q' () s) : wpAny M A (checkBoundCall "list.__init__" ⟨[.ref x], []⟩) Q' E' s :=
  wpAny_of_eq (a := ()) (by first | rfl | kernel_rfl) q
end
end Mine
namespace Mine
structure SupFn (C : Cx) (env : Env) (f Dc : Addr) (me : Str) : Prop where
  ks : env.kindOf "super" = some .globalImplicit
  kc : env.kindOf "__class__" = some .free
  fu : env.func = some f
  fd : ∃ of fd ar, C.K.lookup f = some of ∧ of.data = .func fd ∧ (fd.params.posonlyargs ++ fd.params.args).head? = some ar ∧ ar.arg = me
  co : ∃ cc oc vs file tf, env.code = .ref cc ∧ C.K.lookup cc = some oc ∧ oc.data = .fields vs ∧ vs[2]? = some (.str file tf) ∧ ((C.prog.main.file : Str) == file) = true
  top : (C.prog.main.scope.names.lookup ("super" : Str)).isSome = false
  cell : ∃ cl o, env.cells.lookup (Str.ofString "__class__") = some cl ∧ C.K.lookup cl = some o ∧ o.data = .cell (some (.ref Dc))
  cls : ∃ o cd, C.K.lookup Dc = some o ∧ o.data = .cls cd
  mg : C.mg "super" = none
  mb : C.mb "super" = some (.type "super")
section
variable {C : Cx} {n : Nat} {env : Env} {S : St}
theorem super_obj {f Dc x c d : Addr} {me : Str} {kv : Option (Str × AV)} {sq : Option (List (Str × Str))} (F : SupFn C env f Dc me) {A : Around} {Y D : List Addr} {s₀ s : Shared} {body : List Stmt} {p0 p1 : Pos} {attr : Str} {whole : Sem Value} {Q : Value → Shared → Prop} (R : Rel C Y s₀ D env S s)
    (hat : (attr == ("__class__" : Str)) = false) (hme : S.μ.lookup me = some (.raw (.ref x))) (hk : env.kindOf me = some .local) (hx : (x, AO.obj c d kv sq) ∈ S.M) (hsub : mroIn C.K c (.ref Dc) = some true)
    (q : ∀ h', h'.get? s.heap.objs.size = some (ks_superObj Dc x c) → (∀ y o, s.heap.get? y = some o → h'.get? y = some o) → Q (.ref s.heap.objs.size) { s with heap := h' }) :
    _root_.PySem.wpAt (model C.prog C.w) A (.func body env) (attributeBase (.Call (.Name "super" p0) [] [] p1) attr env whole) Q No s := by
  obtain ⟨of, fd, ar, f1, f2, f3, f4⟩ := F.fd
  obtain ⟨cc, oc, vs, file, tf, c1, c2, c3, c4, c5⟩ := F.co
  obtain ⟨cl, ocl, l1, l2, l3⟩ := F.cell
  obtain ⟨oD, cdD, d1, d2⟩ := F.cls
  obtain ⟨⟨vs', k, e, _⟩, _⟩ := R.ob _ hx
  obtain ⟨m, hn, z⟩ := R.fr.loc
  obtain ⟨v, e1, r⟩ := z me _ hme hk
  (refine VR.iv_raw r fun e_0 => ?_; subst e_0)
  subst f4
  have X := R.bs.K
  have ev := R.ev
  have hg : s.heap.Ns env.globals C.mg := by rw [R.ev.glob]; exact R.bs.g
  have hb : s.heap.Ns env.builtins C.mb := by rw [R.ev.buil]; exact R.bs.b
  clear R z
  obtain ⟨hh, g, dd, t, os⟩ := s
  refine ks_wpAt_super_base (env := env) F.ks F.kc hat F.fu (X _ _ f1) f2 f3 c1 (X _ _ c2) c3 c4 c5 F.top ?_
  refine ks_loadName_global ev.kind F.ks (Calls.loadGlobal_builtin (mg := C.mg) (mb := C.mb) hg F.mg hb F.mb ⟨rfl, ?_⟩)
  refine wpAny_loadName_free ev.kind F.kc l1 ⟨_, X _ _ l2, l3⟩ ?_
  refine wpAny_loadName_local ev.kind hk hn e1 ?_
  refine ks_wpAny_isType_cls (X _ _ d1) d2 ⟨rfl, ?_⟩
  refine ks_wpAny_call_super (X _ _ d1) d2 e rfl (fun c e => ?_) (looks_mroIn X hsub) (fun h' e k => q h' e k)
  cases sq <;> exact (nomatch e)
end
end Mine
end
section
open PySem PySem.W PySem.Calls PyProof.Rows
namespace Mine
structure Desc (TD gid T : String) (B : Builtin) : Prop where
  slot : Slot TD "__get__" gid
  entry : entryFor table gid = some B
  args : ∀ a b c, argsOk gid ⟨[a, b, c], []⟩
  bd : T = "method-wrapper" ∨ T = "builtin_function_or_method"
theorem desc_wd : Desc "wrapper_descriptor" "wrapper_descriptor.__get__" "method-wrapper" Builtin.«wrapper_descriptor.__get__» := ⟨slot_wd_get, entry_wd_get, args_wd_get, .inl rfl⟩
theorem desc_md : Desc "method_descriptor" "method_descriptor.__get__" "builtin_function_or_method" Builtin.«method_descriptor.__get__» := ⟨slot_md_get, entry_md_get, args_md_get, .inr rfl⟩
section
variable {C : Cx} (ok : C.Ok) {n : Nat} {env : Env} {S : St}
include ok
theorem super_call0 {f Dc x c d : Addr} {me name : Str} {kv : Option (Str × AV)} {sq : Option (List (Str × Str))} {i TD gid T : String} {B B2 : Builtin} {l : List Value} {cd : ClassData} {body : List Stmt} {p0 p1 apos pos : Pos} {pl : Sem Bool} {P : AV → St → Prop} (F : SupFn C env f Dc me) (de : Desc TD gid T B)
    (hn : (name == ("__class__" : Str)) = false) (hme : S.μ.lookup me = some (.raw (.ref x))) (hk : env.kindOf me = some .local) (hx : (x, AO.obj c d kv sq) ∈ S.M) (hsub : mroIn C.K c (.ref Dc) = some true) (hlist : subIn C.K (.ref c) (.type "list") = some true)
    (hop : nsIn C.K cStatics "thirdparty.any" = some none) (hcd : clsIn C.K c = some cd) (hl : (cd.mro.dropWhile (· != .ref Dc)).drop 1 = l) (hf : alongIn C.K name l = some (some (.builtin i))) (hTf : typeOf (.builtin i) = pure (.type TD))
    (hget : ∀ {M : Model} {A' : Around} {E' : Value → Shared → Prop} {s : Shared} {P : Fin → Shared → Prop}, Looks M s.heap (isInstance (.ref x) (.type "list")) true → P (.done (.ret (.ref s.heap.objs.size))) { s with heap := s.heap.push (boundOb T i x) } → wpAny M A' (B ⟨[.builtin i, .ref x, .ref c], []⟩) P E' s)
    (hchk : ∀ {M : Model} {A' : Around} {s : Shared} {Q' : Unit → Shared → Prop} {E' : Value → Shared → Prop}, C.K.In s.heap → (∃ ob, s.heap.get? x = some ob ∧ ob.cls = .ref c ∧ notCls ob = true) → Q' () s → wpAny M A' (checkBoundCall i ⟨[.ref x], []⟩) Q' E' s) (hqu : (Code.builtin i ⟨[.ref x], []⟩).quiet = true) (hent : entryFor table i = some B2)
    (hrun : ∀ A' Y D s₀ s₁ (Q' : Value → Shared → Prop), Rel C Y s₀ D env S s₁ → (∀ v s₂ av S₂, P av S₂ → Rel C Y s₀ D env S₂ s₂ → Kp C Y env S s₁ S₂ s₂ → VR s₂.heap (Xo C Y env S₂) v av → Q' v s₂) →
      wpAny (model C.prog C.w) A' (B2 ⟨[.ref x], []⟩) (fun fin s' => match fin with | .done (.ret v) => Q' v s' | _ => False) (fun _ _ => False) s₁)
    (he : eval (.Call (.Attribute (.Call (.Name "super" p0) [] [] p1) name apos) [] [] pos) env = (do
      let ov ← attributeBase (.Call (.Name "super" p0) [] [] p1) name env (eval (.Call (.Name "super" p0) [] [] p1) env)
      standAt apos.atName
      let (f, first) ← holding [ov] (getMethod ov name pl)
      callWith pos f first (backTo pos (starEach [] env)) []) := by rfl) {A : Around} {Y D : List Addr} {s₀ s : Shared} {Q : Value → Shared → Prop} (R : Rel C Y s₀ D env S s) (q : ∀ v s₂ av S₂, P av S₂ → Rel C Y s₀ D env S₂ s₂ → Kp C Y env S s S₂ s₂ → VR s₂.heap (Xo C Y env S₂) v av → Q v s₂) :
    _root_.PySem.wpAt (model C.prog C.w) A (.func body env) (eval (.Call (.Attribute (.Call (.Name "super" p0) [] [] p1) name apos) [] [] pos) env) Q No s := by
  refine ks_wpAt_MethodCall (pl := pl) ?_ he
  refine super_obj F R hn hme hk hx hsub fun h' e1 k1 => ?_
  have R₁ : Rel C Y s₀ D env S { s with heap := h' } := R.go ok ⟨.of_keeps k1, rfl, rfl, id⟩
  have K₁ : Kp C Y env S s S { s with heap := h' } := Kp.go R ⟨.of_keeps k1, rfl, rfl, id⟩
  have o := R₁.ob _ hx
  have hI := inst_is (M := model C.prog C.w) R₁.bs.K o hlist
  have X := R₁.bs.K
  have hxc : x ≠ c := by
    rintro rfl
    obtain ⟨⟨vs, k, e, _⟩, _⟩ := o
    unfold clsIn at hcd
    split at hcd
    · rename_i oc od cd' sl ho
      have e2 := X _ _ ho
      rw [e] at e2
      cases sq <;> cases e2
    · cases hcd
  obtain ⟨hp, g, dd, t, os⟩ := s
  refine super_meth_bi (h := h') (t := t) (l₀ := cd.mro) e1 (looks_opaque X hop) ?_ hl X hf hTf de.slot de.entry de.args (fun P h => hget (s := ⟨h', g, dd, t + 1, os⟩) hI h) hxc hn ?_
  · exact fun A Q E s k q => wpAny_bind ((looks_clsIn X hcd) A _ E s k (wpAny_pure q))
  have k2 : ∀ b o, h'.get? b = some o → (h'.push (boundOb T i x)).get? b = some o := fun b o e => Heap.get?_push_of_some _ e
  have st2 : SStp C.T [] ⟨h', g, dd, t, os⟩ ⟨h'.push (boundOb T i x), g, dd, t + 1, os⟩ := ⟨.of_keeps k2, rfl, rfl, id⟩
  have R₂ : Rel C Y s₀ D env S ⟨h'.push (boundOb T i x), g, dd, t + 1, os⟩ := R₁.go ok st2
  have K₂ := K₁.trans (Kp.go R₁ st2)
  have eb : (h'.push (boundOb T i x)).get? h'.objs.size = some (boundOb T i x) := Heap.get?_push_at rfl rfl
  refine callWith_of rfl (keeps_bound (b := h'.objs.size) (i := i) (x := x) de.bd) (evalArgs_nil3 ⟨eb, ?_⟩)
  refine wpAny_call (call_bound (vs := []) eb de.bd (fun q => hchk R₂.bs.K (by obtain ⟨⟨vs, k, e, _⟩, _⟩ := R₂.ob _ hx; exact ⟨_, e, rfl, by cases sq <;> rfl⟩) q) hqu (codeAny_builtin hent ?_))
  refine wpAny_mono (hrun _ Y D s₀ _ Q R₂ fun v s₃ av S₃ p R₃ K₃ r => q v s₃ av S₃ p R₃ (K₂.trans K₃) r) (fun fin s' z => ?_) fun _ _ z => z.elim
  rcases fin with (v | _ | _ | _) | _ <;> first | exact z | exact z.elim
end
end Mine
end
section
open PySem PySem.W PySem.Calls PyProof.Rows
set_option tactic.hygienic false
namespace Mine
section
variable {C : Cx} (ok : C.Ok) {n : Nat} {env : Env} {S : St}
include ok
theorem len_run {x c d : Addr} {kv : Option (Str × AV)} {l : List (Str × Str)} (hx : (x, AO.obj c d kv (some l)) ∈ S.M) {P : AV → St → Prop} (h : P (.int l.length) S) : ∀ A' Y D s₀ s₁ (Q' : Value → Shared → Prop), Rel C Y s₀ D env S s₁ → (∀ v s₂ av S₂, P av S₂ → Rel C Y s₀ D env S₂ s₂ → Kp C Y env S s₁ S₂ s₂ → VR s₂.heap (Xo C Y env S₂) v av → Q' v s₂) →
      wpAny (model C.prog C.w) A' (Builtin.«list.__len__» ⟨[.ref x], []⟩) (fun fin s' => match fin with | .done (.ret v) => Q' v s' | _ => False) (fun _ _ => False) s₁ := fun A' Y D s₀ s₁ Q' R q => by
  obtain ⟨⟨vs, k, e, hl⟩, _⟩ := R.ob _ hx
  have hlen : vs.toArray.size = l.length := by rw [List.size_toArray, (hl l rfl).length, List.length_map]
  have fin : ∀ t', Q' (.int l.length t') { s₁ with toks := s₁.toks + 1 } := fun t' => q _ _ _ _ h (R.go ok (.toks ..)) (Kp.go R (.toks ..)) (.int ..)
  obtain ⟨hp, g, dd, t, os⟩ := s₁
  show wpAny _ _ (do retInt (← seqSize x)) _ _ _
  unfold seqSize
  refine wpAny_bind (wpAny_bind (wpAny_load e ?_))
  refine wpAny_pure (a := vs.toArray.size) (wpAny_bind (wpAny_mkInt (wpAny_pure ?_)))
  rw [hlen]
  exact fin _
end
end Mine
namespace Mine
section
variable {w : World} {mg mb : Str → Option Value} (g : GA w mg mb)
include g
theorem acc_sup {f L : Addr} {fd : FuncData} (h1 : ∃ of, (CA w mg mb).K.lookup f = some of ∧ of.data = .func fd) (h2 : (fd.params.posonlyargs ++ fd.params.args).head?.map (·.arg) = some (Str.ofString "self"))
    (h3 : ∃ cc oc vs file tf, fd.code = .ref cc ∧ (CA w mg mb).K.lookup cc = some oc ∧ oc.data = .fields vs ∧ vs[2]? = some (.str file tf) ∧ (((CA w mg mb).prog.main.file : Str) == file) = true)
    (h4 : (callEnv fd L f).kindOf "super" = some .globalImplicit) (h5 : (callEnv fd L f).kindOf "__class__" = some .free) (h6 : fd.closure.lookup (Str.ofString "__class__") = some 78) : SupFn (CA w mg mb) (callEnv fd L f) f 154 "self" := by
  obtain ⟨of, a, b⟩ := h1
  obtain ⟨ar, c, e⟩ := Option.map_eq_some_iff.mp h2
  exact ⟨h4, h5, rfl, ⟨of, fd, ar, a, b, c, e⟩, h3, by rfl, ⟨78, _, h6, rfl, rfl⟩, ⟨_, _, rfl, rfl⟩, g.non _ rfl, (g.mb _ (by decide)).trans rfl⟩
theorem part_count_fn {n : Nat} {M : List (Addr × AO)} {p d : Addr} {k : Nat} {l : List (Str × Str)} (hM : (p, AO.obj 154 d (AccKv k) (some l)) ∈ M) :
    FC (CA w mg mb) (n + 1) 151 M [.raw (.ref p)] (fun av M' => av = .int l.length ∧ M' = M) := by
  have ok := okA g
  refine fc_at ok (ab := [("self", .raw (.ref p))]) ⟨⟨_, rfl, rfl⟩, ⟨_, _, _, _, rfl, rfl, rfl, rfl⟩, rfl, rfl, rfl, ?clo, rfl, rfl, rfl, by decide⟩ (by decide) (bind1 fun _ => rfl) (by intro x hx; simp at hx; subst hx; rfl) ?_
  case clo =>
    intro x c h
    have : c = 78 := by
      have h' := mem_of_lookup h
      simpa using congrArg Prod.snd (List.mem_singleton.mp h')
    subst this
    exact .inl ⟨_, rfl⟩
  intro L A Y s₀ D s Q ha R q
  refine ks_wpAt_execs_cons (ks_wpAt_Return_some ?_)
  refine super_call0 ok (c := 154) (d := d) (kv := AccKv k) (sq := some l) (acc_sup g ⟨_, rfl, rfl⟩ rfl ⟨_, _, _, _, _, rfl, rfl, rfl, rfl, by first | rfl | kernel_rfl⟩ rfl rfl rfl) desc_wd (by decide) rfl rfl hM rfl rfl rfl rfl rfl rfl (by show builtinType _ = _; rw [builtinType_eq_fast]; kernel_rfl) (fun hI h => wd_get_len hI h) (fun _ _ q => chk_len q) (Code.quiet_builtin _ (by decide +kernel)) F.entry_list_len
    (len_run ok (P := fun av S' => av = .int l.length ∧ S' = ⟨[("self", .raw (.ref p))], M⟩) hM ⟨rfl, rfl⟩) (pl := pure false) rfl R fun v s₂ av S₂ p R₂ K₂ r => ?_
  obtain ⟨rfl, rfl⟩ := p
  exact q _ _ (.ret _) _ ⟨rfl, rfl⟩ R₂ K₂ (.ret r)
end
end Mine
namespace Mine
section
variable {C : Cx} (ok : C.Ok) {n : Nat} {env : Env} {S : St}
include ok
theorem init_run {i : Nat} {x c d : Addr} {kv : Option (Str × AV)} {l : List (Str × Str)} (hM : S.M[i]? = some (x, AO.obj c d kv (some l))) (hz : l.length ≤ sizeLine) {P : AV → St → Prop} (h : P .none ⟨S.μ, S.M.set i (x, .obj c d kv (some []))⟩) : ∀ A' Y D s₀ s₁ (Q' : Value → Shared → Prop), Rel C Y s₀ D env S s₁ → (∀ v s₂ av S₂, P av S₂ → Rel C Y s₀ D env S₂ s₂ → Kp C Y env S s₁ S₂ s₂ → VR s₂.heap (Xo C Y env S₂) v av → Q' v s₂) →
      wpAny (model C.prog C.w) A' (Builtin.«list.__init__» ⟨[.ref x], []⟩) (fun fin s' => match fin with | .done (.ret v) => Q' v s' | _ => False) (fun _ _ => False) s₁ := fun A' Y D s₀ s₁ Q' R q => by
  obtain ⟨⟨vs, k, e, hl⟩, _⟩ := R.ob _ (mem_of_get? hM)
  have hlen : vs.toArray.size = l.length := by rw [List.size_toArray, (hl l rfl).length, List.length_map]
  obtain ⟨R', K'⟩ := Rel.setSeq ok R hM e (fun _ => #[]) (ws := []) (l' := []) rfl .nil
  have fin := q .none _ _ _ h R' K' .none
  show wpAny _ _ (do let old ← Builtin.List.listItems (.ref x); Builtin.List.listUpdate (.ref x) fun _ => #[]; letGo old.toList.reverse; ret .none) _ _ _
  refine wpAny_bind (wpAny_listItems e rfl ?_)
  refine wpAny_bind (wpAny_updateSeq e rfl (hz := by rw [hlen]; exact hz) (_hz' := by simp) ?_)
  refine wpAny_bind (wpAny_letGo (wpAny_pure fin))
end
end Mine
end
section
open PySem PySem.W PySem.Calls PyProof.Rows Builtin Builtin.ObjectAttr Builtin.Getset_descriptor
set_option tactic.hygienic false
namespace Mine
theorem refuse_list (self : Value) : refuseLoop self "__setattr__" [.type "list", .type "object"] = pure () := by
  first
  | kernel_rfl
  | (unfold refuseLoop; simp; exact PySem.F.store_object.passes self)
structure Takes2 (K : Frag) (c : Addr) : Prop where
  set : findIn K (.ref c) "__setattr__" = some (some (.builtin "object.__setattr__"))
  over : ∃ cd, clsIn K c = some cd ∧ cd.mro.isEmpty = false ∧ cd.mro.contains (.type "object") = true ∧ ∀ self, refuseLoop self "__setattr__" cd.mro = pure ()
  dict : (clsIn K c).any (·.hasDict) = true
theorem osa_open2 {prog : Program} {w : World} {A : Around} {s : Shared} {K : Frag} {x c : Addr} {R : Result → Shared → Prop} {ox : Obj} {od : Option Obj} {name : Str} {tk : Tok} {v : Value} {r : Option Value} (X : K.In s.heap) (I : InstAt s.heap x ox c od) (T : Takes2 K c) (ht : takerIn K c name = some r)
    (h : ∀ b, wpAny (model prog w) A.in1 (match r with | some a => setByDescriptor a (.ref x) v | none => storeInOwnDict (.ref x) (.ref c) (.str name tk) name v b)
      (fun fin s' => match fin with | .done f => R (.ok f) s' | .again c' => c'.quiet = true ∧ codeAny (model prog w) A c' R s') (fun e s' => R (.error e) s') s) :
    codeAny (model prog w) A (.call (.builtin "object.__setattr__") ⟨[.ref x, .str name tk, v], []⟩) R s := by
  have SF := PySem.F.store_object
  obtain ⟨cd, hc, ne, hco, href⟩ := T.over
  have sub : Looks (model prog w) s.heap (isInstance (.ref x) (.type "object")) true := I.type.andThen (looks_mroIn X (by unfold mroIn; rw [hc, Option.bind_some, if_neg (by rw [ne]; decide), hco]))
  refine codeAny_call_builtin SF.slot.plain SF.entry (@check_slot (model prog w) _ _ s "object.__setattr__" "object" "__setattr__" (.ref x) [.str name tk, v] [] _ SF.kind SF.split sub (SF.args (.ref x) (.str name tk) v) ?_)
  obtain ⟨attr, ha, hr⟩ := Option.bind_eq_some_iff.mp ht
  have hm : Looks (model prog w) s.heap (mroOf (.ref c)) cd.mro := (looks_clsIn X hc).andThen .now
  have L3 : Looks (model prog w) s.heap (storeTaker? attr) r := by
    cases attr with
    | none => cases hr; exact .now
    | some a =>
      obtain ⟨b, hb, rfl⟩ := Option.map_eq_some_iff.mp hr
      refine (looks_takesIn X hb).andThen ?_
      cases b <;> exact .now
  rw [osa_eq, refuse_eq]
  refine wpAny_bind (wpAny_bind (I.type.here (wpAny_bind (hm.here ?_))))
  rw [href]
  refine wpAny_pure (wpAny_bind (I.type.here (wpAny_bind ((looks_findIn X ha).here (wpAny_bind (L3.here ?_))))))
  exact h _
end Mine
end
section
open PySem PySem.W PySem.Calls PyProof.Rows
set_option tactic.hygienic false
namespace Mine
section
variable {C : Cx} (ok : C.Ok) {n : Nat} {env : Env} {S : St}
include ok
theorem setAttr_obj2 {A : Around} {s : Shared} {x c d : Addr} {ox : Obj} {name : Str} {v : Value} {Q : Unit → Shared → Prop} (K : C.K.In s.heap) (T : Takes2 C.K c) (hx : s.heap.get? x = some ox) (hcl : ox.cls = .ref c) (hno : notCls ox = true) (hd : ox.dict = some d)
    (hn : s.heap.get? d = some ⟨.type "dict", none, .dict #[] 0, #[]⟩) (ht : takerIn C.K c name = some none)
    (h : ∀ h' hs t ep tk, h'.get? d = some ⟨.type "dict", none, .dict #[⟨hs, .str name t, v⟩] ep, #[]⟩ → Heap.SameBut d s.heap h' → Q () { s with heap := h', toks := tk }) : wpAny (model C.prog C.w) A (setAttr (.ref x) name v) Q No s := by
  have I : InstAt s.heap x ox c (some ⟨.type "dict", none, .dict #[] 0, #[]⟩) := ⟨hx, hcl, hno, by rw [hd]; exact hn⟩
  refine set_plain K I T.set (osa_open2 (s := { s with toks := s.toks + 1 }) K I T ht fun b => ?_)
  obtain ⟨cd, hc, hd'⟩ := any_some T.dict
  obtain ⟨oc, odi, oda, osl⟩ := ox
  dsimp only at hcl hd
  subst hcl hd
  refine wpAny_bind (wpAny_pure (wpAny_bind (wpAny_bind (wpAny_loadPart hx (wpAny_bind ((looks_clsIn (show C.K.In ({ s with toks := s.toks + 1 } : Shared).heap from K) hc).here ?_))))))
  rw [hd']
  refine wpAny_pure (a := some d) (wpAny_bind (wpAny_pure (wpAny_bind ?_)))
  unfold nsSet
  refine wpAny_bind (wpAny_bind (wpAny_askSetting (wpAny_pure (wpAny_bind (wpAny_mkText (wpAny_bind (wpAny_loadPart hn ?_)))))))
  dsimp only
  have eA : aRefKeyMayBeTheName name #[] = false := by first | rfl | (rw [aRefKeyMayBeTheName_at]; rfl)
  rw [eA]
  refine wpAny_updatePart hn ?_
  have eP : ∀ H Kk, Obj.putName name H Kk v ⟨.type "dict", none, .dict #[] 0, #[]⟩ = ⟨.type "dict", none, .dict #[⟨H, Kk, v⟩] 1, #[]⟩ := fun H Kk => by simp [Obj.putName_eq, Obj.putNameByArray]
  have D' := fun H Kk => Heap.get?_update_self (h := s.heap) (a := d) (Obj.putName name H Kk v) hn (by rw [eP]; rfl)
  refine wpAny_bind (wpAny_lookBehind (D' _ _) (by rw [eP]; exact pastItsLine_dict (by show 1 ≤ sizeLine + 1; unfold sizeLine; lia)) ?_)
  refine wpAny_pure ?_
  exact h _ _ _ _ _ (by rw [← eP]; exact D' _ _) (Heap.SameBut.update ..)
theorem E1_setAttr2 {i : Nat} {a c d : Addr} {sq : Option (List (Str × Str))} {o value : Expr} {attr : Str} {pos' pos : Pos} {av : AV} {P : AF → St → Prop} (T : Takes2 C.K c) (ht : takerIn C.K c attr = some none)
    (hM : S.M[i]? = some (a, .obj c d none sq)) (hv : PE C n env S value av) (ho : PE C n env S o (.raw (.ref a))) (h : P .next ⟨S.μ, S.M.set i (a, .obj c d (some (attr, av)) sq)⟩)
    (hs : swapsWith value (some (.Attribute o attr pos')) pos.line env = pure false := by rfl) : E1 C n env S (.Assign [.Attribute o attr pos'] value pos) P :=
  fun A Y s₀ D s Q ha R q => plainObj_wpAny_Assign_Attribute (hs := hs) (hv A Y s₀ D s _ ha R fun v s₁ a₁ S₁ p₁ R₁ K₁ r₁ => by
    obtain ⟨rfl, rfl⟩ := p₁
    refine ho A Y s₀ D s₁ _ ha R₁ fun ov s₂ a₂ S₂ p₂ R₂ K₂ r₂ => ?_
    obtain ⟨rfl, rfl⟩ := p₂
    refine VR.el_raw r₂ ?_
    obtain ⟨⟨vs, k, e, hsq⟩, hdict⟩ := R₂.ob _ (mem_of_get? hM)
    have hdX : d ∈ fa env ++ feet S₂.M := List.mem_append_right _ (mem_feet (mem_of_get? hM) (by simp [foot, AO.more]))
    have hda : d ≠ a := by
      have nd := (List.nodup_append.mp R₂.nd).2.1
      intro q
      have hf : (foot (a, AO.obj c d none sq)).Nodup := by
        unfold feet at nd
        exact nodup_flatMap_one nd (mem_of_get? hM)
      simp [foot, AO.more] at hf
      exact hf q.symm
    refine setAttr_obj2 ok R₂.bs.K T e rfl (by cases sq <;> rfl) rfl hdict ht fun h' hs t ep tk hd' hb => ?_
    have hT : d ∉ C.T := R₂.tn (by rw [← List.append_assoc]; exact List.mem_append_left _ hdX)
    have st : SStp C.T [d] s₂ { s₂ with heap := h', toks := tk } := ⟨.sameBut hb hT, rfl, rfl, id⟩
    have rv : VR h' (Xo C Y env S₂) v a₁ := (K₂ _ _ r₁).stp st.heap (R₂.inX hdX) R₂.hT
    obtain ⟨R₃, K₃⟩ := R₂.setObj ok (s' := { s₂ with heap := h', toks := tk }) (o' := .obj c d (some (attr, a₁)) sq) hM rfl (by simp [foot, AO.more] : d ∈ foot (a, AO.obj c d none sq)) st ⟨_, hd'⟩
      ⟨⟨vs, k, (hb.2 a hda.symm).trans e, fun l el => VRs.stp st.heap (R₂.inX hdX) R₂.hT (hsq l el)⟩, hs, t, ep, v, hd', rv⟩
    exact q _ _ _ _ h R₃ ((K₁.trans K₂).trans K₃) .next)
end
end Mine
end
section
open PySem PySem.W PySem.Calls PyProof.Rows Builtin.ObjectAttr
set_option tactic.hygienic false
namespace Mine
theorem refuse_acc (self : Value) : refuseLoop self "__setattr__" [.ref 154, .type "list", .type "object"] = pure () := by rw [refuseLoop_ref]; exact refuse_list self
theorem bind2d {C : Cx} {fd : FuncData} {T : Addr} {o : Obj} {n : Nat} {t0 : Tok} {a : AV} {k : Nat} {args : List AV} {x y : Str} (ho : C.K.lookup T = some o) (hs : o.data = .seq #[.int 0 t0] n)
    (h1 : ∀ u, evO 40 [o] (bindArgs fd ⟨[u], []⟩) = some ([T], [(x, u), (y, .int 0 t0)])) (h2 : ∀ u v, evO 40 [o] (bindArgs fd ⟨[u, v], []⟩) = some ([T], [(x, u), (y, v)])) (ha : args = [a] ∧ k = 0 ∨ args = [a, .int k]) : BA C fd args [(x, a), (y, .int k)] := fun hp X vs r hK hX => by
  rcases ha with ⟨rfl, rfl⟩ | rfl
  · refine VRs.el_cons r fun v _ r rs => ?_
    · refine VRs.el_nil rs ?_; exact ⟨_, fun s e M A E Q hq => evO_wp _ (h1 v) (.cons (e ▸ hK _ _ ho) .nil) hq, .cons r (.cons (.int ..) .nil)⟩
  · exact BA.two ho h2 hp X vs r hK hX
section
variable {w : World} {mg mb : Str → Option Value} (g : GA w mg mb)
include g
theorem acc_init_fn {n : Nat} {M : List (Addr × AO)} {j : Nat} {p d : Addr} {k : Nat} {args : List AV} (hM : M[j]? = some (p, AO.obj 154 d none (some []))) (ha : args = [.raw (.ref p)] ∧ k = 0 ∨ args = [.raw (.ref p), .int k]) :
    FC (CA w mg mb) (n + 1) 91 M args (fun av M' => av = .none ∧ M' = M.set j (p, AO.obj 154 d (AccKv k) (some []))) := by
  have ok := okA g
  refine fc_at ok (ab := [("self", .raw (.ref p)), ("initial_size", .int k)]) ⟨⟨_, rfl, rfl⟩, ⟨_, _, _, _, rfl, rfl, rfl, rfl⟩, rfl, rfl, rfl, ?clo, rfl, rfl, rfl, by decide⟩ (by decide) (bind2d (T := 83) rfl rfl (by intro u; kernel_rfl) (by intro u v; kernel_rfl) ha) (by intro x hx; simp at hx; rcases hx with rfl | rfl <;> rfl) ?_
  case clo =>
    intro x c h
    have : c = 78 := by
      have h' := mem_of_lookup h
      simpa using congrArg Prod.snd (List.mem_singleton.mp h')
    subst this
    exact .inl ⟨_, rfl⟩
  intro L
  refine EXat.cons (E1_setAttr2 ok (i := j) (a := p) (c := 154) (d := d) (sq := some []) ⟨rfl, ⟨_, rfl, rfl, rfl, refuse_acc⟩, rfl⟩ rfl hM (PE.name rfl) (PE.name rfl) ?_)
  intro A Y s₀ D s Q hA R q
  have hM' : (M.set j (p, AO.obj 154 d (AccKv k) (some [])))[j]? = some (p, AO.obj 154 d (AccKv k) (some [])) := by
    have : j < M.length := (List.getElem?_eq_some_iff.mp hM).1
    rw [List.getElem?_set_self this]
  refine ks_wpAt_execs_cons (ks_wpAt_Expr_any ?_)
  refine super_call0 ok (c := 154) (d := d) (kv := AccKv k) (sq := some []) (acc_sup g ⟨_, rfl, rfl⟩ rfl ⟨_, _, _, _, _, rfl, rfl, rfl, rfl, by first | rfl | kernel_rfl⟩ rfl rfl rfl) desc_wd (by decide) rfl rfl (mem_of_get? hM') rfl rfl rfl rfl rfl rfl (by show builtinType _ = _; rw [builtinType_eq_fast]; kernel_rfl) (fun hI h => wd_get_init hI h) (fun _ _ q => chk_init q) (Code.quiet_builtin _ (by decide +kernel)) (entryFor_of_tree (by kernel_rfl))
    (init_run ok (P := fun av S' => av = .none ∧ S' = ⟨[("initial_size", .int k), ("self", .raw (.ref p))], M.set j (p, AO.obj 154 d (AccKv k) (some []))⟩) hM' (by simp) ⟨rfl, by simp [List.set_set, AccKv]⟩) (pl := pure false) rfl R fun v s₂ av S₂ p R₂ K₂ r => ?_
  obtain ⟨rfl, rfl⟩ := p
  exact _root_.PySem.wpAt_of_wpAny (wpAny_execs_nil (q _ _ .next _ ⟨rfl, rfl⟩ R₂ K₂ .next))
end
end Mine
end
section
open PySem PySem.W PySem.Calls PyProof.Rows Builtin Builtin.ObjectAttr Builtin.Getset_descriptor
set_option tactic.hygienic false
namespace Mine
noncomputable abbrev instL (C dx : Addr) : Obj := { cls := .ref C, dict := some dx, data := .seq #[] }
structure MakesL (M : Model) (h : Heap) (C : Addr) : Prop where
  obj : ∃ oc od cd sl, h.get? C = some ⟨oc, od, .cls cd, sl⟩ ∧ cd.abstract = false ∧ cd.hasDel = false ∧ cd.mro.isEmpty = false
  made : Looks M h (Bind.madeBy (.ref C)) (some "list.__new__")
  base : Looks M h (Bind.staticBase (.ref C)) (.ref C)
  self : Looks M h (isSubtype (.ref C) (.ref C)) true
  top : Looks M h (isSubtype (.ref C) (.type "list")) true
  call : Looks M h (specialOf (.ref C) "__call__") (some (.builtin "type.__call__"))
  typ : Looks M h (isInstance (.ref C) (.type "type")) true
section
variable {prog : Program} {w : World} {A : Around} {K : Frag} {C : Addr} {R : Result → Shared → Prop} {h : Heap} {g : Array GenState} {d : Drawn} {t : Nat} {os : OsState}
theorem new_L {rest : List Value} (Y : MakesL (model prog w) h C) (harg : argsOk "list.__new__" ⟨.ref C :: rest, []⟩)
    (hq : R (.ok (.ret (.ref (h.objs.size + 1)))) ⟨(h.push emptyDict).push (instL C h.objs.size), g, d, t, os⟩) :
    codeAny (model prog w) A (.call (.builtin "list.__new__") ⟨.ref C :: rest, []⟩) R ⟨h, g, d, t, os⟩ := by
  obtain ⟨⟨oc, od, cd, sl, hC, e1, e2, e4⟩, made, base, self, top, call, typ⟩ := Y
  refine codeAny_call_builtin_code (plainId_quiet F.plain_list_new _) ?_
  have hk : builtinKind "list.__new__" = some .builtinFn := by decide +kernel
  have hs : splitId "list.__new__" = some ("list", "__new__") := by decide +kernel
  simp only [checkBuiltinCall, hk, hs]
  have isT : Looks (model prog w) h (isType (.ref C)) true := (Looks.ld hC).andThen .now
  repeat (first | simp only [bne_self_eq_false, Bool.false_eq_true, if_false] | lk)
  refine codeAny_builtin_stack F.entry_list_new rfl fun p st => ?_
  rw [Around.under_plainId F.plain_list_new _]
  have hown := owner_list_new
  simp only [hown]
  refine wpAny_bind (isT.at ?_)
  simp only [Bool.not_true, Bool.false_eq_true, if_false]
  refine wpAny_bind (top.at ?_)
  simp only [Bool.not_true, Bool.false_eq_true, if_false]
  show wpAny _ _ (newDict >>= _) _ _ _
  refine wpAny_bind (wpAny_newObj_type ?_ (by size_fits))
  dsimp only
  refine wpAny_bind ?_
  unfold newObj
  dsimp only
  rw [if_neg (by simp)]
  show wpAny _ _ (newObjAsIs _ _ _) _ _ _
  unfold newObjAsIs classHasDel
  refine wpAny_bind (wpAny_alloc (wpAny_bind (wpAny_bind (wpAny_load (Heap.get?_push_of_some _ (Heap.get?_push_of_some _ hC)) (wpAny_pure ?_)))))
  rw [e2]
  refine wpAny_pure (wpAny_pure ?_)
  show R _ _
  rw [Heap.size_push]
  exact hq
end
end Mine
end
section
open PySem PySem.W PySem.Calls PyProof.Rows Builtin
set_option tactic.hygienic false
namespace Mine
section
variable {prog : Program} {w : World} {A : Around} {C : Addr} {R : Result → Shared → Prop} {h : Heap} {g : Array GenState} {d : Drawn} {t : Nat} {os : OsState}
theorem make_L {rest : List Value} {init : Value} (Y : MakesL (model prog w) h C) (harg : argsOk "list.__new__" ⟨.ref C :: rest, []⟩) (hi : Looks (model prog w) h (typeLookup (.ref C) "__init__") (some init))
    (hb : ∀ self, Looks (model prog w) h (bindSpecial init self) (init, [self]))
    (hq : codeAny (model prog w) (A.under (.builtin "type.__call__" ⟨.ref C :: rest, []⟩)) (.call init ⟨.ref (h.objs.size + 1) :: rest, []⟩) (InitBack (h.objs.size + 1) R) ⟨(h.push emptyDict).push (instL C h.objs.size), g, d, t, os⟩) :
    codeAny (model prog w) A (.call (.ref C) ⟨rest, []⟩) R ⟨h, g, d, t, os⟩ := by
  have Y' := Y
  obtain ⟨⟨oc, od, cd, sl, hC, e1, e2, e4⟩, made, base, self, top, call, typ⟩ := Y
  refine codeAny_of_tree ?_
  show wpAny _ _ (callAny (.ref C) _) _ _ _
  refine nd_load hC ?_
  show wpAny _ _ (callAny.viaDunder (.ref C) _) _ _ _
  unfold callAny.viaDunder
  refine wpAny_bind (call.at ?_)
  dsimp only
  rw [tc_bind]
  refine wpAny_bind (wpAny_pure (wpAny_bind (wpAny_pure ?_)))
  refine wpAny_pure (a := Fin.again (.call (.builtin "type.__call__") ⟨.ref C :: rest, []⟩)) (And.intro rfl ?_)
  refine codeAny_call_builtin_at (Code.quiet_builtin _ (by decide +kernel)) entry_typeCall (check_slot tc_kind tc_split typ (tc_args _ _ _) ?_)
  unfold Builtin.«type.__call__»
  have hm : Looks (model prog w) h (mroOf (.ref C)) cd.mro := ((Looks.ld (part := none) hC).andThen .now).andThen .now
  repeat (first | simp only [e4, Bool.false_eq_true, if_false] | with_reducible refine wpAny_call ?_ | lk)
  refine new_L Y' harg ?_
  have k : ∀ b o, h.get? b = some o → ((h.push emptyDict).push (instL C h.objs.size)).get? b = some o := fun b o e => Heap.get?_push_of_some _ (Heap.get?_push_of_some _ e)
  have hx : ((h.push emptyDict).push (instL C h.objs.size)).get? (h.objs.size + 1) = some (instL C h.objs.size) := by heap_get
  have t1 : Looks (model prog w) ((h.push emptyDict).push (instL C h.objs.size)) (typeOf (.ref (h.objs.size + 1))) (.ref C) := (Looks.ld hx).andThen .now
  have s1 := self.keeps k
  have i1 := hi.keeps k
  have b1 := (hb (.ref (h.objs.size + 1))).keeps k
  unfold isInstance callSpecial? specialOf
  repeat (first | with_reducible refine wpAny_call ?_ | lk)
  refine codeAny_mono hq fun r s' z => ?_
  rcases r with e | (v | _ | _ | _) <;> first | exact z | exact z.elim | skip
  obtain ⟨rfl, z⟩ := z
  exact wpAny_pure (wpAny_pure z)
end
end Mine
end
section
open PySem PySem.W PySem.Calls PyProof.Rows
set_option tactic.hygienic false
namespace Mine
structure MakesLIn (K : Frag) (c : Addr) : Prop where
  obj : ∃ oc od cd sl, K.lookup c = some ⟨oc, od, .cls cd, sl⟩ ∧ cd.abstract = false ∧ cd.hasDel = false ∧ cd.mro.isEmpty = false ∧ (sl.toList[4]?).join = some (.builtin "list.__new__")
  self : mroIn K c (.ref c) = some true
  top : mroIn K c (.type "list") = some true
  call : specialIn K (.ref c) "__call__" = some (some (.builtin "type.__call__"))
  typ : instIn K (.ref c) (.type "type") = some true
theorem makesL_of {K : Frag} {M : Model} {h : Heap} {C : Addr} (X : K.In h) (m : MakesLIn K C) : MakesL M h C := by
  obtain ⟨⟨oc, od, cd, sl, ho, e1, e2, e4, e3⟩, m1, m2, m3, m4⟩ := m
  have hc : clsIn K C = some cd := by unfold clsIn; rw [ho]
  have hm : Looks M h (mroOf (.ref C)) cd.mro := (looks_clsIn X hc).andThen .now
  obtain ⟨c, l, hl⟩ : ∃ c l, cd.mro = c :: l := by cases q : cd.mro with | nil => rw [q] at e4; cases e4 | cons c l => exact ⟨c, l, rfl⟩
  have made : Looks M h (Bind.madeBy (.ref C)) (some "list.__new__") := by
    intro A Q E s k q
    unfold Bind.madeBy
    refine wpAny_bind (hm A _ E s k ?_)
    rw [hl, List.forIn_cons]
    refine wpAny_bind (wpAny_bind (wpAny_bind (wpAny_bind (wpAny_loadPart (k _ _ (X _ _ ho)) (wpAny_pure ?_)))))
    dsimp only
    rw [← Array.getElem?_toList, e3]
    exact wpAny_pure (wpAny_pure (wpAny_pure q))
  refine ⟨⟨oc, od, cd, sl, X _ _ ho, e1, e2, e4⟩, made, ?_, looks_mroIn X m1, looks_mroIn X m2, looks_specialIn X m3, looks_instIn X m4⟩
  intro A Q E s k q
  unfold Bind.staticBase
  refine wpAny_bind (hm A _ E s k ?_)
  rw [hl, List.forIn_cons]
  exact wpAny_bind (wpAny_bind (wpAny_bind (made A _ E s k (wpAny_pure (wpAny_pure (wpAny_pure q))))))
section
variable {C : Cx} (ok : C.Ok) {n : Nat} {M : List (Addr × AO)} {args : List AV}
include ok
theorem fc_makeL {c fI : Addr} {P : AV → List (Addr × AO) → Prop} (hm : MakesLIn C.K c) (harg : ∀ vs : List Value, vs.length = args.length → argsOk "list.__new__" ⟨.ref c :: vs, []⟩) (hi : findIn C.K (.ref c) "__init__" = some (some (.ref fI))) (hf : typeIn C.K (.ref fI) = some (.type "function"))
    (h : ∀ x d, FC C n fI (M ++ [(x, .obj c d none (some []))]) (.raw (.ref x) :: args) fun av M' => av = .none ∧ P (.raw (.ref x)) M') : FC C (n + 1) c M args P := by
  intro env μ A Y s₀ D s vs Q ha R rv q
  obtain ⟨hh, g, d, t, os⟩ := s
  refine make_L (makesL_of R.bs.K hm) (harg vs rv.length) (looks_findIn R.bs.K hi) (fun self => bind_fn R.bs.K self hf) ?_
  have hA : AOk n (A.under (.builtin "type.__call__" ⟨.ref c :: vs, []⟩)) := ⟨ha.1, by have := ha.2; show A.depth + 1 + n < 900; lia, by have := ha.3; show A.units + 1 + 8 * n < 9000; lia⟩
  have kk : ∀ b o, hh.get? b = some o → ((hh.push emptyDict).push (instL c hh.objs.size)).get? b = some o := fun b o e => Heap.get?_push_of_some _ (Heap.get?_push_of_some _ e)
  have ex : ((hh.push emptyDict).push (instL c hh.objs.size)).get? (hh.objs.size + 1) = some (instL c hh.objs.size) := by heap_get
  have ed : ((hh.push emptyDict).push (instL c hh.objs.size)).get? hh.objs.size = some emptyDict := by heap_get
  have no : ∀ k, hh.get? (hh.objs.size + k) = none := fun k => by
    cases e : hh.get? (hh.objs.size + k) with
    | none => rfl
    | some o => exact absurd (Heap.lt_size e) (Nat.not_lt.mpr (Nat.le_add_right _ _))
  obtain ⟨R₁, K₁⟩ := R.newObj ok (a := hh.objs.size + 1) (o := .obj c hh.objs.size none (some [])) (s' := ⟨(hh.push emptyDict).push (instL c hh.objs.size), g, d, t, os⟩)
    (fun b hb => by
      have hb' : b = hh.objs.size + 1 ∨ b = hh.objs.size := by simpa [foot, AO.more] using hb
      rcases hb' with rfl | rfl
      · exact ⟨no 1, _, ex⟩
      · exact ⟨no 0, _, ed⟩)
    (by simp [foot, AO.more]) ⟨.of_keeps kk, rfl, rfl, id⟩ ⟨⟨[], 0, ex, fun l e => by cases e; exact .nil⟩, ed⟩
  refine h _ _ env μ _ Y s₀ D _ _ _ hA R₁ (.cons (.raw _) (K₁.all rv)) fun v s' av S' p R' K' r => ?_
  obtain ⟨hμ, rfl, hP⟩ := p
  refine VR.el_none r ?_
  exact ⟨rfl, q _ _ _ _ ⟨hμ, hP⟩ R' (K₁.trans K') (.raw _)⟩
end
end Mine
namespace Mine
theorem accNew (c : Addr) : ∀ vs : List Value, vs.length ≤ 1 → argsOk "list.__new__" ⟨.ref c :: vs, []⟩
  | [], _ => by unfold argsOk; kernel_rfl
  | [v], _ => by unfold argsOk; kernel_rfl
  | _ :: _ :: _, h => by simp at h
section
variable {w : World} {mg mb : Str → Option Value} (g : GA w mg mb)
include g
theorem acc_makes : MakesLIn (CA w mg mb).K 154 := ⟨⟨_, _, _, _, rfl, rfl, rfl, rfl, rfl⟩, rfl, rfl, rfl, rfl⟩
theorem acc_fc {n : Nat} {M : List (Addr × AO)} {k : Nat} {args : List AV} (ha : args = [] ∧ k = 0 ∨ args = [.int k]) :
    FC (CA w mg mb) (n + 2) 154 M args (fun av M' => ∃ p d, av = .raw (.ref p) ∧ M' = M ++ [(p, AO.obj 154 d (AccKv k) (some []))]) := by
  have ok := okA g
  refine fc_makeL ok (fI := 91) (acc_makes g) (fun vs hv => accNew _ vs (by rcases ha with ⟨rfl, _⟩ | rfl <;> simp at hv <;> simp [hv])) rfl rfl fun p d => ?_
  have h := acc_init_fn g (n := n) (M := M ++ [(p, AO.obj 154 d none (some []))]) (j := M.length) (p := p) (d := d) (k := k) (args := .raw (.ref p) :: args) (by simp) (by rcases ha with ⟨rfl, rfl⟩ | rfl <;> simp)
  intro env μ A Y s₀ D s vs Q hA R rv q
  refine h env μ A Y s₀ D s vs Q hA R rv fun v s' av S' pp R' K' r => q v s' av S' ⟨pp.1, pp.2.1, p, d, rfl, ?_⟩ R' K' r
  rw [pp.2.2]; simp
end
end Mine
namespace Mine
theorem chk_pop {K : Frag} {c x : Addr} {M : Model} {A' : Around} {s : Shared} {Q' : Unit → Shared → Prop} {E' : Value → Shared → Prop} {cd : ClassData} (hmod : subIn K (.ref c) (.type "module") = some false) (hcd : clsIn K c = some cd) (hty : typeIn K (.ref c) = some (.type "type"))
    (hck : Bind.checkArgs "list.pop" ⟨.positional, s!"{cd.qualname.toString}.{Bind.lastOf "list.pop"}", "pop", .self, [⟨"index", .posOnly, false⟩]⟩ ⟨[.ref x], []⟩ = pure ())
    (X : K.In s.heap) (ho : ∃ ob, s.heap.get? x = some ob ∧ ob.cls = .ref c ∧ notCls ob = true) (q : Q' () s) : wpAny M A' (checkBoundCall "list.pop" ⟨[.ref x], []⟩) Q' E' s := by
  obtain ⟨ob, e1, e2, e3⟩ := ho
  have t : Looks M s.heap (typeOf (.ref x)) (.ref c) := e2 ▸ (Looks.ld (part := none) e1).andThen .now
  have hI : Looks M s.heap (isInstance (.ref x) (.type "module")) false := t.andThen (looks_subIn X hmod)
  have hT : Looks M s.heap (isType (.ref x)) false := by
    refine (Looks.ld e1).andThen ?_
    obtain ⟨oc, od, odt, osl⟩ := ob
    cases odt <;> first | exact .now | cases e3
  have hk : builtinKind "list.pop" = some .method := by decide +kernel
  have hs : Manifest.signature? "list.pop" = some ⟨.positional, "list.pop", "pop", .self, [⟨"index", .posOnly, false⟩]⟩ := by kernel_rfl
  have hv : Manifest.varargsMethods.contains "list.pop" = false := by decide +kernel
  unfold checkBoundCall
  rw [hs]
  simp only [hk]
  rw [if_neg (by decide)]
  obtain ⟨hp, g, d, tk, os⟩ := s
  refine wpAny_bind (hI.at ?_)
  rw [if_neg (by rw [hv]; decide)]
  refine wpAny_bind (hT.at ?_)
  rw [if_neg (by decide)]
  refine wpAny_bind (t.at ?_)
  dsimp only
  refine wpAny_bind ((looks_clsIn X hcd).at ?_)
  refine wpAny_bind ((looks_typeIn X hty).at ?_)
  rw [if_pos (by decide)]
  exact wpAny_of_eq (a := ()) hck q
end Mine
namespace Mine
section
variable {C : Cx} (ok : C.Ok) {n : Nat} {env : Env} {S : St}
include ok
theorem pop_run {i : Nat} {x c d : Addr} {kv : Option (Str × AV)} {l : List (Str × Str)} {p : Str × Str} (hM : S.M[i]? = some (x, AO.obj c d kv (some (l ++ [p])))) (hz : l.length < 1000) {P : AV → St → Prop} (h : P (pieceAV p) ⟨S.μ, S.M.set i (x, .obj c d kv (some l))⟩) : ∀ A' Y D s₀ s₁ (Q' : Value → Shared → Prop), Rel C Y s₀ D env S s₁ → (∀ v s₂ av S₂, P av S₂ → Rel C Y s₀ D env S₂ s₂ → Kp C Y env S s₁ S₂ s₂ → VR s₂.heap (Xo C Y env S₂) v av → Q' v s₂) →
      wpAny (model C.prog C.w) A' (Builtin.«list.pop» ⟨[.ref x], []⟩) (fun fin s' => match fin with | .done (.ret v) => Q' v s' | _ => False) (fun _ _ => False) s₁ := fun A' Y D s₀ s₁ Q' R q => by
  obtain ⟨⟨vs, k, e, hl⟩, _⟩ := R.ob _ (mem_of_get? hM)
  have rl := hl _ rfl
  have hlen : vs.length = l.length + 1 := by rw [rl.length, List.length_map]; simp
  obtain ⟨ws, v, rfl⟩ : ∃ ws v, vs = ws ++ [v] := ⟨vs.dropLast, vs.getLast (by intro h; simp [h] at hlen), (List.dropLast_concat_getLast _).symm⟩
  have hw : ws.length = l.length := by simpa using hlen
  have rw1 : VRs s₁.heap (Xo C Y env S) ws (l.map pieceAV) := by
    have := VRs.take l.length rl
    simpa [← hw, List.take_append, ← List.map_take] using this
  obtain ⟨b, hb, rb⟩ := rl.get (show ((l ++ [p]).map pieceAV)[l.length]? = some (pieceAV p) by simp)
  have hbv : b = v := by
    rw [← hw] at hb; simpa using hb.symm
  subst hbv
  have hf : (ws ++ [b]).toArray.eraseIdxIfInBounds l.length = ws.toArray := by simp [Array.eraseIdxIfInBounds, ← hw, List.eraseIdx_append_of_length_le]
  obtain ⟨R', K'⟩ := Rel.setSeq ok R hM e (fun xs => xs.eraseIdxIfInBounds l.length) (ws := ws) (l' := l) hf rw1
  have fin := q b _ _ _ h R' K' (K' _ _ rb)
  show wpAny _ _ (do let xs ← Builtin.List.listItems (.ref x); if xs.isEmpty then _ else _) _ _ _
  refine wpAny_bind (wpAny_listItems e rfl ?_)
  rw [if_neg (by simp)]
  have hs : ((seqIndex? (-1) (ws ++ [b]).toArray.size).bind fun k => (ws ++ [b]).toArray[k]?.map (k, ·)) = some (l.length, b) := by
    have : seqIndex? (-1) (ws ++ [b]).toArray.size = some l.length := by unfold seqIndex?; simp [hw]; lia
    rw [this]; simp [← hw]
  dsimp only
  rw [hs]
  dsimp only
  refine wpAny_bind (wpAny_updateSeq e rfl (hz := by simp [sizeLine]; lia) (_hz' := by rw [hf]; simp [sizeLine]; lia) (wpAny_pure fin))
end
end Mine
namespace Mine
theorem FC.self {C : Cx} {n : Nat} {f p : Addr} {M : List (Addr × AO)} {args : List AV} {P : AV → List (Addr × AO) → Prop} (h : FC C n f M (.raw (.ref p) :: args) P) (env : Env) (μ : List (Str × AV)) :
    VN C n env ⟨μ, M⟩ (fun vs => call (.ref f) (.ref p :: vs)) args fun av S' => S'.μ = μ ∧ P av S'.M :=
  fun A Y s₀ D s vs Q ha R rv q => h.fn env μ A Y s₀ D s (.ref p :: vs) Q ha R (.cons (.raw _) rv) q
theorem kv_ne2 : (Str.ofString "_initial_size" == Str.ofString "part_count") = false := by decide
section
variable {w : World} {mg mb : Str → Option Value} (g : GA w mg mb)
include g
theorem PE.part_count {n : Nat} {env : Env} {S : St} {o : Expr} {apos pos : Pos} {p d : Addr} {k : Nat} {l : List (Str × Str)} (ho : PE (CA w mg mb) (n + 1) env S o (.raw (.ref p))) (hM : (p, AO.obj 154 d (AccKv k) (some l)) ∈ S.M)
    (hbase : attributeBase o "part_count" env (eval o env) = eval o env := by rfl) (hline : (apos.endLine == pos.line) = true := by rfl) : PE (CA w mg mb) (n + 1) env S (.Call (.Attribute o "part_count" apos) [] [] pos) (.int l.length) := by
  refine EV.ometh0 (acc_meth_part_count g) (ho.then ⟨p, d, AccKv k, some l, rfl, hM, (fun q hq => by cases hq; exact kv_ne2), ?_⟩) hbase hline
  exact ((part_count_fn g (n := n) hM).self env S.μ).mono fun a S' e => ⟨e.2.1, by obtain ⟨μ, M⟩ := S'; obtain ⟨e1, _, e3⟩ := e; cases e1; cases e3; rfl⟩
theorem pop_fn {n : Nat} {M : List (Addr × AO)} {j : Nat} {p d : Addr} {k : Nat} {l : List (Str × Str)} {q : Str × Str} (hM : M[j]? = some (p, AO.obj 154 d (AccKv k) (some (l ++ [q])))) (hz : l.length < 1000) :
    FC (CA w mg mb) (n + 2) 114 M [.raw (.ref p)] (fun av M' => av = pieceAV q ∧ M' = M.set j (p, AO.obj 154 d (AccKv k) (some l))) := by
  have ok := okA g
  refine fc_at ok (ab := [("self", .raw (.ref p))]) ⟨⟨_, rfl, rfl⟩, ⟨_, _, _, _, rfl, rfl, rfl, rfl⟩, rfl, rfl, rfl, ?clo, rfl, rfl, rfl, by decide⟩ (by decide) (bind1 fun _ => rfl) (by intro x hx; simp at hx; subst hx; rfl) ?_
  case clo =>
    intro x c h
    have : c = 78 := by
      have h' := mem_of_lookup h
      simpa using congrArg Prod.snd (List.mem_singleton.mp h')
    subst this
    exact .inl ⟨_, rfl⟩
  intro L
  refine EXat.cons (E1.ite ((PT.cmp (PE.part_count g (PE.name rfl) (mem_of_get? hM)) (PE.int ok) (O.eq ok)).then ?_))
  rw [if_neg (by simp; lia)]
  refine EX.nil ?_
  intro A Y s₀ D s Q ha R qq
  refine ks_wpAt_execs_cons (ks_wpAt_Return_some ?_)
  refine super_call0 ok (c := 154) (d := d) (kv := AccKv k) (sq := some (l ++ [q])) (acc_sup g ⟨_, rfl, rfl⟩ rfl ⟨_, _, _, _, _, rfl, rfl, rfl, rfl, by first | rfl | kernel_rfl⟩ rfl rfl rfl) desc_md (by decide) rfl rfl (mem_of_get? hM) rfl rfl rfl rfl rfl rfl (by show builtinType _ = _; rw [builtinType_eq_fast]; kernel_rfl) (fun hI h => md_get_pop hI h) (fun X ho q => chk_pop (c := 154) rfl rfl rfl (by kernel_rfl) X ho q) (Code.quiet_builtin _ (by decide +kernel)) (entryFor_of_tree (by kernel_rfl))
    (pop_run ok (P := fun av S' => av = pieceAV q ∧ S' = ⟨[("self", .raw (.ref p))], M.set j (p, AO.obj 154 d (AccKv k) (some l))⟩) hM hz ⟨rfl, rfl⟩) (pl := pure false) rfl R fun v s₂ av S₂ p R₂ K₂ r => ?_
  obtain ⟨rfl, rfl⟩ := p
  exact qq _ _ (.ret _) _ ⟨rfl, rfl⟩ R₂ K₂ (.ret r)
end
end Mine
namespace Mine
structure LCls (K : Frag) (c : Addr) : Prop where
  sub : subIn K (.ref c) (.type "list") = some true
  get : findIn K (.ref c) "__getitem__" = some (some (.builtin "list.__getitem__"))
  set : findIn K (.ref c) "__setitem__" = some (some (.builtin "list.__setitem__"))
  iter : findIn K (.ref c) "__iter__" = some (some (.builtin "list.__iter__"))
  noq : noSeq K c = true
theorem k_getitem : builtinKind "list.__getitem__" = some .method ∨ builtinKind "list.__getitem__" = some .slot := .inl (by decide +kernel)
theorem k_setitem : builtinKind "list.__setitem__" = some .method ∨ builtinKind "list.__setitem__" = some .slot := .inr (by decide +kernel)
theorem k_iter : builtinKind "list.__iter__" = some .method ∨ builtinKind "list.__iter__" = some .slot := .inr (by decide +kernel)
theorem p_getitem : splitId "list.__getitem__" = some ("list", "__getitem__") := by decide +kernel
theorem p_setitem : splitId "list.__setitem__" = some ("list", "__setitem__") := by decide +kernel
theorem p_iter : splitId "list.__iter__" = some ("list", "__iter__") := by decide +kernel
section
variable {prog : Program} {w : World} {A : Around} {E : Value → Shared → Prop} {s : Shared} {K : Frag} {x c : Addr} {ox : Obj} {od : Option Obj}
theorem l_inst (X : K.In s.heap) (L : LCls K c) (I : InstAt s.heap x ox c od) (M : Model) : Looks M s.heap (isInstance (.ref x) (.type "list")) true := I.type.andThen (looks_subIn X L.sub)
theorem l_slot {id n : String} {B : Builtin} {args : List Value} {Q : Value → Shared → Prop} (X : K.In s.heap) (L : LCls K c) (I : InstAt s.heap x ox c od)
    (hk : builtinKind id = some .method ∨ builtinKind id = some .slot) (hsp : splitId id = some ("list", n)) (hp : plainId id = true) (he : entryFor table id = some B) (ha : argsOk id ⟨.ref x :: args, []⟩)
    (h : wpAny (model prog w) A.in1 (B ⟨.ref x :: args, []⟩) (fun fin s' => match fin with | .done (.ret v) => Q v s' | _ => False) E s) :
    wpAny (model prog w) A (call (.builtin id) (.ref x :: args)) Q E s := by
  refine wpAny_call (codeAny_call_builtin_at (plainId_quiet hp _) he (check_meth hk hsp (l_inst X L I _) ha ?_))
  rw [Around.under_plainId hp]
  refine wpAny_mono h (fun fin s' z => ?_) fun _ _ e => e
  cases fin with
  | done f => cases f <;> first | exact z | exact z.elim
  | again _ => exact z.elim
theorem l_seqKey {k : Value} {name : Str} {Q : Value → Shared → Prop} (X : K.In s.heap) (L : LCls K c) (I : InstAt s.heap x ox c od) (h : Q k s) : wpAny (model prog w) A (sequenceKey (.ref x) k name) Q E s := by
  unfold sequenceKey
  refine wpAny_bind (I.type.here ?_)
  refine wpAny_bind ((anyM_none X L.noq).here ?_)
  rw [if_pos (show (!false) = true from rfl)]
  exact wpAny_pure h
theorem l_getItem_int {k : Int} {t : Tok} {items : Array Value} {n : Nat} {v : Value} {Q : Value → Shared → Prop} (X : K.In s.heap) (L : LCls K c) (I : InstAt s.heap x ox c od) (hd : ox.data = .seq items n)
    (h0 : 0 ≤ k) (hfit : k < 2 ^ 63) (hx : items[k.toNat]? = some v) (h : Q v s) : wpAny (model prog w) A (getItem (.ref x) (.int k t)) Q E s := by
  unfold getItem
  refine wpAny_holding (wpAny_bind (l_seqKey X L I ?_))
  refine wpAny_bind (kfo_special X I L.get slot_list_getitem.bind (l_slot (n := "__getitem__") X L I k_getitem p_getitem slot_list_getitem.plain entry_list_getitem (args_list_getitem _ _) ?_))
  show wpAny _ _ (Builtin.List.listSubscript? (.int k t) >>= _) _ _ s
  refine wpAny_bind (wpAny_listSubscript_int (fitsIndex_of h0 hfit) ?_)
  clear hfit
  obtain ⟨j, rfl⟩ := Int.eq_ofNat_of_zero_le h0
  have hx' : items[j]? = some v := hx
  show wpAny _ _ ((seqItemAt x j >>= fun r => pure (r.map (j, ·))) >>= _) _ _ s
  refine wpAny_bind (wpAny_bind (wpAny_seqItemAt I.at_ hd (wpAny_pure ?_)))
  rw [hx']
  exact wpAny_pure (wpAny_pure h)
theorem l_parts {sl : Addr} {vl vu vs : Value} {lo hi st : Option Int} {M : Model} {Q : Value × Value × Value → Shared → Prop} (hs : s.heap.IsSliceOf sl vl vu vs) (pl : IsPart vl lo) (pu : IsPart vu hi) (ps : IsPart vs st) (h0 : st ≠ some 0)
    (h : Q (rawPart lo, rawPart hi, rawPart st) s) : wpAny M A (Builtin.List.listSliceParts (.ref sl)) Q E s := by
  obtain ⟨os, hos, hcs, hds⟩ := id hs
  rw [listSliceParts_eq]
  have hstep : ¬ ((rawPart st == rawInt 0) = true) := by
    cases st with
    | none => exact Bool.false_ne_true
    | some c =>
      intro hh
      have : c = 0 := by simpa [rawPart, rawInt] using hh
      exact h0 (by rw [this])
  refine wpAny_bind (wpAny_field hos hds (x := vs) rfl (wpAny_bind (wpAny_listPart ps ?_)))
  rw [if_neg hstep]
  refine wpAny_bind (wpAny_field hos hds (x := vl) rfl (wpAny_bind (wpAny_listPart pl ?_)))
  exact wpAny_bind (wpAny_field hos hds (x := vu) rfl (wpAny_bind (wpAny_listPart pu (wpAny_pure h))))
theorem l_subscript_slice {sl : Addr} {vl vu vs : Value} {M : Model} {Q : Option Int → Shared → Prop} (hs : s.heap.IsSliceOf sl vl vu vs) (h : Q none s) : wpAny M A (Builtin.List.listSubscript? (.ref sl)) Q E s := by
  obtain ⟨os, hos, hcs, hds⟩ := id hs
  have hTs : s.TypeIs (.ref sl) "slice" := ⟨os, hos, hcs⟩
  unfold Builtin.List.listSubscript?
  refine wpAny_bind (wpAny_specialOf hTs slice_no_index ?_)
  simp only [Option.isNone_none, if_true]
  exact wpAny_pure h
theorem l_getItem_slice {sl : Addr} {vl vu vs : Value} {lo hi st : Option Int} {items : Array Value} {n : Nat} {Q : Value → Shared → Prop} (X : K.In s.heap) (L : LCls K c) (I : InstAt s.heap x ox c od) (hd : ox.data = .seq items n)
    (hs : s.heap.IsSliceOf sl vl vu vs) (pl : IsPart vl lo) (pu : IsPart vu hi) (ps : IsPart vs st) (h0 : st ≠ some 0)
    (h : Q (.ref s.heap.objs.size) { s with heap := s.heap.push { cls := .type "list", data := .seq (slicePick items lo hi st) } })
    (hsz : items.size ≤ sizeLine) : wpAny (model prog w) A (getItem (.ref x) (.ref sl)) Q E s := by
  obtain ⟨os, hos, hcs, hds⟩ := id hs
  have hTs : s.TypeIs (.ref sl) "slice" := ⟨os, hos, hcs⟩
  unfold getItem
  refine wpAny_holding (wpAny_bind (l_seqKey X L I ?_))
  refine wpAny_bind (kfo_special X I L.get slot_list_getitem.bind (l_slot (n := "__getitem__") X L I k_getitem p_getitem slot_list_getitem.plain entry_list_getitem (args_list_getitem _ _) ?_))
  show wpAny _ _ (Builtin.List.listSubscript? (.ref sl) >>= _) _ _ s
  refine wpAny_bind (l_subscript_slice hs ?_)
  show wpAny _ _ (typeOf (.ref sl) >>= _) _ _ s
  refine wpAny_bind (wpAny_typeOf hTs ?_)
  rw [if_neg (by decide)]
  refine wpAny_bind (l_parts hs pl pu ps h0 ?_)
  refine wpAny_bind (m := Builtin.List.listItems (.ref x)) ?_
  unfold Builtin.List.listItems
  refine wpAny_bind (wpAny_seqItems I.at_ hd (wpAny_pure ?_))
  refine wpAny_bind (wpAny_of_eq (sliceIndices_raw lo hi st items.size h0) ?_)
  exact wpAny_bind (wpAny_newObj_type (wpAny_pure (wpAny_pure h)) (Nat.le_trans (slicePick_size_le items lo hi st) hsz))
theorem l_setItem_slice {sl y : Addr} {oy : Obj} {vl vu vs : Value} {lo hi : Option Int} {items new : Array Value} {n m : Nat} {Q : Unit → Shared → Prop} (X : K.In s.heap) (L : LCls K c) (I : InstAt s.heap x ox c od) (hd : ox.data = .seq items n)
    (hs : s.heap.IsSliceOf sl vl vu vs) (pl : IsPart vl lo) (pu : IsPart vu hi) (ps : IsPart vs none) (hy : s.heap.get? y = some oy) (hcy : oy.cls = .type "list") (hdy : oy.data = .seq new m) (hxy : x ≠ y)
    (hlen : items.size + new.size ≤ 1000000)
    (h : Q () { s with heap := s.heap.update x (Obj.mapSeq fun xs => xs.extract 0 (sliceBounds lo hi none items.size).1.toNat ++ new ++ xs.extract (max (sliceBounds lo hi none items.size).1 (sliceBounds lo hi none items.size).2.1).toNat xs.size) }) :
    wpAny (model prog w) A (setItem (.ref x) (.ref sl) (.ref y)) Q E s := by
  obtain ⟨os, hos, hcs, hds⟩ := id hs
  have hTs : s.TypeIs (.ref sl) "slice" := ⟨os, hos, hcs⟩
  have hTy : s.TypeIs (.ref y) "list" := ⟨oy, hy, hcy⟩
  have sl0 : sizeLine = 16777216 := by decide
  unfold setItem
  refine wpAny_holding (wpAny_bind (l_seqKey X L I ?_))
  refine wpAny_bind (kfo_special X I L.set slot_list_setitem.bind (l_slot (n := "__setitem__") X L I k_setitem p_setitem slot_list_setitem.plain entry_list_setitem (args_list_setitem _ _ _) ?_))
  show wpAny _ _ (Builtin.List.listSubscript? (.ref sl) >>= _) _ _ s
  refine wpAny_bind (l_subscript_slice hs ?_)
  show wpAny _ _ (typeOf (.ref sl) >>= _) _ _ s
  refine wpAny_bind (wpAny_typeOf hTs ?_)
  rw [if_neg (by decide)]
  refine wpAny_bind (l_parts hs pl pu ps (by simp) ?_)
  rw [show Builtin.List.listSameRef (.ref x) (.ref y) = false from beq_eq_false_iff_ne.mpr hxy]
  dsimp only
  rw [if_neg (show ¬ (false = true) from Bool.false_ne_true)]
  refine wpAny_bind (m := Builtin.List.listAllItems (.ref y) _) ?_
  unfold Builtin.List.listAllItems
  refine wpAny_bind (wpAny_typeOf hTy ?_)
  rw [if_pos (by decide)]
  refine wpAny_listItems hy hdy ?_
  refine wpAny_bind (wpAny_listItems I.at_ hd ?_)
  refine wpAny_bind (wpAny_of_eq (sliceIndices_raw lo hi none items.size (by simp)) ?_)
  have hstep : (sliceBounds lo hi none items.size).2.2 = 1 := rfl
  rw [if_pos (by rw [hstep]; rfl)]
  refine wpAny_bind (wpAny_rule ?_)
  rw [if_neg (by unfold Builtin.List.listTooLong; simp; lia)]
  refine wpAny_bind (wpAny_updateSeq I.at_ hd (hz := by lia) (_hz' := by simp only [Array.size_append, Array.size_extract]; lia) ?_)
  refine wpAny_bind (wpAny_letGo (wpAny_pure (wpAny_pure h)))
theorem l_pyIter {Q : Value → Shared → Prop} (X : K.In s.heap) (L : LCls K c) (I : InstAt s.heap x ox c od)
    (hQ : Q (.ref s.heap.objs.size) { s with heap := s.heap.push { cls := .type "list_iterator", data := .fields #[.ref x, .int 0 0] } }) : wpAny (model prog w) A (pyIter (.ref x)) Q E s := by
  unfold pyIter
  refine wpAny_bind (wpAny_bind (I.type.here ((looks_findIn X L.iter).here ?_)))
  show wpAny _ A (callSpecialIfBoundUnlessNone? (.ref x) "__iter__" _ >>= _) Q E s
  have cc : ∀ {Q' : Value → Shared → Prop}, Q' (.ref s.heap.objs.size) { s with heap := s.heap.push { cls := .type "list_iterator", data := .fields #[.ref x, .int 0 0] } } → wpAny (model prog w) A (call (.builtin "list.__iter__") [.ref x]) Q' E s := fun {Q'} h => by
    refine l_slot (n := "__iter__") X L I k_iter p_iter slot_list_iter.plain entry_list_iter (args_list_iter _) ?_
    show wpAny _ _ (do ret (← newFields "list_iterator" [.ref x, rawInt 0])) _ _ s
    exact wpAny_bind (wpAny_newObj_type (wpAny_pure h))
  refine wpAny_bind ?_
  simp only [callSpecialIfBoundUnlessNone?, bindSpecialIfBound?]
  refine wpAny_holding (wpAny_bind (wpAny_bind (wpAny_bind (I.type.here ((looks_findIn X L.iter).here ?_)))))
  simp only [slot_list_iter.bind]
  refine wpAny_bind (wpAny_askSetting (wpAny_ite ?_))
  have fin2 : ∀ (R : Option Value → Shared → Prop), R (some (.ref s.heap.objs.size)) { s with heap := s.heap.push { cls := .type "list_iterator", data := .fields #[.ref x, .int 0 0] } } → wpAny (model prog w) A (call (.builtin "list.__iter__") [.ref x] >>= fun v => pure (some v)) R E s := fun R h => wpAny_bind (cc (wpAny_pure h))
  have fin3 := fun (R : Option Value → Shared → Prop) (refuse : Sem Value) (h : R (some (.ref s.heap.objs.size)) { s with heap := s.heap.push { cls := .type "list_iterator", data := .fields #[.ref x, .int 0 0] } }) => show wpAny (model prog w) A (if (Value.builtin "list.__iter__" == Value.none) = true then (refuse >>= fun v => pure (some v)) else (call (.builtin "list.__iter__") [.ref x] >>= fun v => pure (some v))) R E s from by
    simp only [builtin_beq_none, Bool.false_eq_true, if_false]
    exact fin2 R h
  split
  · refine wpAny_bind (wpAny_pure (wpAny_pure (fin3 _ _ ?_)))
    exact wpAny_bind (wpAny_specialOf (T := "list_iterator") ⟨_, Heap.get?_push_size _ rfl, rfl⟩ slot_listiter_next.lookup (wpAny_pure hQ))
  · refine wpAny_tryCatch (wpAny_bind (wpAny_pure (wpAny_pure (fin3 _ _ ?_))))
    exact wpAny_bind (wpAny_specialOf (T := "list_iterator") ⟨_, Heap.get?_push_size _ rfl, rfl⟩ slot_listiter_next.lookup (wpAny_pure hQ))
theorem l_tail {value slice : Expr} {i : Value} {ops : List Value} {Q : Value → Shared → Prop} (X : K.In s.heap) (L : LCls K c) (I : InstAt s.heap x ox c od) (hg : wpAny (model prog w) A (getItem (.ref x) i) Q E s)
    (hs : subscripted slice false (.ref x) i = operate ops (getItem (.ref x) i)) : wpAny (model prog w) A (subscriptTail value slice (.ref x) i) Q E s := by
  unfold subscriptTail getitemInPython
  refine wpAny_bind (wpAny_bind (wpAny_bind (I.type.here ((looks_findIn X L.get).here (wpAny_pure ?_)))))
  rw [hs]
  exact wpAny_bind (wpAny_operating (wpAny_mono hg (fun r s₃ h₃ => wpAny_bind (wpAny_letTemporaryGo (wpAny_pure h₃))) fun _ _ x => x))
end
end Mine
namespace Mine
theorem instOf {C : Cx} {h : Heap} {X : List Addr} {p c d : Addr} {kv : Option (Str × AV)} {l : List (Str × Str)} (o : OR C h X p (.obj c d kv (some l))) :
    ∃ vs k od, h.get? p = some ⟨.ref c, some d, .seq vs.toArray k, #[]⟩ ∧ InstAt h p ⟨.ref c, some d, .seq vs.toArray k, #[]⟩ c (some od) ∧ VRs h X vs (l.map pieceAV) := by
  obtain ⟨⟨vs, k, e, r⟩, hd⟩ := o
  cases kv with
  | none => exact ⟨vs, k, _, e, ⟨e, rfl, rfl, hd⟩, r l rfl⟩
  | some q =>
    obtain ⟨y, a⟩ := q
    obtain ⟨hs, tk, ep, u, e2, _⟩ := hd
    exact ⟨vs, k, _, e, ⟨e, rfl, rfl, e2⟩, r l rfl⟩
section
variable {C : Cx} (ok : C.Ok) {n : Nat} {env : Env} {S : St}
include ok
theorem O.osub {value slice : Expr} {p c d : Addr} {kv : Option (Str × AV)} {l : List (Str × Str)} {k : Int} {q : Str × Str} (L : LCls C.K c) (hM : (p, AO.obj c d kv (some l)) ∈ S.M) (h0 : 0 ≤ k) (hk : l[k.toNat]? = some q) (hhi : k < 2 ^ 63 := by decide)
    (hs : ∀ t u, subscripted slice false (.ref t) (.int k u) = operate [.ref t, .int k u] (getItem (.ref t) (.int k u)) := by intros; with_unfolding_all rfl) : P2 C n env S (subscriptTail value slice) (.raw (.ref p)) (.int k) (pieceAV q) :=
  fun A Y s₀ D s v v' Q ha R r r' qq => by
    refine VR.el_raw r ?_; refine VR.el_int r' fun u => ?_
    ·
      obtain ⟨vs, kk, od, e, I, rs⟩ := instOf (R.ob _ hM)
      obtain ⟨x, hx, rx⟩ := rs.get (i := k.toNat) (a := pieceAV q) (by simp [hk])
      exact l_tail R.bs.K L I (l_getItem_int R.bs.K L I rfl h0 hhi (by simpa using hx) (pureM ok R qq _ _ (.refl ..) rx)) (hs _ _)
theorem EV.oslice {o lo : Expr} {p c d : Addr} {kv : Option (Str × AV)} {l : List (Str × Str)} {i : Nat} {ps pos : Pos} (L : LCls C.K c) (hM : (p, AO.obj c d kv (some l)) ∈ S.M) (ho : PE C n env S o (.raw (.ref p))) (hi : PE C n env S lo (.int i)) (hil : i ≤ l.length) (hz : l.length ≤ 1000)
    (hs : ∀ t u, subscripted (.Slice (some lo) none none ps) false (.ref t) u = operate [u, .ref t] (getItem (.ref t) u) := by intros; with_unfolding_all rfl) :
    PE C n env S (.Subscript o (.Slice (some lo) none none ps) pos) (.lst ((l.drop i).map pieceAV)) := fun A Y s₀ D s Q ha R q => by
  have sl : sizeLine = 16777216 := by decide
  refine Subscript_ (ho A Y s₀ D s _ ha R fun v s₁ a₁ S₁ p₁ R₁ K₁ r₁ => ?_)
  obtain ⟨rfl, rfl⟩ := p₁
  refine VR.el_raw r₁ ?_
  refine wpAny_Slice ?_
  rw [evalPart_some]
  refine hi A Y s₀ D s₁ _ ha R₁ fun v s₂ a₂ S₂ p₂ R₂ K₂ r₂ => ?_
  obtain ⟨rfl, rfl⟩ := p₂
  refine VR.el_int r₂ fun u => ?_
  ·
    rw [evalPart_none]
    refine wpAny_pure (wpAny_pure ?_)
    have R₃ := R₂.go ok (SStp.alloc C.T s₂ { cls := .type "slice", data := .fields #[.int i u, .none, .none] })
    obtain ⟨vs, kk, od, e, I, rs⟩ := instOf (R₃.ob _ hM)
    have hlen : vs.length = l.length := by rw [rs.length, List.length_map]
    refine l_tail R₃.bs.K L I (l_getItem_slice R₃.bs.K L I rfl (Heap.IsSliceOf.new ..) (.int _ _) .none .none (by simp) ?_ (by rw [List.size_toArray]; lia)) (hs _ _)
    rw [slicePick_from _ i (by rw [List.size_toArray]; lia)]
    have x := SStp.alloc C.T { s₂ with heap := s₂.heap.push { cls := .type "slice", data := .fields #[.int i u, .none, .none] } } { cls := .type "list", data := .seq (vs.drop i).toArray }
    refine q _ _ _ S₂ ⟨rfl, rfl⟩ (R₃.go ok x) ((K₁.trans K₂).trans (Kp.go R₂ ((SStp.alloc ..).trans0 x))) (.lst (Heap.get?_push_size _ rfl) (fun h => (R₃.live h).ne (new_none _) rfl) ?_)
    rw [List.map_drop]
    exact VRs.stp (Stp.push C.T ..) (fun _ h => nomatch h) R₃.hT ((VRs.drop i rs))
theorem E1_oset {o lo value : Expr} {j : Nat} {p c d : Addr} {kv : Option (Str × AV)} {l : List (Str × Str)} {i : Nat} {ps pos' pos : Pos} {P : AF → St → Prop} (L : LCls C.K c) (hM : S.M[j]? = some (p, AO.obj c d kv (some l))) (hv : PE C n env S value (.lst [])) (ho : PE C n env S o (.raw (.ref p))) (hi : PE C n env S lo (.int i)) (hil : i ≤ l.length) (hz : l.length ≤ 1000)
    (h : P .next ⟨S.μ, S.M.set j (p, AO.obj c d kv (some (l.take i)))⟩)
    (hs : swapsWith value (some (.Subscript o (.Slice (some lo) none none ps) pos')) pos.line env = pure false := by rfl) :
    E1 C n env S (.Assign [.Subscript o (.Slice (some lo) none none ps) pos'] value pos) P := fun A Y s₀ D s Q ha R q => by
  refine wpAny_Assign_Subscript (hs := hs) (hv A Y s₀ D s _ ha R fun v s₀' a₀ S₀ p₀ R₀ K₀ r₀ => ?_)
  obtain ⟨rfl, rfl⟩ := p₀
  refine ho A Y s₀ D s₀' _ ha R₀ fun v s₁ a₁ S₁ p₁ R₁ K₁ r₁ => ?_
  obtain ⟨rfl, rfl⟩ := p₁
  refine VR.el_raw r₁ ?_
  refine wpAny_Slice ?_
  rw [evalPart_some]
  refine hi A Y s₀ D s₁ _ ha R₁ fun v s₂ a₂ S₂ p₂ R₂ K₂ r₂ => ?_
  obtain ⟨rfl, rfl⟩ := p₂
  refine VR.el_int r₂ fun u => ?_
  ·
    rw [evalPart_none]
    refine wpAny_pure (wpAny_pure ?_)
    have xs := SStp.alloc C.T s₂ { cls := .type "slice", data := .fields #[.int i u, .none, .none] }
    have R₃ := R₂.go ok xs
    have r3 := (K₂ _ _ (K₁ _ _ r₀)).go xs R₂.hT
    obtain ⟨vs, kk, od, e, I, rs⟩ := instOf (R₃.ob _ (mem_of_get? hM))
    have hlen : vs.length = l.length := by rw [rs.length, List.length_map]
    refine VR.el_lst r3 fun y ws m ey ny ry => ?_
    ·
      have hw : ws = [] := by refine VRs.el_nil ry ?_; rfl
      subst hw
      have hb : sliceBounds (some (i : Int)) none none vs.toArray.size = ((i : Int), (vs.length : Int), 1) := by
        simp only [sliceBounds, Option.getD_none]
        have h1 : ¬ ((i : Int) < 0) := by lia
        simp only [h1, if_false, show (1 : Int) > 0 by decide, if_true, List.size_toArray]
        congr 1; lia
      have hxy : p ≠ y := fun e => ny (mem_Xo.mpr (.inr (.inl (List.mem_append_right _ (mem_feet (mem_of_get? hM) (e ▸ List.mem_cons_self ..))))))
      refine l_setItem_slice R₃.bs.K L I rfl (Heap.IsSliceOf.new ..) (.int _ _) .none .none ey rfl rfl hxy (by simp; lia) ?_
      rw [hb]
      obtain ⟨R₄, K₄⟩ := Rel.setSeq ok R₃ hM e (fun xs => xs.extract 0 (i : Int).toNat ++ ([] : List Value).toArray ++ xs.extract (max (i : Int) (vs.length : Int)).toNat xs.size) (ws := vs.take i) (l' := l.take i)
        (by
          have hm : (max (i : Int) (vs.length : Int)).toNat = vs.length := by lia
          rw [hm]
          apply Array.toList_inj.mp
          simp) (by rw [List.map_take]; exact VRs.take i rs)
      exact q _ _ _ _ h R₄ (((K₀.trans K₁).trans K₂).trans ((Kp.go R₂ xs).trans K₄)) .next
end
end Mine
namespace Mine
section
variable {w : World} {mg mb : Str → Option Value} (g : GA w mg mb)
include g
theorem accL : LCls (CA w mg mb).K 154 := ⟨rfl, rfl, rfl, rfl, rfl⟩
theorem pop_from_fn {n : Nat} {M : List (Addr × AO)} {j i : Nat} {p d : Addr} {k : Nat} {l : List (Str × Str)} (hM : M[j]? = some (p, AO.obj 154 d (AccKv k) (some l))) (hz : l.length ≤ 1000) (hi : i ≤ l.length) :
    FC (CA w mg mb) (n + 1) 106 M [.raw (.ref p), .int i] (fun av M' => av = .lst ((l.drop i).map pieceAV) ∧ M' = M.set j (p, AO.obj 154 d (AccKv k) (some (l.take i)))) := by
  have ok := okA g
  refine fc_plain ok (ab := [("self", .raw (.ref p)), ("i", .int i)]) ⟨⟨_, rfl, rfl⟩, ⟨_, _, _, _, rfl, rfl, rfl, rfl⟩, rfl, rfl, rfl, (fun x c h => by cases h), rfl, rfl, rfl, by decide⟩ (by decide) (BA.two (T := 99) rfl (by intro u v; kernel_rfl)) (by intro x hx; simp at hx; rcases hx with rfl | rfl <;> rfl) ?_
  intro L
  refine EX.cons (E1.assign ok (.inl rfl) ((EV.oslice ok (accL g) (mem_of_get? hM) (PE.name rfl) (PE.name rfl) hi hz).then ?_))
  refine EX.cons (E1_oset ok (accL g) hM (PE.list ok PL.nil) (PE.name rfl) (PE.name rfl) hi hz ?_)
  exact EX.cons (E1.ret ((PE.name rfl).then ⟨rfl, rfl⟩))
end
end Mine
namespace Mine
noncomputable def SeqAt (h : Heap) (x : Addr) (items : Array Value) : Prop := ∃ o, h.get? x = some o ∧ ∃ n, o.data = .seq items n
section
variable {prog : Program} {w : World} {A : Around} {E : Value → Shared → Prop} {s : Shared}
theorem pyNext_seq_item {it l : Addr} {i : Nat} {items : Array Value} {x : Value} {Q : Option Value → Shared → Prop} (hit : s.heap.IsListIter it l i)
    (hl : SeqAt s.heap l items) (hx : items[i]? = some x)
    (hQ : ∀ h', h'.IsListIter it l (i + 1) → Heap.SameBut it s.heap h' → Q (some x) { s with heap := h' }) :
    wpAny (model prog w) A (pyNext (.ref it)) Q E s := by
  obtain ⟨o, ho, hc, hd⟩ := id hit
  obtain ⟨ol, hol, nl, hdl⟩ := hl
  unfold pyNext
  refine wpAny_bind (wpAny_attempt (wpAny_callSpecial?_slot (name := Str.ofString "__next__") hit.typeIs slot_listiter_next
    (wpAny_call_entry slot_listiter_next hit.typeIs entry_listiter_next ?_ (args_listiter_next _))))
  show wpAny _ _ (field (.ref it) 0 >>= _) _ _ s
  refine wpAny_bind (wpAny_field ho hd (x := .ref l) rfl ?_)
  show wpAny _ _ (if (Value.ref l == Value.none) = true then _ else _) _ _ s
  rw [if_neg (show ¬ ((Value.ref l == Value.none) = true) from Bool.false_ne_true)]
  show wpAny _ _ (field (.ref it) 1 >>= _) _ _ s
  refine wpAny_bind (wpAny_field ho hd (x := .int i 0) rfl ?_)
  show wpAny _ _ (seqItems? (.ref l) >>= _) _ _ s
  refine wpAny_bind (wpAny_seqItems hol hdl ?_)
  simp only [Int.toNat_natCast, hx]
  refine wpAny_bind (wpAny_setField ho hd (by simp) (wpAny_pure ⟨x, rfl, wpAny_pure (hQ _ ?_ (Heap.SameBut.update ..))⟩))
  exact ⟨_, Heap.get?_update_self _ ho (Obj.isFreed_of_fields (Obj.data_mapFields hd _)), (Obj.cls_mapFields ..).trans hc, by
    rw [Obj.data_mapFields hd]; simp [rawInt]⟩
theorem pyNext_seq_end {it l : Addr} {i : Nat} {items : Array Value} {Q : Option Value → Shared → Prop} (hh : A.handled = none)
    (hit : s.heap.IsListIter it l i) (hl : SeqAt s.heap l items) (hx : items[i]? = none)
    (hQ : ∀ h', Heap.ExtBut it s.heap h' → Q none { s with heap := h' }) : wpAny (model prog w) A (pyNext (.ref it)) Q E s := by
  obtain ⟨o, ho, hc, hd⟩ := id hit
  obtain ⟨ol, hol, nl, hdl⟩ := hl
  unfold pyNext
  refine wpAny_bind (wpAny_attempt (wpAny_callSpecial?_slot (name := Str.ofString "__next__") hit.typeIs slot_listiter_next
    (wpAny_call_entry slot_listiter_next hit.typeIs entry_listiter_next ?_ (args_listiter_next _))))
  show wpAny _ _ (field (.ref it) 0 >>= _) _ _ s
  refine wpAny_bind (wpAny_field ho hd (x := .ref l) rfl ?_)
  show wpAny _ _ (if (Value.ref l == Value.none) = true then _ else _) _ _ s
  rw [if_neg (show ¬ ((Value.ref l == Value.none) = true) from Bool.false_ne_true)]
  show wpAny _ _ (field (.ref it) 1 >>= _) _ _ s
  refine wpAny_bind (wpAny_field ho hd (x := .int i 0) rfl ?_)
  show wpAny _ _ (seqItems? (.ref l) >>= _) _ _ s
  refine wpAny_bind (wpAny_seqItems hol hdl ?_)
  simp only [Int.toNat_natCast, hx]
  refine wpAny_bind (wpAny_rule (wpAny_bind (wpAny_setField ho hd (by simp) ?_)))
  show wpAny _ _ (newExc (.type "StopIteration") [] >>= _) _ _ _
  refine wpAny_bind ?_
  simp only [newExc, newTuple]
  refine wpAny_bind (wpAny_newObj_type ?_ (by size_fits))
  refine wpAny_bind (m := firstArgMember _ _) (wpAny_of_eq (a := Value.none) (by first | rfl | (simp only [firstArgMember]; rfl)) ?_)
  refine wpAny_newObj_type ?_ (by size_fits)
  simp only [raiseNew]
  refine wpAny_bind (wpAny_handled ?_)
  rw [show A.in1.handled = none from hh]
  refine wpAny_bind (wpAny_pure (wpAny_throw ?_))
  refine wpAny_bind (wpAny_isInstance (T := "StopIteration") (b := true) ⟨_, Heap.get?_push_size _ rfl, rfl⟩ isSubtype_stop ?_)
  exact wpAny_pure (hQ _ (((Heap.SameBut.update ..).extBut.push _).push _))
end
theorem SeqAt.keep {h h' : Heap} {x : Addr} {items : Array Value} (a : SeqAt h x items) (k : ∀ o, h.get? x = some o → h'.get? x = some o) : SeqAt h' x items := let ⟨o, e, r⟩ := a; ⟨o, k o e, r⟩
noncomputable def PieceAt (h : Heap) (v : Value) (q : Str × Str) : Prop := ∃ T o n t u, v = .ref T ∧ h.get? T = some o ∧ o.cls = .type "tuple" ∧ o.data = .seq #[.str q.1 t, .str q.2 u] n
theorem pieceAt {h : Heap} {X : List Addr} {v : Value} {q : Str × Str} (r : VR h X v (pieceAV q)) : PieceAt h v q := by
  refine VR.iv_tup r ?_; clear r; intro _ _ _ e n rs e_0; cases e_0
  ·
    refine VRs.iv_cons rs ?_; clear rs; intro _ _ r1 rs e_0; cases e_0
    · refine VRs.iv_cons rs ?_; clear rs; intro _ _ r2 rs e_0; cases e_0; (refine VRs.iv_nil rs fun e_0 => ?_; subst e_0); (refine VR.iv_str r1 fun _ e_0 => ?_; subst e_0); (refine VR.iv_str r2 fun _ e_0 => ?_; subst e_0); exact ⟨_, _, _, _, _, rfl, e, rfl, rfl⟩
noncomputable def PSt (I ax : Addr) (vs : List Value) (l : List (Str × Str)) (i : Nat) (h : Heap) : Prop := h.IsListIter I ax i ∧ SeqAt h ax vs.toArray ∧ ∀ (j : Nat) (v : Value) (q : Str × Str), vs[j]? = some v → l[j]? = some q → PieceAt h v q
noncomputable def pPt (l : List (Str × Str)) (i : Nat) (vals : Array Value) : Prop := ∃ q t u, l[i]? = some q ∧ vals = #[.str q.1 t, .str q.2 u]
theorem WalksU.pile {prog : Program} {w : World} {A : Around} (hh : A.handled = none) (I ax : Addr) (hne : ax ≠ I) (vs : List Value) (l : List (Str × Str)) (hl : vs.length = l.length) (fp : List Addr) (hI : I ∈ fp) (ha : ax ∈ fp)
    (hT : ∀ (j : Nat) (T : Addr), vs[j]? = some (.ref T) → T ∈ fp ∧ T ≠ I) :
    WalksU prog w A I fp [I] l.length (pPt l) (PSt I ax vs l) (fun i T h => PSt I ax vs l (i + 1) h ∧ T ≠ I) := by
  have keepP : ∀ {h h' : Heap}, (∀ b ∈ fp, b ≠ I → ∀ o, h.get? b = some o → h'.get? b = some o) → (∀ (j : Nat) (v : Value) (q : Str × Str), vs[j]? = some v → l[j]? = some q → PieceAt h v q) → ∀ (j : Nat) (v : Value) (q : Str × Str), vs[j]? = some v → l[j]? = some q → PieceAt h' v q := fun k r j v q hv hq => by
    obtain ⟨T, o, n, t, u, rfl, e, r2⟩ := r j v q hv hq
    obtain ⟨h1, h2⟩ := hT j T hv
    exact ⟨T, o, n, t, u, rfl, k T h1 h2 o e, r2⟩
  refine ⟨fun b hb => by simp at hb; rw [hb]; exact hI, fun i h h' st k => ⟨st.1.at fun o e => k I hI o e, st.2.1.keep fun o e => k ax ha o e, keepP (fun b hb _ o e => k b hb o e) st.2.2⟩, fun i s Q E hi st hQ => ?_, fun elts k pos i T s Q E hm hQ => ?_, fun i T h hm => by simp [hm.2], fun s Q E st hQ => ?_, fun _ _ _ _ st hQ => wpAny_pyIter_listiter st.1 hQ⟩
  · have hiv : i < vs.length := by lia
    refine pyNext_seq_item st.1 st.2.1 (x := vs[i]) (by simp [hiv]) fun h' hit' hs' => ?_
    have k : ∀ b ∈ fp, b ≠ I → ∀ o, s.heap.get? b = some o → h'.get? b = some o := fun b _ hb o e => hs'.extBut b o hb e
    have P' := keepP k st.2.2
    obtain ⟨T, o, n, t, u, e1, e2, e3, e4⟩ := P' i vs[i] l[i] (by simp [hiv]) (by simp [hi])
    rw [e1]
    have hTI := (hT i T (by rw [← e1]; simp [hiv])).2
    refine hQ T _ h' s.toks ⟨l[i], t, u, by simp [hi], rfl⟩ ⟨o, e2, e3, n, e4⟩ ⟨⟨hit', st.2.1.keep fun o e => hs'.extBut _ o hne e, P'⟩, hTI⟩ fun b o hb e => hs'.extBut b o (by simpa using hb) e
  · obtain ⟨⟨hit, hsq, hp⟩, hTI⟩ := hm
    obtain ⟨o, ho, hc, hd⟩ := id hit
    unfold letOwnedTupleGo
    refine wpAny_bind (wpAny_load ho ?_)
    rw [hc, hd]
    show wpAny _ A (if (["enumerate", "zip", "dict_itemiterator", "dict_reverseitemiterator", "odict_iterator", "itertools.zip_longest", "itertools.pairwise"].contains "list_iterator" && _) = true then _ else _) Q _ s
    rw [if_neg (by rw [show (["enumerate", "zip", "dict_itemiterator", "dict_reverseitemiterator", "odict_iterator", "itertools.zip_longest", "itertools.pairwise"].contains "list_iterator") = false by decide, Bool.false_and]; exact Bool.false_ne_true)]
    exact wpAny_pure (hQ s.heap ⟨hit, hsq, hp⟩ fun _ _ _ e => e)
  · refine pyNext_seq_end hh st.1 st.2.1 (by simp; lia) fun h' he' => hQ h' s.toks fun b o hb e => he' b o (by simpa using hb) e
end Mine
end
section
open PySem PySem.W PySem.Calls PyProof.Rows
open PySem.W.X (tableObj)
set_option tactic.hygienic false
namespace Mine
structure CodeIn (K : Frag) (c P : Addr) : Prop where
  at_ : ∃ o vs file tf flags tg inF text tt, K.lookup c = some o ∧ o.cls = .type "code" ∧ o.data = .fields vs ∧ vs.getD 11 .none = .ref P ∧ vs[11]? = some (.ref P) ∧ vs.getD 18 .none = .str file tf ∧ vs.getD 7 .none = .int flags tg ∧ vs.getD 9 .none = .bool inF ∧ vs.getD 10 .none = .int text tt
  ne : c ≠ P
theorem CodeIn.code {K : Frag} {c P : Addr} (x : CodeIn K c P) {h : Heap} (hK : K.In h) {ps : Array Value} (e : h.get? P = some (tableObj ps)) (tr : TriplesOk ps.toList) : h.IsCode c P ps ∧ h.TableAt c P ps := by
  obtain ⟨o, vs, file, tf, flags, tg, inF, text, tt, a1, a2, a3, a4, a5, a6, a7, a8, a9⟩ := x.at_
  exact ⟨⟨o, vs, file, tf, flags, tg, inF, text, tt, _, hK _ _ a1, a3, a4, a6, a7, a8, a9, e, rfl, tr, x.ne⟩, ⟨o, vs, hK _ _ a1, a2, a3, a5⟩, e⟩
theorem genCode {M : Model} {A : Around} {E : Value → Shared → Prop} {s : Shared} {env : Env} {c P : Addr} {ps : Array Value} {pos : Pos} {qualname : Str} {scope : Scope} {Q : Value → Shared → Prop} (hc : env.code = .ref c) (hok : s.heap.IsCode c P ps) (htab : s.heap.TableAt c P ps)
    (hQ : ∀ code h' tk ps', Heap.ExtBut P s.heap h' → s.heap.objs.size ≤ h'.objs.size → h'.get? P = some (tableObj ps') → TriplesOk ps'.toList → (∃ more, ps' = ps ++ more) → Q code { s with heap := h', toks := tk }) : wpAny M A (genexprCode env pos qualname scope) Q E s := by
  cases hnf : codeAmong pos ps.toList with
  | none =>
    exact wpAny_genexprCodeX hc hok htab hnf fun c' h' tk hx hge hlt hcode _ htab' _ => hQ _ h' tk _ hx (by lia) htab'.2 (by obtain ⟨_, _, _, _, _, _, _, _, _, _, _, _, _, _, _, _, _, _, _, tr, _⟩ := hcode; exact tr) ⟨_, rfl⟩
  | some cv =>
    obtain ⟨o, vs, file, tf, flags, tg, inF, text, tt, op, ho, hd, h11, h2, h7, h9, h10, hop, hpd, htr, hne⟩ := id hok
    unfold genexprCode codeAt
    rw [hc, if_neg (show ¬ ((Value.ref c == Value.none) = true) from Bool.false_ne_true)]
    refine wpAny_bind (wpAny_fieldsOf ho hd ?_)
    rw [h11]
    refine wpAny_bind (wpAny_fieldsOf hop hpd ?_)
    rw [hnf]
    exact wpAny_pure (hQ cv s.heap s.toks ps (Heap.ExtBut.refl _ _) (Nat.le_refl _) htab.2 htr ⟨#[], by simp⟩)
theorem all_passing (n : Nat) : passing (fun _ => true) n 0 = List.range n := by simp [passing]
noncomputable def BIn (C : Cx) : Prop := ∃ bm o, C.mg "__builtins__" = some (.ref bm) ∧ bm ≠ builtinsNs ∧ C.K.lookup bm = some o ∧ o.cls = .type "module" ∧ o.dict = some builtinsNs ∧ o.data = .plain
section
variable {C : Cx} (ok : C.Ok) {n : Nat} {env : Env} {S : St}
include ok
theorem gen_obj {elt iter : Expr} {xa xb : Str} {pa pb pt pos : Pos} {kt : Nat} {scope : Scope} {c P cl p d : Addr} {kv : Option (Str × AV)} {l : List (Str × Str)} {Fv : Str × Str → Value → Prop} {A : Around} {Y D : List Addr} {s₀ s : Shared} {Q : Value → Shared → Prop}
    (hco : scope.isCoroutine = false) (hok : compOk scope env = true) (hcell : ∀ y ∈ scope.names, y.2 ≠ .cell) (h0 : scope.names.lookup (".0" : Str) = some NameKind.local) (hxa : scope.names.lookup xa = some .local) (hxb : scope.names.lookup xb = some .local) (hab : xa ≠ xb) (hkind : scope.kind = .function)
    (ci : CodeIn C.K c P) (hcode : env.code = .ref c) (hPT : P ∈ C.T) (bi : BIn C) (L : LCls C.K cl) (hit : PE C n env S iter (.raw (.ref p))) (hM : (p, AO.obj cl d kv (some l)) ∈ S.M)
    (hel : ∀ (A' : Around) (E' : Value → Shared → Prop) cs Ca code bn (s₂ : Shared) m₂ q t u, A'.handled = none → q ∈ l → s₂.heap.Ns Ca m₂ → m₂ xa = some (.str q.1 t) → m₂ xb = some (.str q.2 u) → s₂.heap.Ns mainGlobals C.mg → s₂.heap.Ns builtinsNs C.mb → env.globals = mainGlobals → bn = builtinsNs →
      wpAny (model C.prog C.w) A' (eval elt (genEnv scope cs Ca code bn env)) (fun y s₃ => Fv q y ∧ Keeps s₂ s₃) E' s₂)
    (ha : AOk n A) (R : Rel C Y s₀ D env S s)
    (k : ∀ a fp wr G St s₅, Rel C Y s₀ D env S s₅ → Kp C Y env S s S s₅ → WalksS C.prog C.w A.in4 a fp wr G l.length (fun j y => ∃ q, l[j]? = some q ∧ Fv q y) St → St 0 s₅ → (∀ i s, St i s → s.TypeIs (.ref a) "generator") → a ∈ fp → (∀ b ∈ fp, b < s₅.heap.objs.size) →
      (∀ s', Moved wr G s₅ s' → Rel C Y s₀ D env S s' ∧ Kp C Y env S s S s') → Q (.ref a) s₅)
    (hs : ∀ x, genFold iter env x = pure x := by intro _; rfl) :
    wpAny (model C.prog C.w) A (eval (.GeneratorExp elt [⟨.Tuple [.Name xa pa, .Name xb pb] kt pt, iter, [], 0⟩] scope pos) env) Q No s := by
  have hroom : A.depth < recursionLimit := by have := ha.depth; show A.depth < 1000; lia
  refine wpAny_GeneratorExp_walksQT ha.handled hco (closure_of hok) hcell h0 hxa hxb hab hkind hroom (hit A Y s₀ D s _ ha R fun v s₁ a₁ S₁ p₁ R₁ K₁ r₁ => ?_) hs
  obtain ⟨rfl, rfl⟩ := p₁
  (refine VR.iv_raw r₁ fun e_0 => ?_; subst e_0)
  obtain ⟨vs, kk, od, e, I, rs⟩ := instOf (R₁.ob _ hM)
  have hlen : vs.length = l.length := by rw [rs.length, List.length_map]
  refine l_pyIter R₁.bs.K L I ?_
  have x2 := SStp.alloc C.T s₁ { cls := .type "list_iterator", data := .fields #[.ref p, .int 0 0] }
  have R₂ := R₁.go ok x2
  refine ⟨R₂.bs.lim, ?_⟩
  obtain ⟨ps, ep, tr⟩ := R₂.bs.tab P hPT
  obtain ⟨hc1, hc2⟩ := ci.code R₂.bs.K ep tr
  refine genCode hcode hc1 hc2 fun code h₃ tk ps' hx hsz3 ep' tr' hmo => ?_
  have x3 : SStp C.T [] { s₁ with heap := s₁.heap.push { cls := .type "list_iterator", data := .fields #[.ref p, .int 0 0] } } { s₁ with heap := h₃, toks := tk } := ⟨⟨fun a o e _ t => hx a o (fun q => t (q ▸ hPT)) e, fun a ht vs e t => by
    by_cases h : a = P
    · subst h
      have ev : vs = ps := by
        have q := e.symm.trans ep
        simp only [Option.some.injEq] at q
        unfold tableObj at q
        simpa using q
      subst ev
      obtain ⟨more, hmo⟩ := hmo
      exact ⟨ps', ep', tr', more, hmo⟩
    · exact ⟨vs, hx a _ h e, t, #[], by simp⟩⟩, rfl, rfl, id⟩
  have x13 := x2.trans0 x3
  have R₃ := R₁.go ok x13
  have keep3 : ∀ a o, s₁.heap.get? a = some o → a ≠ P → h₃.get? a = some o := fun a o e h => hx a o h (Heap.get?_push_of_some _ e)
  have nP : ∀ a, a ∉ C.T → a ≠ P := fun a h e => h (e ▸ hPT)
  obtain ⟨bm, bo, b1, b2, b3, b4, b5, b6⟩ := bi
  refine wpAny_builtinsFor (by rw [R₁.ev.glob]; exact R₃.bs.g) b1 b2 (R₃.bs.K _ _ b3) b4 b5 b6 ?_
  have hI3 : s₁.heap.objs.size < h₃.objs.size := by
    have : (s₁.heap.push { cls := .type "list_iterator", data := .fields #[.ref p, .int 0 0] }).objs.size ≤ h₃.objs.size := hsz3
    rw [Heap.size_push] at this; lia
  have live3 : ∀ {a o}, s₁.heap.get? a = some o → a < h₃.objs.size := fun e => Nat.lt_trans (Heap.lt_size e) hI3
  have neI : ∀ {a o}, s₁.heap.get? a = some o → a ≠ s₁.heap.objs.size := fun e => Nat.ne_of_lt (Heap.lt_size e)
  have pT : p ∉ C.T := R₁.tn (List.mem_append_right _ (List.mem_append_left _ (mem_feet hM (List.mem_cons_self ..))))
  have rs3 := VRs.stp x13.heap (fun _ h => nomatch h) R₁.hT rs
  have piece3 : ∀ (j : Nat) (v : Value) (q : Str × Str), vs[j]? = some v → l[j]? = some q → PieceAt h₃ v q := fun j v q hv hq => by
    obtain ⟨v', h1, h2⟩ := rs3.get (i := j) (a := pieceAV q) (by simp [hq])
    rw [hv] at h1; cases h1; exact pieceAt h2
  have hT' : ∀ (j : Nat) (T : Addr), vs[j]? = some (.ref T) → T ∈ List.range h₃.objs.size ∧ T ≠ s₁.heap.objs.size := fun j T hv => by
    obtain ⟨q, hq⟩ : ∃ q, l[j]? = some q := ⟨_, List.getElem?_eq_getElem (by
      have := (List.getElem?_eq_some_iff.mp hv).1; lia)⟩
    obtain ⟨v', h1, h2⟩ := rs.get (i := j) (a := pieceAV q) (by simp [hq])
    rw [hv] at h1; cases h1
    refine VR.iv_tup h2 ?_; clear h2; intro _ _ _ e _ _ e_0; cases e_0
    · exact ⟨List.mem_range.mpr (live3 e), neI e⟩
  have hcs : ∃ o, s₁.heap.get? cStatics = some o := R₁.bs.live (.inr (.inr (.inr rfl)))
  have hIP : s₁.heap.objs.size ≠ P := fun e => by
    have := R₁.bs.liveT hPT
    exact this.ne (new_none _) e.symm
  refine ⟨s₁.heap.objs.size, List.range h₃.objs.size, [s₁.heap.objs.size], l.length, pPt l, PSt s₁.heap.objs.size p vs l, fun i T h => PSt s₁.heap.objs.size p vs l (i + 1) h ∧ T ≠ s₁.heap.objs.size, fun _ => true, fun i y => ∃ q, l[i]? = some q ∧ Fv q y, rfl,
    fun A' hA' => WalksU.pile hA' _ p (neI e) vs l hlen _ (List.mem_range.mpr hI3) (List.mem_range.mpr (live3 e)) hT', fun i vals h => ?_, ⟨⟨_, hx _ _ hIP (Heap.get?_push_size _ rfl), rfl, rfl⟩, ⟨_, keep3 _ _ e (nP _ pT), _, rfl⟩, piece3⟩, fun b hb => List.mem_range.mp hb, R₃.bs.lim, fun h => ?_, fun href hk => ⟨fun A' E' i va vb s₂' m₂ hA' hPt hns ha hb hkeep => wpAny_tests_nil ⟨rfl, s₂'.heap, s₂'.toks, rfl, fun _ _ e => e⟩, fun A' E' i va vb s₂' m₂ hA' hPt _ hns hma hmb hkeep => ?_⟩, fun a h₅ tk' gs hgb hag hsz5 hk5 W hat => ?_⟩
  · obtain ⟨q, t, u, _, e⟩ := h; exact ⟨_, _, e⟩
  · obtain ⟨o, e⟩ := hcs
    exact neI e (List.mem_singleton.mp h)
  · obtain ⟨q, t, u, hq, e⟩ := hPt
    have e1 : va = .str q.1 t ∧ vb = .str q.2 u := by simpa using e
    obtain ⟨rfl, rfl⟩ := e1
    have kOld : ∀ b, C.Old b → ∀ o, h₃.get? b = some o → s₂'.heap.get? b = some o := fun b hb o e => by
      obtain ⟨o', e'⟩ := R₁.bs.live hb
      exact hkeep b (List.mem_range.mpr (Heap.lt_size e)) (by simp; exact neI e') o (hk b o e)
    refine wpAny_mono (hel A' E' _ _ _ _ s₂' m₂ q t u hA' (List.mem_of_getElem? hq) hns hma hmb (R₃.bs.g.at' fun o e => kOld _ (.inr (.inl rfl)) o e) (R₃.bs.b.at' fun o e => kOld _ (.inr (.inr (.inl rfl))) o e) R₁.ev.glob rfl) (fun y s₃' z => ⟨⟨q, hq, z.1⟩, z.2⟩) fun _ _ e => e
  · rw [all_passing, List.length_range] at W
    have x35 : SStp C.T [] { s₁ with heap := h₃, toks := tk } { s₁ with gens := s₁.gens.push gs, toks := tk', heap := h₅ } := ⟨.of_keeps hk5, rfl, rfl, fun b => b.push hgb⟩
    have x15 := x13.trans0 x35
    refine k a _ _ _ _ _ (R₁.go ok x15) (K₁.trans (Kp.go R₁ x15)) (W.imp fun j y h => ?_) hat (fun i s' st => st.1.typeIs) (List.mem_cons_self ..) (fun b hb => ?_) fun s' hm => ?_
    · obtain ⟨i, hi, q, hq, hv⟩ := h
      have : i = j := by
        have := List.getElem?_eq_some_iff.mp hi
        obtain ⟨h1, h2⟩ := this
        simpa using h2.symm
      subst this
      exact ⟨q, hq, hv⟩
    · show b < h₅.objs.size
      rw [hsz5]
      rcases List.mem_cons.mp hb with rfl | hb
      · exact Nat.lt_succ_self _
      · rcases List.mem_cons.mp hb with rfl | hb
        · exact Nat.lt_succ_of_lt hag
        · exact Nat.lt_succ_of_lt (Nat.lt_trans (List.mem_range.mp hb) hag)
    · have nw : ∀ {b o}, s₁.heap.get? b = some o → b ∉ h₃.objs.size :: [s₁.heap.objs.size] := fun e h => by
        rcases List.mem_cons.mp h with h | h
        · exact absurd (live3 e) (h ▸ Nat.lt_irrefl _)
        · exact neI e (List.mem_singleton.mp h)
      have x1' : SStp C.T [] s₁ s' := ⟨⟨fun a o e n t => hm.heap a o (nw e) (x15.heap.keep a o e n t), fun a ht vs e t => by
        obtain ⟨vs', e', t', mo⟩ := x15.heap.tabs a ht vs e t
        exact ⟨vs', hm.heap a _ (nw e) e', t', mo⟩⟩, hm.os.trans x15.os, hm.drawn.trans x15.dr, fun b => hm.gens.bare (x15.bare b)⟩
      exact ⟨R₁.go ok x1', K₁.trans (Kp.go R₁ x1')⟩
end
end Mine
namespace Mine
theorem k_lga : builtinKind "list.__getattribute__" = some .method ∨ builtinKind "list.__getattribute__" = some .slot := .inr (by decide +kernel)
theorem p_lga : splitId "list.__getattribute__" = some ("list", "__getattribute__") := by decide +kernel
theorem lga_plain : plainId "list.__getattribute__" = true := by decide +kernel
section
variable {prog : Program} {w : World} {A : Around} {E : Value → Shared → Prop} {s : Shared} {K : Frag} {x c : Addr} {ox : Obj} {od : Option Obj}
theorem oget_value {v : Value} {name : Str} {expr : Bool} {Q : Value → Shared → Prop} (X : K.In s.heap) (L : LCls K c) (I : InstAt s.heap x ox c od) (hga : findIn K (.ref c) "__getattribute__" = some (some (.builtin "list.__getattribute__"))) (hk : findIn K (.ref c) "__getattr__" = some none)
    (hf : findObj K c od name = some (.value v)) (hh : handedIn v = true) (h : Q v { s with toks := s.toks + 1 }) : wpAny (model prog w) A (getAttr (.ref x) name expr) Q E s := by
  obtain ⟨hp, g, d, t, os⟩ := s
  unfold getAttr getAttrBy
  refine wpAny_bind (wpAny_mkText (wpAny_holding (wpAny_bind (I.type.at (wpAny_bind ((looks_findIn X hga).at ?_))))))
  show wpAny _ _ (getAttrByItsOwn (.ref x) (.str name t) (.ref c) (.builtin "list.__getattribute__") true expr) _ _ _
  unfold getAttrByItsOwn hookBefore callGetattribute boundAndCalled
  refine wpAny_bind ?_
  rw [if_pos (by rfl)]
  refine (looks_findIn X hk).at ?_
  refine wpAny_bind (wpAny_attempt (wpAny_holding ?_))
  rw [if_neg (by cases expr <;> simp [onTheHeap])]
  refine wpAny_bind ?_
  rw [PySem.F.slot_list_getattribute.bind]
  refine wpAny_pure ?_
  refine l_slot (s := ⟨hp, g, d, t + 1, os⟩) (n := "__getattribute__") X L I k_lga p_lga lga_plain am_entry_list_getattribute (PySem.F.args_list_getattribute_2 _ _) ?_
  unfold Builtin.«object.__getattribute__»
  refine wpAny_bind (wpAny_pure (a := (Value.ref x, [Value.str name t])) ?_)
  refine wpAny_bind (wpAny_pure (a := name) ?_)
  refine wpAny_bind (I.type.at ?_)
  refine wpAny_bind ((looks_find X I hf).at ?_)
  refine wpAny_pure ?_
  show wpAny _ _ (handedOut v) _ _ _
  rw [handedOut_of hh]; exact wpAny_pure h
end
end Mine
end
section
open PySem PySem.W PySem.Calls PyProof.Rows
set_option tactic.hygienic false
namespace Mine
theorem shiftW {prog : Program} {w : World} {A : Around} {I : Addr} {fp wr : List Addr} {G : Array GenState → Array GenState → Prop} {n : Nat} {P : Nat → Value → Prop} {St : Nat → Shared → Prop}
    (W : WalksS prog w A I fp wr G n P St) : WalksS prog w A I fp wr G (n + 1) (fun i v => ∃ j, i = j + 1 ∧ P j v) (fun i s => ∃ j, i = j + 1 ∧ St j s) where
  sub := W.sub
  grefl := W.grefl
  gtrans := W.gtrans
  frame := fun i s h' tk ⟨j, e, st⟩ ht hk => ⟨j, e, W.frame j s h' tk st ht hk⟩
  item := fun i s Q E hi ⟨j, e, st⟩ hQ => W.item j s Q E (by lia) st fun v s' hP hst hm => hQ v s' ⟨j, e, hP⟩ ⟨j + 1, by lia, hst⟩ hm
  done := fun s Q E ⟨j, e, st⟩ hQ => W.done s Q E (by have : n = j := by lia
                                                      exact this ▸ st) hQ
  self := fun i s Q E ⟨j, e, st⟩ hQ => W.self j s Q E st hQ
noncomputable def shiftV (k : Int) (val : Nat → Int) : Nat → Int
  | 0 => k
  | i + 1 => val i
theorem preSum_shift (k : Int) (val : Nat → Int) : ∀ n, preSum (shiftV k val) (n + 1) = k + preSum val n
  | 0 => by simp [preSum, shiftV]
  | n + 1 => by
    have := preSum_shift k val n
    simp only [preSum] at this ⊢
    rw [this]; simp [shiftV, Int.add_assoc]
theorem args_sum2 (x y : Value) : argsOk "sum" ⟨[x, y], []⟩ := by unfold argsOk; kernel_rfl
section
variable {prog : Program} {w : World} {A : Around} {E : Value → Shared → Prop} {s : Shared}
theorem call_sum2 {x : Value} {k : Int} {tk : Tok} {Q : Value → Shared → Prop}
    (h : wpAny (model prog w) A.in1 (pyIter x) (fun it s₂ => ∃ I fp wr G n P St val, it = .ref I ∧ WalksS prog w A.in1 I fp wr G n P St ∧ St 0 s₂ ∧ (∀ b ∈ fp, b < s₂.heap.objs.size) ∧
      (∀ i v, P i v → ∃ t, v = .int (val i) t) ∧
      ∀ s' t', Moved wr G s₂ s' → Q (.int (k + preSum val n) t') s') E s) :
    wpAny (model prog w) A (call (.builtin "sum") [x, .int k tk]) Q E s := by
  refine call_function_tree F.kind_sum F.plain_sum F.entry_sum (args_sum2 _ _) ?_
  unfold Builtin.«sum»
  simp only [List.length_cons, List.length_nil]
  rw [if_neg (by decide)]
  refine wpAny_bind (wpAny_of_eq (show Builtin.Builtins.bindParams "sum" ["start"] 0 ⟨[.int k tk], []⟩ = pure [some (.int k tk)] from rfl) ?_)
  refine wpAny_bind (wpAny_mono h (fun it s₂ h₂ => ?_) fun _ _ e => e)
  obtain ⟨I, fp, wr, G, n, P, St, val, rfl, W, hst, hfp, hval, hQ⟩ := h₂
  have fin : ∀ (st : Int) (tk' : Tok) (s₃ : Shared), (st = 0 ∨ st = 2) → (∃ tt, s₃ = { s₂ with toks := tt } ∧ s₂.toks ≤ tt) →
      wpAny (model prog w) A.in1 (do
        forIn [("str", "strings", "''"), ("bytes", "bytes", "b''"), ("bytearray", "bytearray", "b''")] PUnit.unit
          fun (x : String × String × String) __s => do
          let __do_lift ← isInstance (.int k tk') (Value.type x.fst)
          if __do_lift = true then do
              rule "sum.start-refused"
              raiseErrorMade "TypeError"
                  (toString "sum() can't sum " ++ toString x.2.fst ++ toString " [use " ++ toString x.2.snd ++
                    toString ".join(seq) instead]")
              pure (ForInStep.yield PUnit.unit)
            else pure (ForInStep.yield PUnit.unit)
        let __do_lift ← newList [.int k tk']
        again (Code.builtin "sum.loop" { pos := [Value.ref I, __do_lift, rawInt st, rawInt 0] })) (fun fin s' => match fin with
      | Fin.done (Flow.ret v) => Q v s'
      | Fin.done _ => False
      | Fin.again c' => c'.quiet = true ∧ codeAny (model prog w) A c' (fun r s' => match r with
              | Except.ok (Flow.ret v) => Q v s'
              | Except.ok a => False
              | Except.error e => E e s') s') E s₃ := by
    rintro st tk' _ hst2 ⟨tt, rfl, htt⟩
    simp only [List.forIn_cons, List.forIn_nil]
    refine wpAny_bind (wpAny_bind (wpAny_bind (wpAny_isInstance (T := "int") (b := false) (typeIs_int _ _ _) PySem.sub_int_str ?_)))
    simp only [Bool.false_eq_true, if_false]
    refine wpAny_pure (wpAny_bind (wpAny_bind (wpAny_isInstance (T := "int") (b := false) (typeIs_int _ _ _) sub_int_bytes ?_)))
    simp only [Bool.false_eq_true, if_false]
    refine wpAny_pure (wpAny_bind (wpAny_bind (wpAny_isInstance (T := "int") (b := false) (typeIs_int _ _ _) sub_int_bytearray ?_)))
    simp only [Bool.false_eq_true, if_false]
    refine wpAny_pure (wpAny_pure ?_)
    refine wpAny_bind (wpAny_newObj_type ?_)
    have hSf : s₂.heap.objs.size ∉ fp := fun hm => Nat.lt_irrefl _ (hfp _ hm)
    have e1 : preSum (shiftV k val) 1 = k := by simp [preSum, shiftV]
    refine wpAny_pure ⟨plainId_quiet F.plain_sum_loop _, codeAny_sum_loopAnyS (shiftW W) (shiftV k val) (fun i v ⟨j, e, hP⟩ => by subst e; exact hval j v hP) s₂.heap.objs.size hSf n 1 _ tk' 0 st hst2 (by lia) (by lia)
      ⟨0, rfl, W.frame 0 s₂ _ _ hst htt fun b _ o e => Heap.get?_push_of_some _ e⟩ (by rw [e1]; exact Heap.get?_push_size _ rfl) fun s' t' hm => ?_⟩
    rw [preSum_shift]
    exact hQ s' t' (hm.drop_new htt)
  show wpAny _ _ (if _ then _ else _) _ _ _
  split
  · refine wpAny_bind (wpAny_rule (wpAny_bind (wpAny_mkInt ?_)))
    exact fin 0 _ _ (.inl rfl) ⟨_, rfl, Nat.le_succ _⟩
  · exact fin 2 _ _ (.inr rfl) ⟨_, rfl, Nat.le_refl _⟩
end
end Mine
namespace Mine
noncomputable def pieceLen (q : Str × Str) : Nat := q.1.length + q.2.length
noncomputable def pileLen (l : List (Str × Str)) : Nat := (l.map pieceLen).sum
noncomputable def pileStr (l : List (Str × Str)) : Str := Txt.join "" (l.map fun q => Txt.join "" [q.1, q.2])
theorem preSum_pile (l : List (Str × Str)) : preSum (fun j => ((l.map fun q => ((pieceLen q : Nat) : Int)).getD j 0)) l.length = (pileLen l : Int) := by
  have e := preSum_getD (l.map fun q => ((pieceLen q : Nat) : Int)) l.length
  rw [List.take_of_length_le (by simp)] at e
  rw [e]
  unfold pileLen
  induction l with
  | nil => rfl
  | cons q l ih => 
    simp only [List.map_cons, List.sum_cons, Int.natCast_add]
    rw [← ih (preSum_getD _ _ |>.trans (by rw [List.take_of_length_le (by simp)]))]
theorem lenName {prog : Program} {w : World} {A : Around} {E : Value → Shared → Prop} {s : Shared} {env : Env} {x y : Str} {t : Tok} {p p' pos : Pos} {Q : Value → Shared → Prop} {m mg mb : Str → Option Value} (hk : env.scope.kind = .function) (hx : env.kindOf x = some .local) (hn : s.heap.Ns env.locals m) (hm : m x = some (.str y t))
    (hl : env.kindOf "len" = some .globalImplicit) (hg : s.heap.Ns env.globals mg) (hb : s.heap.Ns env.builtins mb) (h1 : mg "len" = none) (h2 : mb "len" = some (.builtin "len")) (hz : y.length ≤ 1000) (hd : (x == ("__debug__" : Str)) = false)
    (q : ∀ t' tk, Q (.int y.length t') { s with toks := tk }) (hs : starEach [.Name x p'] env = [(false, eval (.Name x p') env)] := by rfl) : wpAny (model prog w) A (eval (.Call (.Name "len" p) [.Name x p'] [] pos) env) Q E s := by
  refine Call_name1 hs (Calls.Name_function_global hk hl (Calls.loadGlobal_builtin (mg := mg) (mb := mb) hg h1 hb h2 ?_) (by decide))
  refine callWith_builtin1 (wpAny_Name (wpAny_loadName_local hk hx hn hm ?_) hd)
  exact PyProof.Rows.len_str (by lia) (q _ _)
section
variable {w : World} {mg mb : Str → Option Value} (g : GA w mg mb)
theorem accInst {h : Heap} {X : List Addr} {p d : Addr} {i : Nat} {l : List (Str × Str)} {C : Cx} (o : OR C h X p (.obj 154 d (AccKv i) (some l))) :
    ∃ (vs : List Value) (k : Nat) (t : Tok) (od : Obj), h.get? p = some ⟨.ref 154, some d, .seq vs.toArray k, #[]⟩ ∧ InstAt h p ⟨.ref 154, some d, .seq vs.toArray k, #[]⟩ 154 (some od) ∧ lookIn (Str.ofString "_initial_size") od = some (some (.int i t)) := by
  obtain ⟨⟨vs, k, e, r⟩, hs, tk, ep, u, e2, r2⟩ := o
  refine VR.iv_int r2 ?_; clear r2; intro t e_0; cases e_0
  · exact ⟨vs, k, t, _, e, ⟨e, rfl, rfl, e2⟩, by simp [lookIn, Value.isStr]⟩
theorem accFind (P : Params) {o : Obj} {v : Value} (h : lookIn (Str.ofString "_initial_size") o = some (some v)) : findObj (KA P) 154 (some o) "_initial_size" = some (.value v) := by
  have e : findObj (KA P) 154 (some o) "_initial_size" = (lookIn (Str.ofString "_initial_size") o).bind fun (own : Option Value) => (match own with
    | some v => some (.value v)
    | none => some .missing) := rfl
  rw [e, h]; rfl
include g
theorem biA : BIn (CA w mg mb) := ⟨_, _, g.glo _ _ rfl, by decide, rfl, rfl, rfl, rfl⟩
theorem len_fn {n : Nat} {M : List (Addr × AO)} {p d : Addr} {k : Nat} {l : List (Str × Str)} (hM : (p, AO.obj 154 d (AccKv k) (some l)) ∈ M) (hz : l.length ≤ 1000) (hq : ∀ q ∈ l, q.1.length ≤ 1000 ∧ q.2.length ≤ 1000) :
    FC (CA w mg mb) (n + 1) 121 M [.raw (.ref p)] (fun av M' => av = .int ((k : Int) + pileLen l) ∧ M' = M) := by
  have ok := okA g
  refine fc_plain ok (ab := [("self", .raw (.ref p))]) ⟨⟨_, rfl, rfl⟩, ⟨_, _, _, _, rfl, rfl, rfl, rfl⟩, rfl, rfl, rfl, (fun x c h => by cases h), rfl, rfl, rfl, by decide⟩ (by decide) (bind1 fun _ => rfl) (by intro x hx; simp at hx; subst hx; rfl) ?_
  intro L
  refine EX.cons (E1.ret ?_)
  intro A Y s₀ D s Q ha R q
  refine wpAny_Call_Name_kw ((PE.built (x := "sum") (v := .builtin "sum") (C := CA w mg mb) (n := n) rfl (g.non _ rfl) ((g.mb _ (by decide)).trans rfl) (by decide)) A Y s₀ D s _ ha R fun f s₁ a₁ S₁ p₁ R₁ K₁ r₁ => ?_)
  obtain ⟨rfl, rfl⟩ := p₁
  (refine VR.iv_raw r₁ fun e_0 => ?_; subst e_0)
  refine PyProof.Rows.callWith_builtin1 ?_ rfl rfl
  refine wpAny_items_cons ?_ rfl
  refine gen_obj ok (c := 120) (P := 116) (Fv := fun q v => ∃ t, v = .int (pieceLen q : Nat) t) rfl (by rfl) (by decide) rfl rfl rfl (by decide) rfl ⟨⟨_, _, _, _, _, _, _, _, _, rfl, rfl, rfl, rfl, rfl, rfl, rfl, rfl, rfl⟩, by decide⟩ rfl (List.mem_cons_self ..) (biA g) (accL g) (PE.name rfl) hM ?hel ha R₁ ?hk
  case hel =>
    intro A' E' cs Ca code bn s₂ m₂ q t u hA hq' hns hma hmb hg hb eg eb
    subst eb
    obtain ⟨z1, z2⟩ := hq q hq'
    refine wpAny_BinOp (lenName (m := m₂) (mg := mg) (mb := mb) (y := q.1) (t := t) rfl rfl hns hma rfl hg hb (g.non _ rfl) ((g.mb _ (by decide)).trans rfl) z1 (by decide) fun t1 k1 => ?_)
    refine lenName (m := m₂) (mg := mg) (mb := mb) (y := q.2) (t := u) rfl rfl hns hmb rfl hg hb (g.non _ rfl) ((g.mb _ (by decide)).trans rfl) z2 (by decide) fun t2 k2 => ?_
    exact add_int ⟨⟨_, congrArg (fun z => Value.int z _) (show ((q.1.length : Int) + q.2.length) = ((pieceLen q : Nat) : Int) from (Int.natCast_add _ _).symm)⟩, _, _, rfl, fun _ _ e => e⟩
  case hk =>
    intro a fp wr G St s₅ R₅ K₅ W hst hty hafp hfp hback
    refine wpAny_items_cons ?_ rfl
    show wpAny _ _ (eval (.Attribute (.Name "self" _) "_initial_size" _) _) _ _ _
    rw [arm_eval_Attribute]
    show wpAny _ _ (eval (.Name "self" _) _ >>= _) _ _ _
    obtain ⟨m, hn, hm⟩ := R₅.fr.loc
    obtain ⟨v, e1, rv⟩ := hm "self" (.raw (.ref p)) rfl rfl
    (refine VR.iv_raw rv fun e_0 => ?_; subst e_0)
    refine wpAny_bind (wpAny_Name (wpAny_loadName_local rfl rfl hn e1 ?_) (by decide))
    obtain ⟨vs, kk, tk, od, e2, I, e3⟩ := accInst (R₅.ob _ hM)
    refine wpAny_bind (wpAny_standAt (wpAny_bind (wpAny_holding (oget_value R₅.bs.K (accL g) I rfl rfl (accFind _ e3) rfl ?_))))
    refine wpAny_bind (wpAny_letTemporaryGo (wpAny_pure ?_))
    refine wpAny_items_nil ?_
    have W1 := W.in4_1
    have hst' : St 0 { s₅ with toks := s₅.toks + 1 } := W.frame 0 s₅ _ _ hst (Nat.le_succ _) fun _ _ _ e => e
    refine call_sum2 (W1.self 0 _ _ _ hst' ⟨a, fp, wr, G, l.length, _, St, fun j => ((l.map fun q => ((pieceLen q : Nat) : Int)).getD j 0), rfl, W1, hst', hfp, fun j v h => ?_, fun s' t' hm' => ?_⟩)
    · obtain ⟨q, hq, t, rfl⟩ := h
      exact ⟨t, by simp [List.getD_eq_getElem?_getD, hq]⟩
    · rw [preSum_pile]
      have hm5 : Moved wr G s₅ s' := ⟨hm'.heap, hm'.gens, hm'.drawn, hm'.os, Nat.le_trans (Nat.le_succ _) hm'.toks⟩
      obtain ⟨R6, K6⟩ := hback s' hm5
      exact q _ _ _ _ ⟨rfl, rfl⟩ R6 (K₁.trans K6) (.int ..)
end
end Mine
namespace Mine
theorem callJoin {prog : Program} {w : World} {A : Around} {E : Value → Shared → Prop} {s : Shared} {env : Env} {nm x : Str} {t : Tok} {e : Expr} {p apos pos : Pos} {Q : Value → Shared → Prop} {mg : Str → Option Value} (hk : env.scope.kind = .function) (hn : env.kindOf nm = some .globalImplicit) (hg : s.heap.Ns env.globals mg) (hm : mg nm = some (.str x t))
    (h : wpAny (model prog w) A (eval e env) (fun v s₁ => wpAny (model prog w) A (call (.builtin "str.join") [.str x t, v]) Q E s₁) E s) (hd : (nm == ("__debug__" : Str)) = false)
    (hbase : attributeBase (.Name nm p) "join" env (eval (.Name nm p) env) = eval (.Name nm p) env := by rfl)
    (hfew : ((backTo pos (starEach [e] env)).all (fun x => !x.1) && (backToKw pos (keywordEach [] env)).all (fun x => x.1.isSome) && decide ([e].length + ([] : List Keyword).length + (if ([] : List Keyword).isEmpty then 0 else 1) < 30)) = true := by rfl)
    (hline : (apos.endLine == pos.line) = true := by rfl) (he : starEach [e] env = (false, eval e env) :: starEach [] env := by rfl) :
    wpAny (model prog w) A (eval (.Call (.Attribute (.Name nm p) "join" apos) [e] [] pos) env) Q E s := by
  refine wpAny_Call_method_lateS hbase hfew hline (Calls.Name_function_global hk hn (Calls.loadGlobal_global (mg := mg) hg hm ?_) hd)
  refine ⟨"str", "str.join", PySem.F.plainAttrs_str, PySem.F.slot_str_join, PySem.F.type_str_join, typeIs_str _ _ _, (fun _ e => nomatch e), ?_⟩
  have h' : wpAny (model prog w) A (spliced (backTo pos (starEach [e] env))) (fun vs s' => wpAny (model prog w) A (call (.builtin "str.join") ([.str x t] ++ vs)) Q E s') E s := wpAny_items_cons (wpAny_mono h (fun v s₁ z => wpAny_items_nil z) fun _ _ e => e) he
  rw [he] at h' ⊢
  exact Calls.callWith_builtin rfl (evalArgs_plain h')
section
variable {w : World} {mg mb : Str → Option Value} (g : GA w mg mb)
include g
theorem str_fn {n : Nat} {M : List (Addr × AO)} {p d : Addr} {k : Nat} {l : List (Str × Str)} (hM : (p, AO.obj 154 d (AccKv k) (some l)) ∈ M) (hz : l.length ≤ 1000) (hq : ∀ q ∈ l, q.1.length ≤ 100 ∧ q.2.length ≤ 100) :
    FC (CA w mg mb) (n + 1) 128 M [.raw (.ref p)] (fun av M' => av = .str (pileStr l) ∧ M' = M) := by
  have ok := okA g
  have sl : sizeLine = 16777216 := by decide
  refine fc_plain ok (ab := [("self", .raw (.ref p))]) ⟨⟨_, rfl, rfl⟩, ⟨_, _, _, _, rfl, rfl, rfl, rfl⟩, rfl, rfl, rfl, (fun x c h => by cases h), rfl, rfl, rfl, by decide⟩ (by decide) (bind1 fun _ => rfl) (by intro x hx; simp at hx; subst hx; rfl) ?_
  intro L
  refine EX.cons (E1.ret ?_)
  intro A Y s₀ D s Q ha R q
  refine callJoin (mg := mg) rfl rfl R.bs.g (g.glo _ _ rfl) ?_ (by decide)
  refine gen_obj ok (c := 127) (P := 123) (Fv := fun q v => ∃ t, v = .str (Txt.join "" [q.1, q.2]) t) rfl (by rfl) (by decide) rfl rfl rfl (by decide) rfl ⟨⟨_, _, _, _, _, _, _, _, _, rfl, rfl, rfl, rfl, rfl, rfl, rfl, rfl, rfl⟩, by decide⟩ rfl (List.mem_cons_of_mem _ (List.mem_cons_self ..)) (biA g) (accL g) (PE.name rfl) hM ?hel ha R ?hk
  case hel =>
    intro A' E' cs Ca code bn s₂ m₂ q t u hA hq' hns hma hmb hg hb eg eb
    subst eb
    obtain ⟨z1, z2⟩ := hq q hq'
    refine callJoin (mg := mg) rfl rfl hg (g.glo _ _ rfl) ?_ (by decide)
    refine wpAny_Tuple (wpAny_items_cons (wpAny_Name (wpAny_loadName_local rfl rfl hns hma ?_) (by decide)) rfl)
    refine wpAny_items_cons (wpAny_Name (wpAny_loadName_local rfl rfl hns hmb ?_) (by decide)) rfl
    refine wpAny_items_nil ⟨by simp [sl], ?_⟩
    refine join_tupleW (ys := [q.1, q.2]) ⟨_, Heap.get?_push_size _ rfl, rfl, _, rfl⟩ (.cons _ _ (.cons _ _ .nil)) (by decide) (by simp; lia) fun t' kk => ⟨⟨_, rfl⟩, _, _, rfl, fun _ _ e => Heap.get?_push_of_some _ e⟩
  case hk =>
    intro a fp wr G St s₅ R₅ K₅ W hst hty hafp hfp hback
    refine SC.joinGen W.in4_2 hty hst hfp hafp (fun j v h => ?_) (fun s' ll hm hit => ?_) (by lia)
    · obtain ⟨q, _, t, rfl⟩ := h; exact ⟨_, _, rfl⟩
    · obtain ⟨R6, K6⟩ := hback s' hm
      have hll : ll.map (·.1) = l.map fun q => Txt.join "" [q.1, q.2] := by
        obtain ⟨h1, h2⟩ := hit
        have hlen : ll.length = l.length := by simpa [strValues] using h1
        apply List.ext_getElem?
        intro i
        by_cases hi : i < l.length
        · have hi2 : i < ll.length := by lia
          obtain ⟨q, hq, t, hv⟩ := h2 i (.str ll[i].1 ll[i].2) (by simp [strValues, hi2])
          have e0 := (Value.str.inj hv).1
          have e1 : l[i] = q := by
            rw [List.getElem?_eq_getElem hi] at hq; exact Option.some.inj hq
          rw [List.getElem?_map, List.getElem?_map, List.getElem?_eq_getElem hi, List.getElem?_eq_getElem hi2]
          simp only [Option.map_some, e1, e0]
        · rw [List.getElem?_eq_none (by simp; lia), List.getElem?_eq_none (by simp; lia)]
      refine ⟨?_, fun t' kk => q _ _ _ _ ⟨?_, rfl⟩ (R6.go ok (.toks ..)) (K6.trans (Kp.go R6 (.toks ..))) (.str ..)⟩
      · rw [hll]
        refine joinOk_of_weight ?_ (by decide)
        have hb : ∀ q ∈ l, (Txt.join "" [q.1, q.2]).length ≤ 200 := fun q hq' => by
          obtain ⟨z1, z2⟩ := hq q hq'
          refine Nat.le_trans (StrLaws.join_length_le "" [q.1, q.2]) ?_
          have : ("" : Str).length = 0 := rfl
          simp [this]; lia
        have : ∀ m : List (Str × Str), (∀ q ∈ m, (Txt.join "" [q.1, q.2]).length ≤ 200) → ((m.map fun q => Txt.join "" [q.1, q.2]).map (·.length)).sum ≤ 200 * m.length := fun m => by
          induction m with
          | nil => intro _; simp
          | cons q m ih =>
            intro h
            have h1 := h q (List.mem_cons_self ..)
            have h2 := ih fun q hq => h q (List.mem_cons_of_mem _ hq)
            simp only [List.map_cons, List.sum_cons, List.length_cons] at h2 ⊢
            lia
        have := this l hb
        simp only [List.length_map] at this ⊢
        lia
      · rw [hll]; rfl
end
end Mine
end
section
open PySem PySem.W PySem.Calls PyProof.Rows Builtin
namespace Mine
theorem len_ob {prog : Program} {w : World} {A : Around} {E : Value → Shared → Prop} {s : Shared} {K : Frag} {x c f : Addr} {ox : Obj} {od : Option Obj} {Q : Value → Shared → Prop} (X : K.In s.heap) (I : InstAt s.heap x ox c od) (hs : findIn K (.ref c) "__len__" = some (some (.ref f))) (hf : isFn K (.ref f) = true)
    (h : wpAny (model prog w) A.in1 (call (.ref f) [.ref x]) (W.LenBack Q) E s) : wpAny (model prog w) A (call (.builtin "len") [.ref x]) Q E s := by
  refine Calls.call_function_entry kind_len plain_len entry_len (args_len1 _) ?_
  unfold Builtin.«len»
  refine wpAny_bind (m := oneArg "len" _) (wpAny_pure ?_)
  refine wpAny_bind (m := callSpecial? (.ref x) (Str.ofString "__len__")) (special_fn X I hs (beq_iff_eq.mp hf) (wpAny_mono h (fun r s' hr => ?_) fun _ _ y => y))
  cases r <;> first | exact hr.elim | skip
  rename_i n u
  obtain ⟨⟨h0, h1⟩, hq⟩ := hr
  refine wpAny_bind (wpAny_holding (wpAny_pure ?_))
  refine wpAny_bind (wpAny_letGo ?_)
  show wpAny _ _ (if n < 0 then _ else _) _ _ _
  rw [if_neg (by lia)]
  show wpAny _ _ (if n ≥ 2 ^ 63 then _ else _) _ _ _
  rw [if_neg (by lia)]
  exact wpAny_bind (wpAny_mkInt (wpAny_pure ⟨_, rfl, hq⟩))
theorem pileLen_le {l : List (Str × Str)} (hq : ∀ q ∈ l, q.1.length ≤ 1000 ∧ q.2.length ≤ 1000) : pileLen l ≤ 2000 * l.length := by
  unfold pileLen
  induction l with
  | nil => simp
  | cons q l ih =>
    have h1 := hq q (List.mem_cons_self ..)
    have h2 := ih fun q h => hq q (List.mem_cons_of_mem _ h)
    simp only [List.map_cons, List.sum_cons, List.length_cons, pieceLen] at h2 ⊢
    lia
section
variable {w : World} {mg mb : Str → Option Value} (g : GA w mg mb)
include g
theorem O.len_acc {n : Nat} {env : Env} {S : St} {p d : Addr} {k : Nat} {l : List (Str × Str)} (hM : (p, AO.obj 154 d (AccKv k) (some l)) ∈ S.M) (hz : l.length ≤ 1000) (hq : ∀ q ∈ l, q.1.length ≤ 1000 ∧ q.2.length ≤ 1000) (hk : k ≤ 1000) :
    PN (CA w mg mb) (n + 2) env S (fun vs => call (.builtin "len") vs) [.raw (.ref p)] (.int ((k : Int) + pileLen l)) := fun A Y s₀ D s vs Q ha R r q => by
  refine VRs.el_cons r fun _ _ r rs => ?_
  ·
    refine VRs.el_nil rs ?_; refine VR.el_raw r ?_
    obtain ⟨vs, kk, od, e, I, _⟩ := instOf (R.ob _ hM)
    refine len_ob R.bs.K I (f := 121) rfl rfl ?_
    refine (len_fn g (n := n) hM hz hq).fn env S.μ A.in1 Y s₀ D s [.ref p] _ ha.in1 R (.cons (.raw _) .nil) fun v s' av S' pp R' K' rr => ?_
    obtain ⟨e1, rfl, e3⟩ := pp
    have eS : S' = S := by obtain ⟨μ, M⟩ := S'; cases e1; cases e3; rfl
    subst eS
    refine VR.el_int rr fun t => ?_
    ·
      have := pileLen_le hq
      refine ⟨⟨by lia, by lia⟩, ?_⟩
      exact q _ _ _ _ ⟨rfl, rfl⟩ (R'.go (okA g) (.toks ..)) (K'.trans (Kp.go R' (.toks ..))) (.int ..)
theorem O.str_acc {n : Nat} {env : Env} {S : St} {p d : Addr} {k : Nat} {l : List (Str × Str)} (hM : (p, AO.obj 154 d (AccKv k) (some l)) ∈ S.M) (hz : l.length ≤ 1000) (hq : ∀ q ∈ l, q.1.length ≤ 100 ∧ q.2.length ≤ 100) :
    P1 (CA w mg mb) (n + 3) env S (fun v => call (.type "str") [v]) (.raw (.ref p)) (.str (pileStr l)) := fun A Y s₀ D s v Q ha R r q => by
  refine VR.el_raw r ?_
  obtain ⟨vs, kk, od, e, I, _⟩ := instOf (R.ob _ hM)
  refine kso_call (units_lt ha.in1.in1) R.bs.K I (f := 128) rfl rfl ?_
  refine (str_fn g (n := n) hM hz hq).fn env S.μ A.in1.in1 Y s₀ D s [.ref p] _ ha.in1.in1 R (.cons (.raw _) .nil) fun v s' av S' pp R' K' rr => ?_
  obtain ⟨e1, rfl, e3⟩ := pp
  have eS : S' = S := by obtain ⟨μ, M⟩ := S'; cases e1; cases e3; rfl
  subst eS
  refine VR.el_str rr fun t => ?_
  · exact q _ _ _ _ ⟨rfl, rfl⟩ R' K' (.str ..)
end
end Mine
end
section
open PySem PySem.W PySem.Calls PyProof.Rows
set_option tactic.hygienic false
namespace Mine
theorem mem_cellsFrom : ∀ {names : List (Str × NameKind)} {n : Nat} {acc : List (Str × Addr)} {p : Str × Addr}, p ∈ cellsFrom n names acc → p ∈ acc ∨ (p.1, NameKind.cell) ∈ names
  | [], _, _, _, h => .inl h
  | (name, kind) :: r, n, acc, p, h => by
    unfold cellsFrom at h
    split at h
    · rename_i hk
      have ek : kind = .cell := by simpa using hk
      subst ek
      rcases mem_cellsFrom h with z | z
      · rcases List.mem_cons.mp z with z | z
        · subst z; exact .inr (List.mem_cons_self ..)
        · exact .inl z
      · exact .inr (List.mem_cons_of_mem _ z)
    · rcases mem_cellsFrom h with z | z
      · exact .inl z
      · exact .inr (List.mem_cons_of_mem _ z)
theorem keys_cellsFrom : ∀ {names : List (Str × NameKind)} {n : Nat} {acc : List (Str × Addr)}, (cellsFrom n names acc).map (·.1) = ((names.filter (·.2 == .cell)).map (·.1)).reverse ++ acc.map (·.1)
  | [], _, _ => rfl
  | (name, kind) :: r, n, acc => by
    unfold cellsFrom
    by_cases hk : (kind == NameKind.cell) = true
    · rw [if_pos hk, keys_cellsFrom, List.filter_cons_of_pos (by exact hk)]; simp
    · rw [if_neg hk, keys_cellsFrom, List.filter_cons_of_neg (by exact hk)]
theorem lookup_of_mem : ∀ {l : List (Str × Addr)}, (l.map (·.1)).Nodup → ∀ {p : Str × Addr}, p ∈ l → l.lookup p.1 = some p.2
  | [], _, _, h => nomatch h
  | (k, v) :: r, nd, p, h => by
    simp only [List.map_cons, List.nodup_cons] at nd
    rcases List.mem_cons.mp h with e | h
    · subst e; simp [List.lookup]
    · have hne : (p.1 == k) = false := beq_eq_false_iff_ne.mpr fun e => nd.1 (e ▸ List.mem_map.mpr ⟨p, h, rfl⟩)
      simp only [List.lookup, hne]
      exact lookup_of_mem nd.2 h
theorem bindL_local {kindOf : Str → Option NameKind} : ∀ {bs : List (Str × Value)} {m : Str → Option Value}, (∀ x ∈ bs, kindOf x.1 = some .local) → ∀ x, bindL kindOf bs m x = (bs.reverse.lookup x).or (m x)
  | [], m, _, x => rfl
  | (n, v) :: r, m, h, x => by
    unfold bindL
    rw [if_pos (h (n, v) (List.mem_cons_self ..)), bindL_local (fun y hy => h y (List.mem_cons_of_mem _ hy))]
    simp only [List.reverse_cons, List.lookup_append]
    cases r.reverse.lookup x with
    | some u => rfl
    | none =>
      simp only [Option.none_or, List.lookup]
      by_cases hx : x = n
      · subst hx; simp
      · have : (x == n) = false := beq_eq_false_iff_ne.mpr hx
        simp [this, hx]
theorem fc_cells {C : Cx} (ok : C.Ok) {n : Nat} {f : Addr} {fd : FuncData} {body : List Stmt} {M : List (Addr × AO)} {args : List AV} {ab : List (Str × AV)} {P : AV → List (Addr × AO) → Prop} (F : FnOk C f fd body)
    (hcell : ∀ x ∈ fd.scope.names, x.2 = .cell → fd.scope.names.lookup x.1 = some .cell) (hnd : ((fd.scope.names.filter (·.2 == .cell)).map (·.1)).Nodup) (hclo : fd.closure = [])
    (hbind : ∀ vs, vs.length = args.length → ∃ bs, bindArgs fd ⟨vs, []⟩ = pure bs ∧ ∀ h X, VRs h X vs args → PRs h X bs ab)
    (hloc : ∀ x ∈ ab.map (·.1), fd.scope.names.lookup x = some .local)
    (h : ∀ L, EX C n (callEnvC fd L f) ⟨ab.reverse, M⟩ body (Out P)) : FC C (n + 1) f M args P := by
  intro env μ A Y s₀ D s vs Q ha R rv q
  obtain ⟨o, ho, hd⟩ := F.obj
  obtain ⟨c, oc, cvs, t, e1, e2, e3, e4⟩ := F.code
  obtain ⟨bs, hb, rb'⟩ := hbind vs rv.length
  have rb := rb' _ _ rv
  have hlocB : ∀ x ∈ bs, fd.scope.names.lookup x.1 = some .local := fun x hx => hloc _ (by rw [← rb.keys]; exact List.mem_map.mpr ⟨x, hx, rfl⟩)
  refine (codeAny_call_cells (binds := bs) (by have := ha.depth; show A.depth < 1000; lia) (R.bs.K _ _ ho) hd R.bs.lim ⟨c, oc, cvs, t, e1, R.bs.K _ _ e2, e3, e4⟩ F.body hb hclo
    (fun x hx => .inl (hlocB x hx)) (fun s₁ X => ?_) F.co F.gen F.kind)
  obtain ⟨h₁, tk, es⟩ := X.toInCall.same
  have x : SStp C.T [] s s₁ := by subst es; exact ⟨.of_keeps X.toInCall.keep, rfl, rfl, id⟩
  have cellMem : ∀ p ∈ (callEnvC fd s.heap.objs.size f).cells, (p.1, NameKind.cell) ∈ fd.scope.names := fun p hp => by
    rcases mem_cellsFrom (show p ∈ cellsFrom (s.heap.objs.size + 1) fd.scope.names [] from hp) with z | z
    · cases z
    · exact z
  have cellKind : ∀ p ∈ (callEnvC fd s.heap.objs.size f).cells, (callEnvC fd s.heap.objs.size f).kindOf p.1 = some .cell := fun p hp => hcell _ (cellMem p hp) rfl
  have efa : fa (callEnvC fd s.heap.objs.size f) = s.heap.objs.size :: (callEnvC fd s.heap.objs.size f).cells.map (·.2) := by
    have : (callEnvC fd s.heap.objs.size f).cells.filter (fun p => (callEnvC fd s.heap.objs.size f).kindOf p.1 == some .cell && (callEnvC fd s.heap.objs.size f).func.isSome) = (callEnvC fd s.heap.objs.size f).cells := by
      rw [List.filter_eq_self]
      intro p hp
      rw [cellKind p hp]; rfl
    unfold fa; rw [this]; rfl
  have memC : ∀ b, b ∈ (callEnvC fd s.heap.objs.size f).cells.map (·.2) → ∃ nm, (nm, b) ∈ (callEnvC fd s.heap.objs.size f).cells := fun b hb => by
    obtain ⟨p, hp, rfl⟩ := List.mem_map.mp hb
    exact ⟨p.1, hp⟩
  have dead : ∀ b, s.heap.objs.size ≤ b → s.heap.get? b = none := fun b hb => by
    cases e : s.heap.get? b with
    | none => rfl
    | some o => exact absurd (Heap.lt_size e) (Nat.not_lt.mpr hb)
  have hf : ∀ b ∈ fa (callEnvC fd s.heap.objs.size f), s.heap.get? b = none := fun b hb => by
    rw [efa] at hb
    rcases List.mem_cons.mp hb with rfl | hb
    · exact new_none _
    · obtain ⟨nm, hm⟩ := memC b hb
      exact dead b (Nat.le_of_lt (X.above nm b hm))
  have lookC : ∀ p ∈ (callEnvC fd s.heap.objs.size f).cells, ∃ c', (callEnvC fd s.heap.objs.size f).cells.lookup p.1 = some c' := fun p hp => by
    cases e : (callEnvC fd s.heap.objs.size f).cells.lookup p.1 with
    | some c' => exact ⟨c', rfl⟩
    | none => rw [List.lookup_eq_none_iff] at e; exact absurd (e p hp) (by simp)
  have R₁ : Rel C (fa env ++ Y) s (feet M) (callEnvC fd s.heap.objs.size f) ⟨ab.reverse, M⟩ s₁ := by
    refine R.enter (S := ⟨μ, M⟩) ok x hf (fun b hb => ?_) ?_ ⟨F.kind, F.glob, F.buil, fun y ky => F.more (y, .free) (mem_of_lookup ky) rfl⟩ ⟨⟨_, X.toInCall.ns, fun y av e k => ?_⟩, fun y av e k => ?_, fun y c k e => ⟨_, X.cell y c e⟩, fun y av e => ?_⟩ (fun y c k e => ?_)
    · rw [efa] at hb
      rcases List.mem_cons.mp hb with rfl | hb
      · obtain ⟨o, _, _, q, _⟩ := X.toInCall.ns; exact ⟨o, q⟩
      · obtain ⟨nm, hm⟩ := memC b hb
        have nd : ((callEnvC fd s.heap.objs.size f).cells.map (·.1)).Nodup := by
          show ((cellsFrom (s.heap.objs.size + 1) fd.scope.names []).map (·.1)).Nodup
          rw [keys_cellsFrom, List.map_nil, List.append_nil]; exact List.pairwise_reverse.mpr (hnd.imp fun h => h.symm)
        obtain ⟨o, e, _⟩ := X.cell nm b (lookup_of_mem nd hm)
        exact ⟨o, e⟩
    · rw [efa, List.nodup_cons]
      refine ⟨fun h => ?_, ?_⟩
      · obtain ⟨nm, hm⟩ := memC _ h
        exact Nat.lt_irrefl _ (X.above nm _ hm)
      · exact List.pairwise_map.mpr X.apart
    · obtain ⟨v, e1, r⟩ := rb.rev.look e
      refine ⟨v, ?_, (r.sub (enterX hf)).stp x.heap (fun _ h => nomatch h) (fun a h => List.mem_append_left _ h)⟩
      rw [bindL_local hlocB, e1]; rfl
    · exfalso
      have hm : y ∈ ab.map (·.1) := List.mem_map.mpr ⟨(y, av), List.mem_reverse.mp (mem_of_lookup e), rfl⟩
      have kl : (callEnvC fd s.heap.objs.size f).kindOf y = some .local := hloc y hm
      rw [kl] at k; rcases k with k | k <;> cases k
    · exact .inl (hloc y (List.mem_map.mpr ⟨(y, av), List.mem_reverse.mp (mem_of_lookup e), rfl⟩))
    · exfalso
      have hk := cellKind _ (mem_of_lookup e)
      rcases k with k | k
      · rw [hk] at k; cases k
      · have : (callEnvC fd s.heap.objs.size f).func.isSome = true := rfl
        rw [this] at k; cases k.2
  refine wpAny_mono (h s.heap.objs.size (A.deeper (callEnvC fd s.heap.objs.size f)) _ _ _ _ (fun fl s' => Q (.ok (.ret (match fl with | .ret v => v | _ => .none))) s') (ha.deeper _) R₁ fun r s' b S' p R' K' rr => ?_) (fun fl s' z => ?_) fun _ _ e => e.elim
  · obtain ⟨Ra, Ka, Va⟩ := R.leave (S := ⟨μ, M⟩) ok R'
    cases rr with
    | next => exact q _ _ _ ⟨μ, S'.M⟩ ⟨rfl, p⟩ Ra Ka .none
    | brk => exact q _ _ _ ⟨μ, S'.M⟩ ⟨rfl, p⟩ Ra Ka .none
    | cont => exact q _ _ _ ⟨μ, S'.M⟩ ⟨rfl, p⟩ Ra Ka .none
    | ret r => exact q _ _ _ ⟨μ, S'.M⟩ ⟨rfl, p⟩ Ra Ka (Va _ _ r)
  · cases fl <;> exact z
end Mine
namespace Mine
structure DK (C : Cx) (K : Type) [DecidableEq K] where
  knd : KeyKind C.prog C.w K
  ob : List (K × AV) → AO
  av : K → AV
  more : ∀ l, (ob l).more = []
  to : ∀ {h X a l}, OR C h X a (ob l) → ∃ kvs, h.DictOf knd a kvs ∧ PRs h X kvs l
  of : ∀ {h X a l kvs}, h.DictOf knd a kvs → PRs h X kvs l → OR C h X a (ob l)
  is : ∀ {h X v k}, VR h X v (av k) → knd.is k v = true
noncomputable def sK (C : Cx) : DK C Str := ⟨PySem.strKind C.prog C.w, .sdict, .str, fun _ => rfl, fun x => x, fun a b => ⟨_, a, b⟩, fun r => by refine VR.el_str r fun _ => ?_; exact strKind_is _ _ _ _⟩
noncomputable def iK (C : Cx) : DK C Int := ⟨PySem.intKind C.prog C.w, .idict, .int, fun _ => rfl, fun x => x, fun a b => ⟨_, a, b⟩, fun r => by refine VR.el_int r fun _ => ?_; exact intKind_is _ _ _ _⟩
section
variable {C : Cx} (ok : C.Ok) {n : Nat} {env : Env} {S : St} {K : Type} [DecidableEq K] (k : DK C K)
theorem dk_foot {a : Addr} {l : List (K × AV)} : foot (a, k.ob l) = [a] := by unfold foot; rw [k.more]
theorem dkMem {a : Addr} {l : List (K × AV)} {M : List (Addr × AO)} (hM : (a, k.ob l) ∈ M) : a ∈ feet M := mem_feet hM (by rw [dk_foot k]; exact List.mem_cons_self ..)
include ok
omit ok in
theorem dkTn {Y D : List Addr} {s₀ s : Shared} (R : Rel C Y s₀ D env S s) {a : Addr} {l : List (K × AV)} (hM : (a, k.ob l) ∈ S.M) : a ∉ C.T := R.tn (List.mem_append_right _ (List.mem_append_left _ (dkMem k hM)))
omit ok in
theorem dkSys {Y D : List Addr} {s₀ s : Shared} (hsm : C.Old sysModules) (R : Rel C Y s₀ D env S s) {a : Addr} {l : List (K × AV)} (hM : (a, k.ob l) ∈ S.M) : (a == sysModules) = false :=
  beq_eq_false_iff_ne.mpr fun e => (R.hi a (List.mem_append_right _ (List.mem_append_left _ (dkMem k hM)))).1 (e ▸ hsm)
theorem Rel.setDict {Y D : List Addr} {s₀ s s' : Shared} (R : Rel C Y s₀ D env S s) {i : Nat} {a : Addr} {l : List (K × AV)} (hM : S.M[i]? = some (a, k.ob l)) {x : K} {v : Value} {av : AV} (rv : VR s.heap (Xo C Y env S) v av) {kvs : List (K × Value)} (hr : PRs s.heap (Xo C Y env S) kvs l)
    (e : s'.heap.DictOf k.knd a (PySem.stored kvs x v)) (st : SStp C.T [a] s s') : Rel C Y s₀ D env ⟨S.μ, S.M.set i (a, k.ob (aset l x av))⟩ s' ∧ Kp C Y env S s ⟨S.μ, S.M.set i (a, k.ob (aset l x av))⟩ s' := by
  have hl := R.inX (List.mem_append_right _ (dkMem k (mem_of_get? hM)))
  have lv : Live s'.heap a := by obtain ⟨o, es, ep, ho, _⟩ := e; exact ⟨o, ho⟩
  exact R.setObj ok hM ((k.more _).trans (k.more _).symm) (by rw [dk_foot k]; exact List.mem_cons_self ..) st lv (k.of e ((hr.stored rv).stp st.heap hl R.hT))
theorem E1_dset {o ix value : Expr} {pos' pos : Pos} {P : AF → St → Prop} (hv : EV C n env S value fun av S₁ => ∃ i a l x, S₁.M[i]? = some (a, k.ob l) ∧ l.length ≤ 1000 ∧ PE C n env S₁ o (.raw (.ref a)) ∧ PE C n env S₁ ix (k.av x) ∧ P .next ⟨S₁.μ, S₁.M.set i (a, k.ob (aset l x av))⟩)
    (hs : swapsWith value (some (.Subscript o ix pos')) pos.line env = pure false := by rfl) : E1 C n env S (.Assign [.Subscript o ix pos'] value pos) P := fun A Y s₀ D s Q ha R q => by
  have sl : sizeLine = 16777216 := by decide
  refine wpAny_Assign_Subscript (hs := hs) (hv A Y s₀ D s _ ha R fun v s₁ av S₁ p₁ R₁ K₁ r₁ => ?_)
  obtain ⟨i, a, l, x, hM, hz, ho, hi, h⟩ := p₁
  refine ho A Y s₀ D s₁ _ ha R₁ fun v s₂ a₂ S₂ p₂ R₂ K₂ r₂ => ?_
  obtain ⟨rfl, rfl⟩ := p₂
  refine VR.el_raw r₂ ?_
  refine hi A Y s₀ D s₂ _ ha R₂ fun v s₃ a₃ S₃ p₃ R₃ K₃ r₃ => ?_
  obtain ⟨rfl, rfl⟩ := p₃
  obtain ⟨kvs, e, rs⟩ := k.to (R₃.ob _ (mem_of_get? hM))
  refine wpAny_setItem_pairs (k.is r₃) e (fun h' e' hb => ?_) (by rw [rs.length]; lia)
  have st : SStp C.T [a] s₃ { s₃ with heap := h', toks := s₃.toks + 1 } := ⟨.sameBut hb (dkTn k R₃ (mem_of_get? hM)), rfl, rfl, id⟩
  obtain ⟨R₄, K₄⟩ := Rel.setDict ok k R₃ hM (K₃ _ _ (K₂ _ _ r₁)) rs (s' := { s₃ with heap := h', toks := s₃.toks + 1 }) e' st
  exact q _ _ _ _ h R₄ (((K₁.trans K₂).trans K₃).trans K₄) .next
theorem O.din {a : Addr} {l : List (K × AV)} {x : K} (hsm : C.Old sysModules) (hM : (a, k.ob l) ∈ S.M) : P2 C n env S (compareOp .In) (k.av x) (.raw (.ref a)) (.bool (aget l x).isSome) := fun A Y s₀ D s v v' Q ha R r r' q => by
  refine VR.el_raw r' ?_
  obtain ⟨kvs, e, rs⟩ := k.to (R.ob _ hM)
  refine wpAny_in_of (k.is r) (dkSys k hsm R hM) e.mapOf ?_
  have e2 : (valueAt kvs x).isSome = (aget l x).isSome := by
    cases h : aget l x with
    | none => rw [rs.none h]; rfl
    | some c => obtain ⟨w, e1, _⟩ := rs.at h; rw [e1]; rfl
  rw [e2]
  exact pureM ok R q _ _ (.toks ..) (.bool _)
theorem O.dnotin {a : Addr} {l : List (K × AV)} {x : K} (hsm : C.Old sysModules) (hM : (a, k.ob l) ∈ S.M) : P2 C n env S (compareOp .NotIn) (k.av x) (.raw (.ref a)) (.bool (!(aget l x).isSome)) := fun A Y s₀ D s v v' Q ha R r r' q => by
  refine VR.el_raw r' ?_
  obtain ⟨kvs, e, rs⟩ := k.to (R.ob _ hM)
  refine wpAny_notIn_of (k.is r) (dkSys k hsm R hM) e.mapOf ?_
  have e2 : (valueAt kvs x).isSome = (aget l x).isSome := by
    cases h : aget l x with
    | none => rw [rs.none h]; rfl
    | some c => obtain ⟨w, e1, _⟩ := rs.at h; rw [e1]; rfl
  rw [e2]
  exact pureM ok R q _ _ (.toks ..) (.bool _)
theorem O.dsub {value slice : Expr} {a : Addr} {l : List (K × AV)} {x : K} {c : AV} (hM : (a, k.ob l) ∈ S.M) (hk : aget l x = some c)
    (hs : ∀ t u, k.knd.is x u = true → subscripted slice false (.ref t) u = operate [.ref t, u] (getItem (.ref t) u)) : P2 C n env S (subscriptTail value slice) (.raw (.ref a)) (k.av x) c :=
  fun A Y s₀ D s v v' Q ha R r r' q => by
    refine VR.el_raw r ?_
    obtain ⟨kvs, e, rs⟩ := k.to (R.ob _ hM)
    obtain ⟨y, hx, rx⟩ := rs.at hk
    exact tail_any e.typeIs F.slot_dict_getitem.lookup (wpAny_getItem_of (k.is r') e.mapOf hx (pureM ok R q _ _ (.toks ..) rx)) (hs _ _ (k.is r'))
theorem O.dget {a : Addr} {l : List (K × AV)} {x : K} {y : AV} (hsm : C.Old sysModules) (hM : (a, k.ob l) ∈ S.M) : PN C n env S (fun vs => call (.builtin "dict.get") (.ref a :: vs)) [k.av x, y] ((aget l x).getD y) := fun A Y s₀ D s vs Q ha R r q => by
  refine VRs.el_cons r fun v0 _ r rs => ?_
  ·
    refine VRs.el_cons rs fun v1 _ r1 rs => ?_
    ·
      refine VRs.el_nil rs ?_
      obtain ⟨kvs, e, rk⟩ := k.to (R.ob _ hM)
      refine call_meetsIn PySem.F.slot_dict_get e.typeIs PySem.F.entry_dict_get (PySem.F.args_dict_get_3 _ _ _) (meets_dict_get_default k.knd a (k.is r) (dkSys k hsm R hM) v1) ⟨_, e.mapOf, ?_⟩
      refine pureM ok R q _ _ (.toks ..) ?_
      cases h : aget l x with
      | none => rw [rk.none h]; exact r1
      | some c => obtain ⟨w, e1, rw_⟩ := rk.at h; rw [e1]; exact rw_
theorem Rel.newDict {Y D : List Addr} {s₀ s s' : Shared} (R : Rel C Y s₀ D env S s) {a : Addr} {l : List (K × AV)} {kvs : List (K × Value)} (hd : s.heap.get? a = none) (e : s'.heap.DictOf k.knd a kvs) (st : SStp C.T [] s s') (hr : PRs s.heap (Xo C Y env S) kvs l) :
    Rel C Y s₀ D env ⟨S.μ, S.M ++ [(a, k.ob l)]⟩ s' ∧ Kp C Y env S s ⟨S.μ, S.M ++ [(a, k.ob l)]⟩ s' := by
  have lv : Live s'.heap a := by obtain ⟨o, es, ep, ho, _⟩ := e; exact ⟨o, ho⟩
  refine R.newObj ok (fun b hb => ?_) (by rw [dk_foot k]; simp) st (k.of e ?_)
  · rw [dk_foot k] at hb
    have : b = a := by simpa using hb
    subst this; exact ⟨hd, lv⟩
  · refine PRs.stp st.heap (fun _ h => nomatch h) (fun b h => List.mem_append_left _ h) (hr.sub fun b o eb nb h3 => ?_)
    replace h3 : b ∈ Xo C Y env ⟨S.μ, S.M ++ [(a, k.ob l)]⟩ := h3
    rw [mem_Xo] at nb h3
    have ef : feet (S.M ++ [(a, k.ob l)]) = feet S.M ++ [a] := by rw [feet_snoc, dk_foot k]
    simp only [ef, List.mem_append, List.mem_singleton] at nb h3
    rcases h3 with h | (h | h | h) | h
    · exact nb (.inl h)
    · exact nb (.inr (.inl (.inl h)))
    · exact nb (.inr (.inl (.inr h)))
    · subst h; rw [hd] at eb; cases eb
    · exact nb (.inr (.inr h))
theorem EV.dict0 {pos : Pos} {P : AV → St → Prop} (h : ∀ a, P (.raw (.ref a)) ⟨S.μ, S.M ++ [(a, k.ob [])]⟩) : EV C n env S (.Dict [] [] pos) P := fun A Y s₀ D s Q ha R q => by
  refine wpAny_Dict_empty ?_
  obtain ⟨R', K'⟩ := Rel.newDict ok k R (a := s.heap.objs.size) (l := []) (kvs := []) (new_none _) (s' := { s with heap := s.heap.push { cls := .type "dict", data := .dict #[] } }) (Heap.DictOf.new s.heap) (.alloc ..) .nil
  exact q _ _ _ _ (h _) R' K' (.raw _)
end
end Mine
namespace Mine
inductive CRs : List (Value × Value) → List (Str × Str) → Prop
  | nil : CRs [] []
  | cons {k v : Str} {t u : Tok} {vs : List (Value × Value)} {l : List (Str × Str)} : CRs vs l → CRs ((.str k t, .str v u) :: vs) ((k, v) :: l)
noncomputable def CPs (C : Cx) (pairs : List (Sem Value × Sem Value)) (l : List (Str × Str)) : Prop := ∀ A s (Q : List (Value × Value) → Shared → Prop), (∀ vs tk, CRs vs l → Q vs { s with toks := tk }) → wpAny (model C.prog C.w) A (evalPairs pairs) Q No s
noncomputable def strOf : Value → Str
  | .str x _ => x
  | _ => Str.empty
section
variable {C : Cx} (ok : C.Ok) {n : Nat} {env : Env} {S : St}
theorem CPs.nil : CPs C [] [] := fun A s Q h => evalPairs_nil (h [] s.toks .nil)
theorem CPs.cons {k v : Str} {k0 k1 : Nat} {p0 p1 pos : Pos} {rest : List (Sem Value × Sem Value)} {l : List (Str × Str)} (h : CPs C rest l) :
    CPs C ((eval (.Constant (.str k) k0 p0) env, do let x ← eval (.Constant (.str v) k1 p1) env; standAt pos; pure x) :: rest) ((k, v) :: l) := fun A s Q q =>
  evalPairs_cons (wpAny_Constant_str (wpAny_bind (wpAny_Constant_str (wpAny_bind (wpAny_standAt (wpAny_pure (h A _ _ fun vs tk r => q _ tk (.cons r))))))))
noncomputable def aints (l : List (Str × Str)) : List (Str × AV) := l.foldl (fun acc p => aset acc p.1 (.str p.2)) []
theorem carries_of {h : Heap} {X : List Addr} : ∀ {vs : List (Value × Value)} {l : List (Str × Str)}, CRs vs l → ∃ kvs, Carries (PySem.strKind C.prog C.w) vs kvs ∧ ∀ acc (acc' : List (Str × AV)), PRs h X acc acc' → PRs h X (merged acc kvs) (l.foldl (fun acc p => aset acc p.1 (.str p.2)) acc')
  | _, _, .nil => ⟨[], trivial, fun acc acc' r => by simpa [merged] using r⟩
  | _, _, .cons (k := k) (v := v) (u := u) r => by
    obtain ⟨kvs, h1, h2⟩ := carries_of r
    exact ⟨(k, .str v u) :: kvs, ⟨strKind_is _ _ _ _, rfl, h1⟩, fun acc acc' ra => by simpa [merged] using h2 _ _ (ra.stored (.str v u))⟩
include ok
theorem EV.dictC {keys : List (Option Expr)} {values : List Expr} {pos : Pos} {pairs : List (Sem Value × Sem Value)} {l : List (Str × Str)} {P : AV → St → Prop}
    (hshape : (evalEachOpt keys env).zip ((evalEach values env).map fun v => do let x ← v; standAt pos; pure x) = pairs.map fun p => (some p.1, p.2)) (h0 : pairs ≠ []) (hlen : pairs.length ≤ 15) (hp : CPs C pairs l)
    (h : ∀ a, P (.raw (.ref a)) ⟨S.μ, S.M ++ [(a, .sdict (aints l))]⟩) : EV C n env S (.Dict keys values pos) P := fun A Y s₀ D s Q ha R q => by
  refine wpAny_Dict_pairs (knd := PySem.strKind C.prog C.w) hshape h0 hlen (hp A _ _ fun vs tk r => ?_)
  obtain ⟨kvs, h1, h2⟩ := carries_of (C := C) (h := s.heap) (X := Xo C Y env S) r
  refine ⟨kvs, h1, Heap.DictOf.new s.heap, fun h' e hb => ?_⟩
  have st : SStp C.T [] s { s with heap := h', toks := tk + vs.length } := ⟨.of_keeps fun a o e => hb.extBut a o (Nat.ne_of_lt (Heap.lt_size e)) (Heap.get?_push_of_some _ e), rfl, rfl, id⟩
  obtain ⟨R', K'⟩ := Rel.newDict ok (sK C) R (a := s.heap.objs.size) (new_none _) (s' := { s with heap := h', toks := tk + vs.length }) e st (h2 [] [] .nil)
  exact q _ _ _ _ (h _) R' K' (.raw _)
inductive ConstKV : List (Option Expr) → List Expr → List (Str × Str) → Prop
  | nil : ConstKV [] [] []
  | cons {k v : Str} {k0 k1 : Nat} {p0 p1 : Pos} {ks : List (Option Expr)} {vs : List Expr} {l : List (Str × Str)} : ConstKV ks vs l → ConstKV (some (.Constant (.str k) k0 p0) :: ks) (.Constant (.str v) k1 p1 :: vs) ((k, v) :: l)
omit ok in
theorem ConstKV.pairs {pos : Pos} : ∀ {keys : List (Option Expr)} {values : List Expr} {l : List (Str × Str)}, ConstKV keys values l → ∃ pairs, (evalEachOpt keys env).zip ((evalEach values env).map fun v => do let x ← v; standAt pos; pure x) = pairs.map (fun p => (some p.1, p.2)) ∧ pairs.length = l.length ∧ CPs C pairs l
  | _, _, _, .nil => ⟨[], rfl, rfl, CPs.nil⟩
  | _, _, _, .cons (k0 := k0) (k1 := k1) (p0 := p0) (p1 := p1) (k := k) (v := v) r => by
    obtain ⟨pairs, h1, h2, h3⟩ := r.pairs (pos := pos)
    refine ⟨(eval (.Constant (.str k) k0 p0) env, do let x ← eval (.Constant (.str v) k1 p1) env; standAt pos; pure x) :: pairs, ?_, by simp [h2], h3.cons⟩
    rw [List.map_cons, ← h1]; rfl
theorem EV.dictK {keys : List (Option Expr)} {values : List Expr} {pos : Pos} {l : List (Str × Str)} {P : AV → St → Prop} (hk : ConstKV keys values l) (h0 : (l.length == 0) = false) (hlen : l.length ≤ 15)
    (h : ∀ a, P (.raw (.ref a)) ⟨S.μ, S.M ++ [(a, .sdict (aints l))]⟩) : EV C n env S (.Dict keys values pos) P := by
  obtain ⟨pairs, h1, h2, h3⟩ := hk.pairs (C := C) (env := env) (pos := pos)
  exact EV.dictC ok h1 (fun e => by rw [e] at h2; rw [← h2] at h0; simp at h0) (by lia) h3 h
omit ok in
theorem stored_prs {h : Heap} {X : List Addr} {look : Str → Str} {vs : List Value} {kvs : List (Str × Value)} (S : StoredAll (fun v k => ∃ t, v = .str k t) (fun v y => ∃ c t u, v = .str c t ∧ y = .str (look c) u) vs kvs) :
    PRs h X kvs ((vs.map strOf).foldl (fun acc c => aset acc c (.str (look c))) []) := by
  induction S with
  | nil => exact .nil
  | snoc _ hk hv ih =>
    obtain ⟨t, rfl⟩ := hk
    obtain ⟨c, t', u, e, rfl⟩ := hv
    cases e
    rw [List.map_append, List.foldl_append]
    exact ih.stored (.str _ _)
theorem EV.dcompS {iter : Expr} {x d : Str} {px p1 p2 p3 ps pos : Pos} {scope : Scope} {txt : Str} {a : Addr} {l : List (Str × AV)} {look : Str → Str} {P : AV → St → Prop}
    (hok : compOk scope env = true) (hcell : ∀ y ∈ scope.names, y.2 ≠ .cell) (hkind : scope.kind = .function) (hnames : ∀ y ∈ scope.names, y.2 = .local → scope.names.lookup y.1 = some .local) (hx : scope.names.lookup x = some .local)
    (hd : ∀ L, (CEnv scope env L).kindOf d = some .cell ∨ (CEnv scope env L).kindOf d = some .free) (hdc : ∀ L, (CEnv scope env L).cells.lookup d = env.cells.lookup d) (hdk : env.kindOf d = some .cell) (hx1 : (x == ("__debug__" : Str)) = false) (hd1 : (d == ("__debug__" : Str)) = false) (hd2 : (d == ("__classdict__" : Str)) = false)
    (hit : PE C n env S iter (.str txt)) (hS : S.μ.lookup d = some (.raw (.ref a))) (hM : (a, AO.sdict l) ∈ S.M) (hl : ∀ c ∈ txt.cps.toList, aget l ⟨#[c]⟩ = some (.str (look ⟨#[c]⟩))) (hz : txt.length ≤ 1000)
    (h : ∀ b, P (.raw (.ref b)) ⟨S.μ, S.M ++ [(b, .sdict ((txt.cps.toList.map fun c => (⟨#[c]⟩ : Str)).foldl (fun acc c => aset acc c (.str (look c))) []))]⟩)
    (hs : ∀ x, foldedSetIterable iter env x = pure x := by intro _; rfl)
    (hsub : ∀ t c u, subscripted (.Name x p3) false (.ref t) (.str c u) = operate [.ref t, .str c u] (getItem (.ref t) (.str c u)) := by intros; with_unfolding_all rfl) :
    EV C n env S (.DictComp (.Name x p1) (.Subscript (.Name d p2) (.Name x p3) ps) [⟨.Name x px, iter, [], 0⟩] scope pos) P := fun A Y s₀ D s Q ha R q => by
  have sl : sizeLine = 16777216 := by decide
  refine wpAny_DictComp_free (PySem.strKind C.prog C.w) (fun _ => true) (fun v k => ∃ t, v = .str k t) (fun v y => ∃ c t u, v = .str c t ∧ y = .str (look c) u) (closure_of hok) hcell hkind hnames hx (hit A Y s₀ D s _ ha R fun v s₁ a₁ S₁ p₁ R₁ K₁ r₁ => ?_) hs
  obtain ⟨rfl, rfl⟩ := p₁
  refine Iter.str ok A Y s₀ D s₁ v _ ha R₁ r₁ fun I fp wr PI St s₂ x₂ W hst hfp hw lw hP go => ?_
  have nw : ∀ {b o}, s₁.heap.get? b = some o → b ∉ wr := fun e hb => by rw [hw _ hb] at e; cases e
  obtain ⟨cc, cv, e1, ⟨co, hco, hcd⟩, rcv⟩ := R₁.fr.cel d _ hS (.inl hdk)
  (refine VR.iv_raw rcv fun e_0 => ?_; subst e_0)
  obtain ⟨kvs0, ed, rd⟩ := R₁.ob _ hM
  have ccT : cc ∉ C.T := by
    intro hc
    rcases ownLent (.inl hdk) with k | k
    · exact R₁.tn (List.mem_append_left _ (mem_fa_cell k e1)) hc
    · exact R₁.freeT ok k e1 hc
  have aT : a ∉ C.T := R₁.tn (List.mem_append_right _ (List.mem_append_left _ (mem_feet hM (List.mem_cons_self ..))))
  have chr : ∀ i v, PI i v → ∃ c t, txt.cps.toList[i]? = some c ∧ v = .str ⟨#[c]⟩ t := fun i v hv => by
    obtain ⟨av, h1, h2⟩ := hP i v hv
    unfold chars at h1
    rw [List.getElem?_map] at h1
    obtain ⟨c, hc, rfl⟩ := Option.map_eq_some_iff.mp h1
    refine VR.iv_str h2 ?_; clear h2; intro t e_0; cases e_0
    · exact ⟨c, t, hc, rfl⟩
  refine ⟨I, fp, wr, _, PI, St, rfl, W, by simp [chars]; have : txt.cps.size = txt.length := rfl; lia, hst, fun b hb => (hfp b hb).2.2.lt, ⟨fun Ca i v s₃ m₃ E' hv hns hm hk => wpAny_tests_nil ⟨rfl, s₃.heap, s₃.toks, rfl, fun _ _ e => e⟩, fun Ca i v s₃ m₃ E' hv _ hns hm hk => ?_, fun Ca i v s₃ m₃ E' hv _ hns hm hk => ?_⟩, fun Da h' tk kvs vs hD hdict hlen hPv hsa hk => ?_⟩
  · obtain ⟨c, t, hc, rfl⟩ := chr i v hv
    exact wpAny_Name (wpAny_loadName_local (by simp [compEnvC, relabel, hkind]) (lookup_relabel_local hx) hns hm ⟨⟨_, strKind_is _ _ _ _, _, rfl⟩, s₃.heap, s₃.toks, rfl, fun _ _ e => e⟩) hx1
  · obtain ⟨c, t, hc, rfl⟩ := chr i v hv
    have hk1 : ∀ b o, b ∉ C.T → s₁.heap.get? b = some o → s₃.heap.get? b = some o := fun b o hb e => hk b o (nw e) (x₂.heap.keep b o e (fun h => nomatch h) hb)
    have hcell3 : s₃.heap.IsCell cc (some (.ref a)) := ⟨co, hk1 cc co ccT hco, hcd⟩
    have lc : (compEnvC scope (closOf env scope.names []) Ca env).cells.lookup d = some cc := (hdc Ca).trans e1
    refine Subscript_ (wpAny_Name ?_ hd1)
    have go : wpAny (model C.prog C.w) A (eval (.Name x p3) (compEnvC scope (closOf env scope.names []) Ca env)) (fun i s₂ => wpAny (model C.prog C.w) A (subscriptTail (.Name d p2) (.Name x p3) (.ref a) i) (fun y s₄ => (∃ c' t' u, Value.str ⟨#[c]⟩ t = .str c' t' ∧ y = .str (look c') u) ∧ Keeps s₃ s₄) E' s₂) E' s₃ := by
      refine wpAny_Name (wpAny_loadName_local (by simp [compEnvC, relabel, hkind]) (lookup_relabel_local hx) hns hm ?_) hx1
      have ed3 : s₃.heap.DictOf (PySem.strKind C.prog C.w) a kvs0 := dictOf_at ed fun o e => hk1 a o aT e
      obtain ⟨w, hw1, rw1⟩ := rd.at (hl c (List.mem_of_getElem? hc))
      refine VR.iv_str rw1 ?_; clear rw1; intro u e_0; cases e_0
      ·
        exact tail_any ed3.typeIs F.slot_dict_getitem.lookup (wpAny_getItem_of (strKind_is _ _ _ _) ed3.mapOf hw1 ⟨⟨_, _, _, rfl, rfl⟩, _, _, rfl, fun _ _ e => e⟩) (hsub _ _ _)
    rcases hd Ca with k | k
    · exact wpAny_loadName_cell (by simp [compEnvC, relabel, hkind]) k lc hcell3 go
    · exact wpAny_loadName_free (by simp [compEnvC, relabel, hkind]) k lc hcell3 go hd2
  · have st : SStp C.T [] s₁ { s₂ with heap := h', toks := tk } := ⟨⟨fun b o e _ t => hk b o (nw e) (x₂.heap.keep b o e (fun h => nomatch h) t), fun b hb vs e t => by
      obtain ⟨vs', e', t', mo⟩ := x₂.heap.tabs b hb vs e t
      exact ⟨vs', hk b _ (nw e) e', t', mo⟩⟩, x₂.os, x₂.dr, x₂.bare⟩
    have hD1 : s₁.heap.get? Da = none := by
      cases e : s₁.heap.get? Da with
      | none => rfl
      | some o =>
        by_cases hT : Da ∈ C.T
        · obtain ⟨o', e'⟩ := (R₁.go ok x₂).bs.liveT hT
          rw [hD] at e'; cases e'
        · rw [x₂.heap.keep Da o e (fun h => nomatch h) hT] at hD; cases hD
    have evs : (vs.filter fun _ => true).map strOf = txt.cps.toList.map fun c => (⟨#[c]⟩ : Str) := by
      rw [List.filter_eq_self.mpr fun _ _ => rfl]
      apply List.ext_getElem?
      intro j
      rw [List.getElem?_map, List.getElem?_map]
      have hl2 : vs.length = txt.cps.toList.length := by rw [hlen]; simp [chars]
      by_cases hj : j < vs.length
      · obtain ⟨c, t, hc, ev⟩ := chr j vs[j] (hPv j _ (List.getElem?_eq_getElem hj))
        rw [List.getElem?_eq_getElem hj, hc, ev]; rfl
      · rw [List.getElem?_eq_none (by lia), List.getElem?_eq_none (by lia)]; rfl
    have hr := stored_prs (h := s₁.heap) (X := Xo C Y env S₁) hsa
    rw [evs] at hr
    obtain ⟨R', K'⟩ := Rel.newDict ok (sK C) R₁ hD1 (s' := { s₂ with heap := h', toks := tk }) hdict st hr
    exact q _ _ _ _ (h _) R' (K₁.trans K') (.raw _)
theorem E1.cell {x : Str} {px pos : Pos} {e : Expr} {P : AF → St → Prop} (h : EV C n env S e fun a S₁ => P .next ⟨ins x a S₁.μ, S₁.M⟩)
    (hk : env.kindOf x = some .cell := by rfl) (hf : env.func.isSome = true := by rfl) (hc : ∃ c, env.cells.lookup x = some c := by exact ⟨_, rfl⟩)
    (hs : swapsWith e (some (.Name x px)) pos.line env = pure false := by rfl) : E1 C n env S (.Assign [.Name x px] e pos) P := E1.assign ok (.inr ⟨⟨hk, hf⟩, hc⟩) h hs
theorem E1.loc {x : Str} {px pos : Pos} {e : Expr} {P : AF → St → Prop} (h : EV C n env S e fun a S₁ => P .next ⟨ins x a S₁.μ, S₁.M⟩)
    (hk : env.kindOf x = some .local := by rfl)
    (hs : swapsWith e (some (.Name x px)) pos.line env = pure false := by rfl) : E1 C n env S (.Assign [.Name x px] e pos) P := E1.assign ok (.inl hk) h hs
theorem TG.cell {x : Str} {p : Pos} {a : AV} {P : St → Prop} (h : P ⟨ins x a S.μ, S.M⟩) (hk : env.kindOf x = some .cell := by rfl) (hf : env.func.isSome = true := by rfl) (hc : ∃ c, env.cells.lookup x = some c := by exact ⟨_, rfl⟩) : TG C n env S (.Name x p) a P := TG.name ok (.inr ⟨⟨hk, hf⟩, hc⟩) h
theorem TG.loc {x : Str} {p : Pos} {a : AV} {P : St → Prop} (h : P ⟨ins x a S.μ, S.M⟩) (hk : env.kindOf x = some .local := by rfl) : TG C n env S (.Name x p) a P := TG.name ok (.inl hk) h
end
end Mine
namespace Mine
noncomputable def signsOf : Nat → Str
  | 0 => "&<>"
  | 1 => "&<>\"\u000d\t"
  | 2 => "&>\""
  | 3 => "&<>\u000d"
  | _ => "&<\"\u000d\t"
noncomputable def refAll (way : Nat) : List (Str × Str) := [("&", "&amp;"), ("<", "&lt;"), (">", "&gt;"), ("\"", "&quot;"), ("\u000d", if way = 1 then "&#13;" else "&#xD;"), ("\t", if way = 1 then "&#09;" else "&#x9;")]
noncomputable def refLook (way : Nat) (c : Str) : Str := ((refAll way).lookup c).getD ""
noncomputable def refsL (way : Nat) : List (Str × AV) := ((signsOf way).cps.toList.map fun c => (⟨#[c]⟩ : Str)).foldl (fun acc c => aset acc c (.str (refLook way c))) []
section
variable {w : World} {mg mb : Str → Option Value} (g : GA w mg mb)
include g
theorem refs_fn {n : Nat} {M : List (Addr × AO)} {way : Nat} (hw : way < 5) : FC (CA w mg mb) (n + 1) 309 M [.int way] (fun av M' => ∃ a b o, av = .raw (.ref b) ∧ M' = M ++ [(a, o), (b, .sdict (refsL way))]) := by
  have ok := okA g
  have hw5 : way = 0 ∨ way = 1 ∨ way = 2 ∨ way = 3 ∨ way = 4 := or5 _ (by first | assumption | lia)
  refine fc_cells ok (ab := [("way", .int way)]) ⟨⟨_, rfl, rfl⟩, ⟨_, _, _, _, rfl, rfl, rfl, rfl⟩, rfl, rfl, rfl, (fun x c h => by cases h), rfl, rfl, rfl, by decide⟩ (by decide) (by decide) rfl ?hb (by intro x hx; simp at hx; subst hx; rfl) ?_
  case hb =>
    intro vs hv
    match vs, hv with
    | [v], _ => exact ⟨_, rfl, fun h X r => by refine VRs.el_cons r fun _ _ r rs => ?_; refine VRs.el_nil rs ?_; exact .cons r .nil⟩
  intro L
  refine EX.cons ?_
  refine E1.cell ok ?_
  refine EV.dictK (l := refAll 0) ok ?_ ?_ ?_ ?_
  · exact .cons (.cons (.cons (.cons (.cons (.cons .nil)))))
  · rfl
  · decide
  intro a
  refine EX.cons ?_
  refine G.mono (P := fun f S' => f = .next ∧ ∃ l, (∀ c ∈ (signsOf way).cps.toList, aget l ⟨#[c]⟩ = some (.str (refLook way ⟨#[c]⟩))) ∧ S' = ⟨[("way", .int way), ("refs", .raw (.ref a))], M ++ [(a, .sdict l)]⟩) (E1.ite ((PT.cmp (b := .int 1) (PE.name rfl) (PE.int ok) (O.eq ok)).then ?_)) ?_
  · by_cases h1 : way = 1
    · subst h1
      rw [if_pos (by decide)]
      refine EX.cons ?_
      refine E1_dset ok (sK _) ((PE.str ok).then ⟨M.length, a, _, "\u000d", List.getElem?_concat_length, by decide, PE.name rfl, PE.str ok, ?_⟩)
      refine EX.cons ?_
      refine E1_dset ok (sK _) ((PE.str ok).then ⟨M.length, a, _, "\t", by simp; rfl, by decide, PE.name rfl, PE.str ok, ?_⟩)
      refine EX.nil ⟨rfl, aset (aset (aints (refAll 0)) "\u000d" (.str "&#13;")) "\t" (.str "&#09;"), ?_, congr (congrArg St.mk rfl) (by simp [sK])⟩
      intro c hc
      have hc' : c ∈ ([38, 60, 62, 34, 13, 9] : List Nat) := hc
      have : c = 38 ∨ c = 60 ∨ c = 62 ∨ c = 34 ∨ c = 13 ∨ c = 9 := by simpa using hc'
      rcases this with rfl | rfl | rfl | rfl | rfl | rfl <;> rfl
    · rw [if_neg (by simp; lia)]
      refine EX.nil ⟨rfl, _, ?_, rfl⟩
      intro c hc
      rcases hw5 with rfl | rfl | rfl | rfl | rfl
      · have hc' : c ∈ ([38, 60, 62] : List Nat) := hc
        have : c = 38 ∨ c = 60 ∨ c = 62 := by simpa using hc'
        rcases this with rfl | rfl | rfl <;> rfl
      · exact absurd rfl h1
      · have hc' : c ∈ ([38, 62, 34] : List Nat) := hc
        have : c = 38 ∨ c = 62 ∨ c = 34 := by simpa using hc'
        rcases this with rfl | rfl | rfl <;> rfl
      · have hc' : c ∈ ([38, 60, 62, 13] : List Nat) := hc
        have : c = 38 ∨ c = 60 ∨ c = 62 ∨ c = 13 := by simpa using hc'
        rcases this with rfl | rfl | rfl | rfl <;> rfl
      · have hc' : c ∈ ([38, 60, 34, 13, 9] : List Nat) := hc
        have : c = 38 ∨ c = 60 ∨ c = 34 ∨ c = 13 ∨ c = 9 := by simpa using hc'
        rcases this with rfl | rfl | rfl | rfl | rfl <;> rfl
  · rintro f S' ⟨rfl, l, hl, rfl⟩
    refine EX.cons ?_
    refine E1.ret ?_
    refine EV.dcompS (a := a) (l := l) (look := refLook way) (txt := signsOf way) ok rfl (by decide) rfl (by decide) rfl (fun L => .inl rfl) (fun L => rfl) rfl (by decide) (by decide) (by decide) ?_ rfl (by simp) hl (by rcases hw5 with rfl | rfl | rfl | rfl | rfl <;> decide) ?_
    · refine PE.sub (PE.tuple ok (PL.cons (PE.str ok) (PL.cons (PE.str ok) (PL.cons (PE.str ok) (PL.cons (PE.str ok) (PL.cons (PE.str ok) PL.nil))))) (by simp only [List.length_cons, List.length_nil]; decide)) (PE.name rfl) (O.sub_tup (j := way) ok ?_ ?_ (by lia) (by lia))
      · unfold seqIndex?; simp; lia
      · rcases hw5 with rfl | rfl | rfl | rfl | rfl <;> rfl
    · intro b
      exact ⟨a, b, .sdict l, rfl, by rw [show M ++ [(a, AO.sdict l), (b, .sdict (refsL way))] = (M ++ [(a, AO.sdict l)]) ++ [(b, .sdict (refsL way))] by simp]; rfl⟩
end
end Mine
namespace Mine
noncomputable def handF : Nat → Addr
  | 0 => 276 | 1 => 283 | 2 => 290 | 3 => 297 | _ => 304
noncomputable def handT : Nat → List (Nat × Str)
  | 0 => Tcdata | 1 => Tattr | 2 => Thtml | 3 => Tcc | _ => Tac
noncomputable def esc (way : Nat) (x : Str) : Str := escF (handT way) x
noncomputable def growT (T : List (Nat × Str)) : Nat := T.foldl (fun k p => k * (p.2.length + 1)) 1
theorem foldl_grow : ∀ (T : List (Nat × Str)) (k : Nat), T.foldl (fun k p => k * (p.2.length + 1)) k = k * growT T
  | [], k => by simp [growT]
  | p :: T, k => by
    unfold growT
    simp only [List.foldl_cons]
    rw [foldl_grow T, foldl_grow T (1 * _), Nat.one_mul, Nat.mul_assoc]
theorem escF_len : ∀ (T : List (Nat × Str)) (x : Str), (escF T x).length + 1 ≤ (x.length + 1) * growT T
  | [], x => by simp [escF, growT]
  | (c, z) :: T, x => by
    have h1 := escF_len T (escStep ⟨#[c]⟩ z x)
    have h2 := Nat.mul_le_mul_right (growT T) (escStep_len x z c)
    have h3 : growT ((c, z) :: T) = (z.length + 1) * growT T := by
      unfold growT; rw [List.foldl_cons, foldl_grow]; simp [growT]
    rw [h3, ← Nat.mul_assoc]
    exact Nat.le_trans h1 h2
theorem esc_len {way : Nat} {x : Str} (hw : way < 5) (hx : x.length ≤ 60) : (esc way x).length ≤ 14000000 := by
  have h := escF_len (handT way) x
  have hg : growT (handT way) ≤ 226800 := by
    have hw5 : way = 0 ∨ way = 1 ∨ way = 2 ∨ way = 3 ∨ way = 4 := or5 _ (by first | assumption | lia)
    rcases hw5 with rfl | rfl | rfl | rfl | rfl <;> decide
  have := Nat.mul_le_mul (show x.length + 1 ≤ 61 by lia) hg
  unfold esc; lia
noncomputable def dearV (way : Nat) (l : List (Str × Str)) : Int := 200000000 - (((esc way (pileStr l)).length : Int) - (pileLen l : Int)) * Int.fdiv 12252240 (pileLen l : Int)
theorem bits_small {a : Int} (h : a.natAbs < 2 ^ 64) : Builtin.Int.intBits a ≤ 64 := by
  unfold Builtin.Int.intBits
  split
  · lia
  · rename_i h0
    have : a.natAbs ≠ 0 := by simpa using h0
    have := (Nat.log2_lt this).mpr h
    lia
theorem log_small {a : Int} (h : a.natAbs < 2 ^ 64) : a.natAbs.log2 < 1920 := by
  by_cases h0 : a.natAbs = 0
  · rw [h0]; decide
  · have := (Nat.log2_lt h0).mpr h
    lia
theorem dear_abs {d q : Int} (hd : d.natAbs ≤ 14000000) (hq : q.natAbs ≤ 12252240) : (200000000 - d * q).natAbs < 2 ^ 64 := by
  have h := Nat.mul_le_mul hd hq
  rw [← Int.natAbs_mul] at h
  lia
section
variable {w : World} {mg mb : Str → Option Value} (g : GA w mg mb)
include g
theorem hand_fn {n : Nat} {M : List (Addr × AO)} {way : Nat} {x : Str} (hw : way < 5) (hx : x.length ≤ 60) : FN (CA w mg mb) (n + 1) (handF way) M [.str x] (fun a M' => a = .str (esc way x) ∧ M' = M) := by
  have hw5 : way = 0 ∨ way = 1 ∨ way = 2 ∨ way = 3 ∨ way = 4 := or5 _ (by first | assumption | lia)
  rcases hw5 with rfl | rfl | rfl | rfl | rfl
  · exact esc_cdata g (by unfold Room; lia)
  · exact esc_attrib g (by unfold Room; lia)
  · exact esc_html g (by unfold Room; lia)
  · exact esc_cc g (by unfold Room; lia)
  · exact esc_ac g (by unfold Room; lia)
theorem hand_keep {way : Nat} (hw : way < 5) : keepIn (CA w mg mb).K (.ref (handF way)) = true := by
  have hw5 : way = 0 ∨ way = 1 ∨ way = 2 ∨ way = 3 ∨ way = 4 := or5 _ (by first | assumption | lia)
  rcases hw5 with rfl | rfl | rfl | rfl | rfl <;> rfl
theorem PE.hand {n : Nat} {env : Env} {S : St} {h : Str} {e : Expr} {p pos : Pos} {way : Nat} {x : Str} (hw : way < 5) (hx : x.length ≤ 60) (hf : PE (CA w mg mb) (n + 1) env S (.Name h p) (.raw (.ref (handF way)))) (he : PE (CA w mg mb) (n + 1) env S e (.str x))
    (hs : starEach [e] env = (false, eval e env) :: starEach [] env := by rfl) : PE (CA w mg mb) (n + 1) env S (.Call (.Name h p) [e] [] pos) (.str (esc way x)) :=
  EV.callK hf (hand_keep g hw) ((PL.cons he PL.nil hs).then (((hand_fn g hw hx (n := n) (M := S.M)) env S.μ).mono fun a S' e => ⟨e.2.1, by obtain ⟨μ, M⟩ := S'; obtain ⟨e1, _, e3⟩ := e; cases e1; cases e3; rfl⟩)) hs
theorem dear_fn {n : Nat} {M : List (Addr × AO)} {p d : Addr} {way : Nat} {l : List (Str × Str)} (hw : way < 5) (hM : (p, AO.obj 154 d (AccKv 0) (some l)) ∈ M) (hz : l.length ≤ 10) (hq : ∀ q ∈ l, q.1.length ≤ 100 ∧ q.2.length ≤ 100) (hs : (pileStr l).length ≤ 60) (h0 : 0 < pileLen l) (h1 : pileLen l ≤ 1000) :
    FC (CA w mg mb) (n + 4) 316 M [.raw (.ref p), .raw (.ref (handF way))] (fun av M' => av = .str (toString (dearV way l)) ∧ M' = M) := by
  have ok := okA g
  have sl : sizeLine = 16777216 := by decide
  have hq' : ∀ q ∈ l, q.1.length ≤ 1000 ∧ q.2.length ≤ 1000 := fun q h => ⟨by have := (hq q h).1; lia, by have := (hq q h).2; lia⟩
  have hel := esc_len hw hs
  refine fc_plain ok (ab := [("pile", .raw (.ref p)), ("hand", .raw (.ref (handF way)))]) ⟨⟨_, rfl, rfl⟩, ⟨_, _, _, _, rfl, rfl, rfl, rfl⟩, rfl, rfl, rfl, (fun x c h => by cases h), rfl, rfl, rfl, by decide⟩ (by decide) (bind2 fun _ _ => rfl) (by intro x hx; simp at hx; rcases hx with rfl | rfl <;> rfl) ?_
  intro L
  have e0 : ((0 : Nat) : Int) + (pileLen l : Int) = (pileLen l : Int) := by lia
  have q0 : 0 ≤ Int.fdiv 12252240 (pileLen l : Int) := Int.fdiv_nonneg (by lia) (by lia)
  have q1 : Int.fdiv 12252240 (pileLen l : Int) ≤ 12252240 := by
    rw [Int.fdiv_eq_ediv_of_nonneg _ (by lia)]
    exact Int.ediv_le_self _ (by lia)
  refine EX.cons ?_
  refine E1.loc ok ?_
  refine PE.then (PE.cast (PE.callB (PE.built rfl (g.non _ rfl) ((g.mb _ (by decide)).trans rfl)) (PL.cons (PE.name rfl) PL.nil) (O.len_acc g (k := 0) hM (by lia) hq' (by lia))) (congrArg AV.int e0)) ?_
  refine EX.cons ?_
  refine E1.ret ?_
  refine PE.then (PE.callT1 (PE.built rfl (g.non _ rfl) ((g.mb _ (by decide)).trans rfl)) (PE.bin (PE.int ok) (PE.bin (PE.bin (PE.callB (PE.built rfl (g.non _ rfl) ((g.mb _ (by decide)).trans rfl)) (PL.cons (PE.hand g hw hs (PE.name rfl) (PE.callT1 (PE.built rfl (g.non _ rfl) ((g.mb _ (by decide)).trans rfl)) (PE.name rfl) (O.str_acc g hM (by lia) hq))) PL.nil) (O.len_str ok (by lia))) (PE.name rfl) (O.sub ok)) (PE.bin (PE.int ok) (PE.name rfl) (O.fdiv ok (by lia) (by lia))) (O.mul ok ?_)) (O.sub ok)) (O.str_int ok ?_)) ⟨rfl, rfl⟩
  · exact bits_small (by lia)
  · exact log_small (dear_abs (by lia) (by lia))
end
end Mine
namespace Mine
theorem VRs.eraseIdx {h : Heap} {X : List Addr} : ∀ {vs : List Value} {l : List AV} (k : Nat), VRs h X vs l → VRs h X (vs.eraseIdx k) (l.eraseIdx k)
  | _, _, _, .nil => by simp; exact .nil
  | _, _, 0, .cons _ b => b
  | _, _, k + 1, .cons a b => .cons a (VRs.eraseIdx k b)
theorem self_pop (a b : Value) : selfAndSome "list.pop" "pop" 0 1 ⟨[a, b], []⟩ = pure (a, [b]) := by rfl
section
variable {C : Cx} (ok : C.Ok) {n : Nat} {env : Env} {S : St}
include ok
theorem O.lpop {i : Nat} {p : Addr} {l : List AV} {k : Nat} {c : AV} {P : AV → St → Prop} (hM : S.M[i]? = some (p, .list l)) (hz : l.length ≤ 1000) (hk : l[k]? = some c) (h : P c ⟨S.μ, S.M.set i (p, .list (l.eraseIdx k))⟩) :
    VN C n env S (fun vs => call (.builtin "list.pop") (.ref p :: vs)) [.int k] P := fun A Y s₀ D s vs Q ha R r q => by
  have sl : sizeLine = 16777216 := by decide
  refine VRs.el_cons r fun _ _ r rs => ?_
  ·
    refine VRs.el_nil rs ?_
    refine VR.el_int r fun u => ?_
    ·
      obtain ⟨ws, kk, e, rw_⟩ := R.ob _ (mem_of_get? hM)
      have hT : p ∉ C.T := R.tn (List.mem_append_right _ (List.mem_append_left _ (mem_feet (mem_of_get? hM) (List.mem_cons_self ..))))
      obtain ⟨y, hy, ry⟩ := rw_.get hk
      have hlt : k < l.length := (List.getElem?_eq_some_iff.mp hk).1
      have hlen := rw_.length
      have hfit : Builtin.List.listFitsIndex (k : Int) = true := by
        unfold Builtin.List.listFitsIndex
        simp
        lia
      have hsi : seqIndex? (k : Int) ws.toArray.size = some k := by unfold seqIndex?; simp; lia
      have hsz : ws.toArray.size ≤ sizeLine := by rw [List.size_toArray]; lia
      have hTy : s.TypeIs (.ref p) "list" := ⟨_, e, rfl⟩
      have ef : ws.toArray.eraseIdxIfInBounds k = (ws.eraseIdx k).toArray := by
        have hw : k < ws.length := by lia
        simp [Array.eraseIdxIfInBounds, hw]
      obtain ⟨kk', e'⟩ := upd_list (show IsL s.heap p ws.toArray kk from e) (fun xs : Array Value => xs.eraseIdxIfInBounds k) _ ef
      obtain ⟨R', K'⟩ := Rel.setList ok R (s' := { s with heap := s.heap.update p (Obj.mapSeq fun xs : Array Value => xs.eraseIdxIfInBounds k), toks := s.toks }) hM e' (upd_stp ok hT) (l' := l.eraseIdx k) (rw_.eraseIdx k)
      have fin := q _ _ _ _ h R' K' (K' _ _ ry)
      refine wpAny_call (codeAny_call_builtin PySem.F.slot_list_pop.plain PySem.F.entry_list_pop (PySem.F.slot_list_pop.check _ _ _ _ _ _ _ _ hTy (PySem.F.args_list_pop_2 _ _) ?_))
      unfold Builtin.«list.pop»
      rw [self_pop, pure_bind]
      dsimp only
      have hai : ∀ z : Int, asIndex (.int z u) = pure z := fun z => rfl
      rw [hai, pure_bind]
      rw [if_neg (by rw [hfit]; decide)]
      refine wpAny_bind (wpAny_listItems e rfl ?_)
      rw [if_neg (by simp; intro hh; rw [hh] at hlen; simp at hlen; lia)]
      have hs : ((seqIndex? (k : Int) ws.toArray.size).bind fun k => ws.toArray[k]?.map (k, ·)) = some (k, y) := by
        rw [hsi]; simp [hy]
      rw [hs]
      dsimp only
      refine wpAny_bind (wpAny_updateSeq e rfl (hz := by simp [sizeLine]; lia) (_hz' := by rw [ef]; simp [sizeLine, List.length_eraseIdx]; split <;> lia) (wpAny_pure fin))
omit ok in
end
end Mine
namespace Mine
theorem slt_irrefl (x : Str) : slt x x = false := by unfold slt; simp [List.lt_irrefl]
theorem slt_trans {x y z : Str} (h1 : slt x y = true) (h2 : slt y z = true) : slt x z = true := by
  unfold slt at *
  simp only [decide_eq_true_eq] at *
  exact List.lt_trans h1 h2
theorem slt_asymm {x y : Str} (h : slt x y = true) : slt y x = false := by
  cases e : slt y x with
  | false => rfl
  | true => have := slt_trans h e; rw [slt_irrefl] at this; cases this
theorem slt_total {x y : Str} (h : slt x y = false) (hne : x ≠ y) : slt y x = true := by
  unfold slt at *
  simp only [decide_eq_true_eq, decide_eq_false_iff_not] at *
  rcases Std.Trichotomous.rel_or_eq_or_rel_swap (r := fun a b : List Nat => a < b) (a := x.cps.toList) (b := y.cps.toList) with h' | h' | h'
  · exact absurd h' h
  · exact absurd (Str.ext' h') hne
  · exact h'
noncomputable def ahead (l : List Str) (x : Str) : Nat := (l.filter fun c => slt c x).length
noncomputable def SortedS (l : List Str) : Prop := l.Pairwise fun a b => slt a b = true
theorem ahead_le (l : List Str) (x : Str) : ahead l x ≤ l.length := List.length_filter_le _ _
theorem ahead_spec {l : List Str} (hl : SortedS l) (x : Str) : ∀ i c, l[i]? = some c → slt c x = decide (i < ahead l x) := by
  induction l with
  | nil => intro i c h; simp at h
  | cons a l ih =>
    obtain ⟨h1, h2⟩ := List.pairwise_cons.mp hl
    intro i c h
    cases e : slt a x with
    | true =>
      have e2 : ahead (a :: l) x = ahead l x + 1 := by unfold ahead; rw [List.filter_cons_of_pos (by exact e)]; rfl
      rw [e2]
      cases i with
      | zero => simp at h; subst h; rw [e]; simp
      | succ i => simp at h; rw [ih h2 i c h]; simp
    | false =>
      have all : ∀ c ∈ l, slt c x = false := fun c hc => by
        cases q : slt c x with
        | false => rfl
        | true => rw [slt_trans (h1 c hc) q] at e; cases e
      have e2 : ahead (a :: l) x = 0 := by
        unfold ahead
        rw [List.filter_cons_of_neg (by rw [e]; decide), List.filter_eq_nil_iff.mpr fun c hc => by rw [all c hc]; decide]; rfl
      rw [e2]
      cases i with
      | zero => simp at h; subst h; rw [e]; simp
      | succ i => simp at h; rw [all c (List.mem_of_getElem? h)]; simp
theorem upto_spec {l : List Str} (hl : SortedS l) (x : Str) : ∃ k, k ≤ l.length ∧ ∀ i c, l[i]? = some c → slt x c = decide (k ≤ i) := by
  refine ⟨(l.filter fun c => !slt x c).length, List.length_filter_le _ _, ?_⟩
  induction l with
  | nil => intro i c h; simp at h
  | cons a l ih =>
    obtain ⟨h1, h2⟩ := List.pairwise_cons.mp hl
    intro i c h
    cases e : slt x a with
    | false =>
      rw [List.filter_cons_of_pos (by rw [e]; decide), List.length_cons]
      cases i with
      | zero => simp at h; subst h; rw [e]; simp
      | succ i => simp at h; rw [ih h2 i c h]; simp
    | true =>
      have all : ∀ c ∈ l, slt x c = true := fun c hc => slt_trans e (h1 c hc)
      rw [List.filter_cons_of_neg (by rw [e]; decide), List.filter_eq_nil_iff.mpr fun c hc => by rw [all c hc]; decide]
      cases i with
      | zero => simp at h; subst h; rw [e]; simp
      | succ i => simp at h; rw [all c (List.mem_of_getElem? h)]; simp
theorem ins_sorted {l : List Str} (hl : SortedS l) {x : Str} (hx : x ∉ l) {k : Nat} (hk : k ≤ l.length) (hp : ∀ i c, l[i]? = some c → slt c x = decide (i < k)) : SortedS (l.take k ++ x :: l.drop k) := by
  unfold SortedS
  rw [List.pairwise_append]
  have b : ∀ c ∈ l.take k, slt c x = true := fun c hc => by
    obtain ⟨i, hi⟩ := List.getElem?_of_mem hc
    have hlt := (List.getElem?_eq_some_iff.mp hi).1
    simp at hlt
    rw [List.getElem?_take_of_lt (by lia)] at hi
    rw [hp i c hi]; simp; lia
  have a : ∀ c ∈ l.drop k, slt x c = true := fun c hc => by
    obtain ⟨i, hi⟩ := List.getElem?_of_mem hc
    rw [List.getElem?_drop] at hi
    refine slt_total ?_ (fun e => hx (e ▸ List.mem_of_getElem? hi))
    rw [hp _ c hi]; simp
  refine ⟨hl.sublist (List.take_sublist _ _), List.pairwise_cons.mpr ⟨a, hl.sublist (List.drop_sublist _ _)⟩, fun c hc y hy => ?_⟩
  rcases List.mem_cons.mp hy with rfl | hy
  · exact b c hc
  · exact slt_trans (b c hc) (a y hy)
end Mine
namespace Mine
noncomputable def dig : Nat → Nat → List Nat
  | 0, _ => []
  | k + 1, n => dig k (n / 10) ++ [48 + n % 10]
theorem dig_length : ∀ k n, (dig k n).length = k
  | 0, _ => rfl
  | k + 1, n => by simp [dig, dig_length k]
theorem digitChar_toNat : ∀ d, d < 10 → (Nat.digitChar d).toNat = 48 + d := by decide
theorem core_dig : ∀ (k fuel n : Nat) (ds : List Char), k < fuel → (k = 0 ∨ 10 ^ k ≤ n) → n < 10 ^ (k + 1) → (Nat.toDigitsCore 10 fuel n ds).map Char.toNat = dig (k + 1) n ++ ds.map Char.toNat
  | k, 0, n, ds, hf, _, _ => by lia
  | 0, fuel + 1, n, ds, _, _, h2 => by
    have : n / 10 = 0 := by simp at h2; lia
    rw [Nat.toDigitsCore]
    simp only [this, if_true, List.map_cons, dig, List.nil_append, List.cons_append]
    rw [digitChar_toNat _ (Nat.mod_lt _ (by decide))]
  | k + 1, fuel + 1, n, ds, hf, h1, h2 => by
    have h1' : 10 ^ (k + 1) ≤ n := h1.resolve_left (by lia)
    have e : 10 ^ (k + 1) = 10 ^ k * 10 := Nat.pow_succ ..
    have e2 : 10 ^ (k + 1 + 1) = 10 ^ (k + 1) * 10 := Nat.pow_succ ..
    have hp : 0 < 10 ^ k := Nat.pow_pos (by decide)
    have hn : n / 10 ≠ 0 := by
      have : 10 ^ k ≤ n / 10 := by rw [Nat.le_div_iff_mul_le (by decide)]; lia
      lia
    rw [Nat.toDigitsCore]
    simp only [hn, if_false]
    rw [core_dig k fuel (n / 10) _ (by lia) (.inr (by rw [Nat.le_div_iff_mul_le (by decide)]; lia)) (by rw [Nat.div_lt_iff_lt_mul (by decide)]; lia)]
    rw [List.map_cons, digitChar_toNat _ (Nat.mod_lt _ (by decide))]
    simp [dig]
theorem dig_lt : ∀ (k a b : Nat), a < b → b < 10 ^ k → dig k a < dig k b
  | 0, a, b, h, hb => by simp at hb; lia
  | k + 1, a, b, h, hb => by
    have e2 : 10 ^ (k + 1) = 10 ^ k * 10 := Nat.pow_succ ..
    unfold dig
    by_cases hd : a / 10 = b / 10
    · rw [hd]
      have : a % 10 < b % 10 := by lia
      apply List.append_left_lt
      exact List.cons_lt_cons_iff.mpr (.inl (by lia))
    · have ih := dig_lt k (a / 10) (b / 10) (by lia) (by rw [Nat.div_lt_iff_lt_mul (by decide)]; lia)
      exact lt_app _ _ _ _ (by rw [dig_length, dig_length]) ih
where
  lt_app : ∀ (x y u v : List Nat), x.length = y.length → x < y → x ++ u < y ++ v
  | [], [], u, v, _, h => by simp at h
  | [], _ :: _, u, v, hl, _ => by simp at hl
  | _ :: _, [], u, v, hl, _ => by simp at hl
  | a :: x, b :: y, u, v, hl, h => by
    simp only [List.cons_append]
    rcases List.cons_lt_cons_iff.mp h with h | ⟨h1, h2⟩
    · exact List.cons_lt_cons_iff.mpr (.inl h)
    · exact List.cons_lt_cons_iff.mpr (.inr ⟨h1, lt_app x y u v (by simpa using hl) h2⟩)
theorem toString_dig {a : Int} (h0 : 100000000 ≤ a) (h1 : a < 1000000000) : (Str.ofString (toString a)).cps.toList = dig 9 a.toNat := by
  obtain ⟨n, rfl⟩ := Int.eq_ofNat_of_zero_le (by lia : 0 ≤ a)
  rw [Str.ofString_eq_toList, List.toList_toArray]
  show ((Nat.repr n).toList).map Char.toNat = _
  have e : (Nat.repr n).toList = Nat.toDigits 10 n := by simp [Nat.repr]
  rw [e]
  unfold Nat.toDigits
  rw [core_dig 8 (n + 1) n [] (by lia) (.inr (by lia)) (by lia)]
  simp
theorem brace_cps (x y : Str) : (brace x y).cps.toList = 123 :: x.cps.toList ++ 125 :: y.cps.toList := by
  have h1 : (Str.ofString "{").cps.toList = [123] := by decide
  have h2 : (Str.ofString "}").cps.toList = [125] := by decide
  unfold brace
  rw [cps_append, cps_append, cps_append, h1, h2]
  simp
noncomputable def Nine (a : Int) : Prop := 100000000 ≤ a ∧ a < 1000000000
theorem brace_lt {a b : Int} (ha : Nine a) (hb : Nine b) (h : a < b) (x y : Str) : slt (brace (Str.ofString (toString a)) x) (brace (Str.ofString (toString b)) y) = true := by
  unfold slt
  rw [brace_cps, brace_cps, toString_dig ha.1 ha.2, toString_dig hb.1 hb.2]
  simp only [decide_eq_true_eq, List.cons_append]
  refine List.cons_lt_cons_iff.mpr (.inr ⟨rfl, ?_⟩)
  exact dig_lt.lt_app _ _ _ _ (by rw [dig_length, dig_length]) (dig_lt 9 _ _ (by obtain ⟨h1, _⟩ := ha; lia) (by obtain ⟨_, h2⟩ := hb; lia))
theorem brace_same (d x y : Str) : slt (brace d x) (brace d y) = slt x y := by
  unfold slt
  rw [brace_cps, brace_cps]
  have : ∀ (p u v : List Nat), (p ++ u < p ++ v) ↔ u < v := fun p u v => by
    induction p with
    | nil => simp
    | cons c p ih => simp only [List.cons_append]; rw [List.cons_lt_cons_iff]; simp [ih]
  rw [decide_eq_decide, this (123 :: d.cps.toList), List.cons_lt_cons_iff]
  simp
end Mine
namespace Mine
noncomputable def ltr (j : Nat) : Str := ⟨#[97 + j]⟩
theorem ltr_inj {i j : Nat} (h : ltr i = ltr j) : i = j := by
  have : (97 + i) = 97 + j := by simpa [ltr] using h
  lia
noncomputable def pcs (ts : Nat → Str) (l : List Nat) : List (Str × Str) := l.map fun j => (ltr j, ts j)
noncomputable def atL (m : Nat) (p : Nat → Addr) (at_ : Nat → Nat) : List (Str × AV) := (List.range m).map fun j => (ltr j, .raw (.ref (p (at_ j))))
noncomputable def plM (m : Nat) (p d : Nat → Addr) (ts : Nat → Str) (pl : Nat → List Nat) : List (Addr × AO) := (List.range m).map fun j => (p j, .obj 154 (d j) (AccKv 0) (some (pcs ts (pl j))))
noncomputable def lay (m : Nat) (aA aR : Addr) (p d : Nat → Addr) (ts : Nat → Str) (at_ : Nat → Nat) (row : List AV) (pl : Nat → List Nat) : List (Addr × AO) :=
  (aA, .sdict (atL m p at_)) :: (aR, .list row) :: plM m p d ts pl
section
variable {M0 : List (Addr × AO)} {m : Nat} {aA aR : Addr} {p d : Nat → Addr} {ts : Nat → Str} {at_ : Nat → Nat} {row : List AV} {pl : Nat → List Nat}
theorem lay_at : (M0 ++ lay m aA aR p d ts at_ row pl)[M0.length]? = some (aA, .sdict (atL m p at_)) := by simp [lay]
theorem lay_row : (M0 ++ lay m aA aR p d ts at_ row pl)[M0.length + 1]? = some (aR, .list row) := by
  rw [List.getElem?_append_right (by lia)]; simp [lay]
theorem lay_pl {j : Nat} (hj : j < m) : (M0 ++ lay m aA aR p d ts at_ row pl)[M0.length + 2 + j]? = some (p j, .obj 154 (d j) (AccKv 0) (some (pcs ts (pl j)))) := by
  rw [List.getElem?_append_right (by lia), show M0.length + 2 + j - M0.length = j + 1 + 1 by lia]
  simp only [lay, List.getElem?_cons_succ]
  unfold plM
  rw [List.getElem?_map, List.getElem?_range hj]; rfl
theorem lay_set_at {l : List (Str × AV)} : (M0 ++ lay m aA aR p d ts at_ row pl).set M0.length (aA, .sdict l) = M0 ++ (aA, .sdict l) :: (aR, .list row) :: plM m p d ts pl := by
  rw [List.set_append_right _ _ (by lia)]; simp [lay]
theorem lay_set_row {r : List AV} : (M0 ++ lay m aA aR p d ts at_ row pl).set (M0.length + 1) (aR, .list r) = M0 ++ lay m aA aR p d ts at_ r pl := by
  rw [List.set_append_right _ _ (by lia)]; simp [lay]
theorem lay_set_pl {j : Nat} (hj : j < m) {l : List Nat} : (M0 ++ lay m aA aR p d ts at_ row pl).set (M0.length + 2 + j) (p j, .obj 154 (d j) (AccKv 0) (some (pcs ts l))) = M0 ++ lay m aA aR p d ts at_ row (fun k => if k = j then l else pl k) := by
  rw [List.set_append_right _ _ (by lia), show M0.length + 2 + j - M0.length = j + 1 + 1 by lia]
  congr 1
  simp only [lay, List.set_cons_succ]
  congr 2
  unfold plM
  apply List.ext_getElem?
  intro i
  rw [List.getElem?_set]
  by_cases hij : j = i
  · subst hij
    simp [hj]
  · rw [if_neg hij, List.getElem?_map, List.getElem?_map]
    by_cases hi : i < m
    · have hji : i ≠ j := fun e => hij e.symm; rw [List.getElem?_range hi]; simp [hji]
    · rw [List.getElem?_eq_none (by simp; lia)]; rfl
theorem aget_atL {j : Nat} (hj : j < m) : aget (atL m p at_) (ltr j) = some (.raw (.ref (p (at_ j)))) := by
  unfold aget atL
  have : ∀ (l : List Nat), j ∈ l → ((l.map fun j => (ltr j, AV.raw (.ref (p (at_ j))))).find? fun kv => kv.1 = ltr j).map (·.2) = some (.raw (.ref (p (at_ j)))) := fun l => by
    induction l with
    | nil => intro h; cases h
    | cons a l ih =>
      intro h
      simp only [List.map_cons, List.find?_cons]
      by_cases e : a = j
      · subst e; simp
      · have : ltr a ≠ ltr j := fun q => e (ltr_inj q)
        simp only [this, decide_false]
        exact ih ((List.mem_cons.mp h).resolve_left fun q => e q.symm)
  exact this _ (List.mem_range.mpr hj)
theorem aset_atL {j h : Nat} (hj : j < m) : aset (atL m p at_) (ltr j) (.raw (.ref (p h))) = atL m p (fun k => if k = j then h else at_ k) := by
  unfold aset
  have hany : (atL m p at_).any (fun kv => decide (kv.1 = ltr j)) = true := by
    rw [List.any_eq_true]
    exact ⟨(ltr j, .raw (.ref (p (at_ j)))), List.mem_map.mpr ⟨j, List.mem_range.mpr hj, rfl⟩, by simp⟩
  rw [hany, if_pos rfl]
  unfold atL
  rw [List.map_map]
  apply List.map_congr_left
  intro k hk
  simp only [Function.comp]
  by_cases e : k = j
  · subst e; simp
  · have : ltr k ≠ ltr j := fun q => e (ltr_inj q)
    simp [this, e]
theorem aset_new {x : Addr} : aset (atL m p at_) (ltr m) (.raw (.ref x)) = atL m p at_ ++ [(ltr m, .raw (.ref x))] := by
  unfold aset
  have hany : (atL m p at_).any (fun kv => decide (kv.1 = ltr m)) = false := by
    rw [List.any_eq_false]
    intro kv hkv
    obtain ⟨j, hj, rfl⟩ := List.mem_map.mp hkv
    have := List.mem_range.mp hj
    simp only [decide_eq_true_eq]
    intro e
    have := ltr_inj e
    lia
  rw [hany]; rfl
theorem lay_more {x y : Addr} (hat : ∀ j, j < m → at_ j < m) : M0 ++ (aA, .sdict (atL m p at_ ++ [(ltr m, .raw (.ref x))])) :: (aR, .list row) :: (plM m p d ts pl ++ [(x, .obj 154 y (AccKv 0) (some []))]) =
    M0 ++ lay (m + 1) aA aR (fun j => if j = m then x else p j) (fun j => if j = m then y else d j) ts (fun j => if j = m then m else at_ j) row (fun j => if j = m then [] else pl j) := by
  congr 1
  unfold lay
  have e1 : atL m p at_ ++ [(ltr m, .raw (.ref x))] = atL (m + 1) (fun j => if j = m then x else p j) (fun j => if j = m then m else at_ j) := by
    unfold atL
    rw [List.range_succ, List.map_append]
    congr 1
    · apply List.map_congr_left
      intro j hj
      have h1 := List.mem_range.mp hj
      have h2 := hat j h1
      have n1 : j ≠ m := by lia
      have n2 : at_ j ≠ m := by lia
      simp [n1, n2]
    · simp
  have e2 : plM m p d ts pl ++ [(x, .obj 154 y (AccKv 0) (some []))] = plM (m + 1) (fun j => if j = m then x else p j) (fun j => if j = m then y else d j) ts (fun j => if j = m then [] else pl j) := by
    unfold plM
    rw [List.range_succ, List.map_append]
    congr 1
    · apply List.map_congr_left
      intro j hj
      have n1 : j ≠ m := by have := List.mem_range.mp hj; lia
      simp [n1]
    · simp [pcs]
  rw [e1, e2]
end
end Mine
namespace Mine
noncomputable def qns (l : List Str) : List AV := l.map (AV.qn 258)
theorem insAt_qns (l : List Str) (k : Nat) (x : Str) : O.insAt (qns l) k (.qn 258 x) = qns (l.take k ++ x :: l.drop k) := by simp [O.insAt, qns, List.map_take, List.map_drop]
noncomputable def qtx : AV → Str
  | .qn _ x => x
  | _ => ""
theorem qns_get {l : List Str} {i : Nat} {c : AV} (h : (qns l)[i]? = some c) : ∃ t, l[i]? = some t ∧ c = .qn 258 t := by
  unfold qns at h
  rw [List.getElem?_map] at h
  obtain ⟨t, h1, h2⟩ := Option.map_eq_some_iff.mp h
  exact ⟨t, h1, h2.symm⟩
theorem qns_mem {l : List Str} {c : AV} (h : c ∈ qns l) : ∃ t, t ∈ l ∧ c = .qn 258 t := by
  obtain ⟨t, h1, h2⟩ := List.mem_map.mp h
  exact ⟨t, h1, h2.symm⟩
theorem back_eq {S' : St} {μ : List (Str × AV)} {M : List (Addr × AO)} (h1 : S'.μ = μ) (h2 : S'.M = M) : S' = ⟨μ, M⟩ := by obtain ⟨a, b⟩ := S'; cases h1; cases h2; rfl
section
variable {w : World} {mg mb : Str → Option Value} (g : GA w mg mb)
include g
theorem EV.push {n : Nat} {env : Env} {S : St} {P : AV → St → Prop} {o e1 e2 : Expr} {apos pos : Pos} {j : Nat} {p d : Addr} {k : Nat} {l : List (Str × Str)} {x y : Str} (ho : PE (CA w mg mb) (n + 1) env S o (.raw (.ref p))) (hM : S.M[j]? = some (p, .obj 154 d (AccKv k) (some l))) (hz : l.length ≤ 1000)
    (h1 : PE (CA w mg mb) (n + 1) env S e1 (.str x)) (h2 : PE (CA w mg mb) (n + 1) env S e2 (.str y)) (h : P .none ⟨S.μ, S.M.set j (p, .obj 154 d (AccKv k) (some (l ++ [(x, y)])))⟩)
    (hbase : attributeBase o "push" env (eval o env) = eval o env := by rfl)
    (hfew : ((backTo pos (starEach [e1, e2] env)).all (fun x => !x.1) && (backToKw pos (keywordEach [] env)).all (fun x => x.1.isSome) && decide ([e1, e2].length + ([] : List Keyword).length + (if ([] : List Keyword).isEmpty then 0 else 1) < 30)) = true := by rfl)
    (hline : (apos.endLine == pos.line) = true := by rfl)
    (he : starEach [e1, e2] env = (false, eval e1 env) :: starEach [e2] env := by rfl) (he2 : starEach [e2] env = (false, eval e2 env) :: starEach [] env := by rfl) (hplain : (backTo pos (starEach [e2] env)).any (·.1) = false := by rfl) :
    EV (CA w mg mb) (n + 1) env S (.Call (.Attribute o "push" apos) [e1, e2] [] pos) P :=
  EV.ometh (acc_meth_push g) (ho.then ⟨p, d, AccKv k, some l, rfl, mem_of_get? hM, (fun q hq => by cases hq; exact (show (Str.ofString "_initial_size" == Str.ofString "push") = false by decide)), (PL.cons h1 (PL.cons h2 PL.nil he2) he).then (((push_fn g hM hz).self env S.μ).mono fun a S' e => by
    obtain ⟨e1, rfl, e3⟩ := e; rw [back_eq e1 e3]; exact h)⟩) hbase hfew hline he hplain
theorem PE.qname {n : Nat} {env : Env} {S : St} {e1 e2 : Expr} {p pos : Pos} {x y : Str} (hk : env.kindOf "QName" = some .globalImplicit) (hx : x.length ≤ 100000) (hy : y.length ≤ 100000) (h0 : 0 < y.length) (h1 : PE (CA w mg mb) (n + 2) env S e1 (.str x)) (h2 : PE (CA w mg mb) (n + 2) env S e2 (.str y))
    (he : starEach [e1, e2] env = (false, eval e1 env) :: starEach [e2] env := by rfl) (he2 : starEach [e2] env = (false, eval e2 env) :: starEach [] env := by rfl) (hplain : (backTo pos (starEach [e2] env)).any (·.1) = false := by rfl) :
    PE (CA w mg mb) (n + 2) env S (.Call (.Name "QName" p) [e1, e2] [] pos) (.qn 258 (brace x y)) :=
  EV.callK (PE.glob hk (g.glo _ _ rfl)) rfl ((PL.cons h1 (PL.cons h2 PL.nil he2) he).then (((qname_fc g hx hy h0 (n := n) (M := S.M)).fn env S.μ).mono fun a S' e => ⟨e.2.1, back_eq e.1 e.2.2⟩)) he hplain
theorem PE.dear {n : Nat} {env : Env} {S : St} {e1 e2 : Expr} {p pos : Pos} {a d : Addr} {way : Nat} {l : List (Str × Str)} (hk : env.kindOf "_law_dear" = some .globalImplicit) (hw : way < 5) (hM : (a, AO.obj 154 d (AccKv 0) (some l)) ∈ S.M) (hz : l.length ≤ 10) (hq : ∀ q ∈ l, q.1.length ≤ 100 ∧ q.2.length ≤ 100) (hs : (pileStr l).length ≤ 60) (h0 : 0 < pileLen l) (hb : pileLen l ≤ 1000)
    (h1 : PE (CA w mg mb) (n + 4) env S e1 (.raw (.ref a))) (h2 : PE (CA w mg mb) (n + 4) env S e2 (.raw (.ref (handF way))))
    (he : starEach [e1, e2] env = (false, eval e1 env) :: starEach [e2] env := by rfl) (he2 : starEach [e2] env = (false, eval e2 env) :: starEach [] env := by rfl) (hplain : (backTo pos (starEach [e2] env)).any (·.1) = false := by rfl) :
    PE (CA w mg mb) (n + 4) env S (.Call (.Name "_law_dear" p) [e1, e2] [] pos) (.str (toString (dearV way l))) :=
  EV.callK (PE.glob hk (g.glo _ _ rfl)) rfl ((PL.cons h1 (PL.cons h2 PL.nil he2) he).then (((dear_fn g hw hM hz hq hs h0 hb (n := n)).fn env S.μ).mono fun a S' e => ⟨e.2.1, back_eq e.1 e.2.2⟩)) he hplain
theorem PE.reach {n : Nat} {env : Env} {S : St} {e1 : Expr} {p pos : Pos} {x : Str} (hk : env.kindOf "reach" = some .globalImplicit) (hx : noDigit x) (hz : x.length ≤ 1000) (h1 : PE (CA w mg mb) (n + 2) env S e1 (.str x))
    (he : starEach [e1] env = (false, eval e1 env) :: starEach [] env := by rfl) : PE (CA w mg mb) (n + 2) env S (.Call (.Name "reach" p) [e1] [] pos) (.str (reachF x)) :=
  EV.callK (PE.glob hk (g.glo _ _ rfl)) rfl ((PL.cons h1 PL.nil he).then (((reach_fn g hx (by have sl : sizeLine = 16777216 := by decide
                                                                                              lia) (n := n) (M := S.M)) env S.μ).mono fun a S' e => ⟨e.2.1, back_eq e.1 e.2.2⟩)) he
theorem insL_row {n : Nat} {M : List (Addr × AO)} {i : Nat} {r : Addr} {l : List Str} {x : Str} (hM : M[i]? = some (r, AO.list (qns l))) (hz : l.length ≤ 1000) (hs : SortedS l) :
    FN (CA w mg mb) (n + 3) 65 M [.raw (.ref r), .qn 258 x] (fun a M' => a = .none ∧ M' = M.set i (r, .list (qns (l.take (ahead l x) ++ x :: l.drop (ahead l x))))) := by
  have h := insL_fn g (n := n) (xv := .qn 258 x) (k := ahead l x) (p := fun c => slt (qtx c) x) hM (by simp [qns]; exact hz) (by simp [qns]; exact ahead_le l x) (fun c hc env μ => by
    obtain ⟨t, _, rfl⟩ := qns_mem hc; exact O.ltQQ g) (fun j c hc => by obtain ⟨t, ht, rfl⟩ := qns_get hc; exact ahead_spec hs x j t ht)
  rw [insAt_qns] at h; exact h
theorem insR_row {n : Nat} {M : List (Addr × AO)} {i k : Nat} {r : Addr} {l : List Str} {x : Str} (hM : M[i]? = some (r, AO.list (qns l))) (hz : l.length ≤ 1000) (hk : k ≤ l.length) (hp : ∀ i c, l[i]? = some c → slt x c = decide (k ≤ i)) :
    FN (CA w mg mb) (n + 3) 47 M [.raw (.ref r), .qn 258 x] (fun a M' => a = .none ∧ M' = M.set i (r, .list (qns (l.take k ++ x :: l.drop k)))) := by
  have h := insR_fn g (n := n) (xv := .qn 258 x) (k := k) (p := fun c => slt x (qtx c)) hM (by simp [qns]; exact hz) (by simp [qns]; exact hk) (fun c hc env μ => by
    obtain ⟨t, _, rfl⟩ := qns_mem hc; exact O.ltQQ g) (fun j c hc => by obtain ⟨t, ht, rfl⟩ := qns_get hc; exact hp j t ht)
  rw [insAt_qns] at h; exact h
theorem bisR_row {n : Nat} {M : List (Addr × AO)} {k : Nat} {r : Addr} {l : List Str} {x : Str} (hM : (r, AO.list (qns l)) ∈ M) (hz : l.length ≤ 1000) (hk : k ≤ l.length) (hp : ∀ i c, l[i]? = some c → slt x c = decide (k ≤ i)) :
    FN (CA w mg mb) (n + 2) 56 M [.raw (.ref r), .str x] (fun a M' => a = .int k ∧ M' = M) :=
  bisR_fn g (n := n) (xv := .str x) (k := k) (p := fun c => slt x (qtx c)) (.inl rfl) hM (by simp [qns]; exact hz) (by simp [qns]; exact hk) (fun c hc env μ => by
    obtain ⟨t, _, rfl⟩ := qns_mem hc; exact O.ltSQ g) (fun j c hc => by obtain ⟨t, ht, rfl⟩ := qns_get hc; exact hp j t ht)
theorem bisL_row {n : Nat} {M : List (Addr × AO)} {k : Nat} {r : Addr} {l : List Str} {x : Str} (hM : (r, AO.list (qns l)) ∈ M) (hz : l.length ≤ 1000) (hk : k ≤ l.length) (hp : ∀ i c, l[i]? = some c → slt c x = decide (i < k)) :
    FN (CA w mg mb) (n + 2) 74 M [.raw (.ref r), .str x] (fun a M' => a = .int k ∧ M' = M) :=
  bisL_fn g (n := n) (xv := .str x) (k := k) (p := fun c => slt (qtx c) x) (.inl rfl) hM (by simp [qns]; exact hz) (by simp [qns]; exact hk) (fun c hc env μ => by
    obtain ⟨t, _, rfl⟩ := qns_mem hc; exact O.ltQS g) (fun j c hc => by obtain ⟨t, ht, rfl⟩ := qns_get hc; exact hp j t ht)
end
end Mine
end
section
set_option tactic.hygienic false
namespace Mine
section
variable (span price : Nat → Nat)
noncomputable def spanL (l : List Nat) : Nat := (l.map span).sum
noncomputable def priceL (l : List Nat) : Nat := (l.map price).sum
noncomputable def costL : Nat → List Nat → Nat
  | _, [] => 0
  | t, n :: l => price n * (t + span n) + costL (t + span n) l
theorem spanL_append (a b : List Nat) : spanL span (a ++ b) = spanL span a + spanL span b := by simp [spanL]
theorem priceL_append (a b : List Nat) : priceL price (a ++ b) = priceL price a + priceL price b := by simp [priceL]
theorem costL_append : ∀ (t : Nat) (a b : List Nat), costL span price t (a ++ b) = costL span price t a + costL span price (t + spanL span a) b
  | t, [], b => by simp [costL, spanL]
  | t, n :: a, b => by
    simp only [List.cons_append, costL]
    rw [costL_append (t + span n) a b]
    have : spanL span (n :: a) = span n + spanL span a := by simp [spanL]
    rw [this, Nat.add_assoc t, Nat.add_assoc]
theorem costL_shift : ∀ (t d : Nat) (a : List Nat), costL span price (t + d) a = costL span price t a + d * priceL price a
  | t, d, [] => by simp [costL, priceL]
  | t, d, n :: a => by
    simp only [costL]
    have e : t + d + span n = t + span n + d := by lia
    rw [e, costL_shift (t + span n) d a]
    have : priceL price (n :: a) = price n + priceL price a := by simp [priceL]
    rw [this, Nat.mul_add (price n) (t + span n) d, Nat.mul_add d, Nat.mul_comm d (price n)]
    lia
theorem costL_swap {t : Nat} {a b c : List Nat} (h : priceL price b * spanL span a ≤ priceL price a * spanL span b) : costL span price t (a ++ b ++ c) ≤ costL span price t (b ++ a ++ c) := by
  simp only [costL_append, costL_shift span price t (spanL span a) b, costL_shift span price t (spanL span b) a, spanL_append]
  have e : t + (spanL span a + spanL span b) = t + (spanL span b + spanL span a) := by lia
  rw [e]
  have h' : spanL span a * priceL price b ≤ spanL span b * priceL price a := by rw [Nat.mul_comm, Nat.mul_comm (spanL span b)]; exact h
  lia
variable (N : Nat) (up : Nat → Nat)
noncomputable def Feas (f : Nat → Nat) (l : List Nat) : Prop := ∀ A x B, l = A ++ x :: B → x ≠ 0 → f x ∈ A
structure HGood (t0 : Nat) (pl : Nat → List Nat) (at_ : Nat → Nat) (row : List Nat) : Prop where
  nd : (0 :: row).Nodup
  head : ∀ r ∈ 0 :: row, ∃ l, pl r = r :: l
  atm : ∀ j, j < N → at_ j ∈ 0 :: row
  atp : ∀ j, j < N → ∀ r ∈ 0 :: row, j ∈ pl r ↔ at_ j = r
  ge : ∀ r ∈ 0 :: row, ∀ n ∈ pl r, r ≤ n ∧ n < N
  chain : ∀ r ∈ 0 :: row, ∀ A x B, pl r = A ++ x :: B → A ≠ [] → up x ∈ A
  perm : ((0 :: row).flatMap pl).Perm (List.range N)
  opt : ∀ σ, σ.Perm (List.range N) → Feas up σ → ∃ τ, τ.Perm (0 :: row) ∧ Feas (fun r => at_ (up r)) τ ∧ costL span price t0 (τ.flatMap pl) ≤ costL span price t0 σ
variable {span price N up}
theorem ratio_flat {pl : Nat → List Nat} {r : Nat} : ∀ (B : List Nat), (∀ c ∈ B, priceL price (pl c) * spanL span (pl r) ≤ priceL price (pl r) * spanL span (pl c)) → priceL price (B.flatMap pl) * spanL span (pl r) ≤ priceL price (pl r) * spanL span (B.flatMap pl)
  | [], _ => by simp [priceL]
  | c :: B, h => by
    have ih := ratio_flat B fun c hc => h c (List.mem_cons_of_mem _ hc)
    have h1 := h c (List.mem_cons_self ..)
    rw [List.flatMap_cons, priceL_append, spanL_append, Nat.add_mul, Nat.mul_add]
    lia
noncomputable def mPl (pl : Nat → List Nat) (h r : Nat) : Nat → List Nat := fun j => if j = h then pl h ++ pl r else if j = r then [] else pl j
noncomputable def mAt (at_ : Nat → Nat) (h r : Nat) : Nat → Nat := fun j => if at_ j = r then h else at_ j
theorem flat_same {pl pl' : Nat → List Nat} {l : List Nat} (h : ∀ c ∈ l, pl' c = pl c) : l.flatMap pl' = l.flatMap pl := by
  induction l with
  | nil => rfl
  | cons c l ih => rw [List.flatMap_cons, List.flatMap_cons, h c (List.mem_cons_self ..), ih fun c hc => h c (List.mem_cons_of_mem _ hc)]
theorem HGood.step {t0 : Nat} {pl : Nat → List Nat} {at_ : Nat → Nat} {row row' : List Nat} (G : HGood span price N up t0 pl at_ row) (hup : ∀ j, 0 < j → j < N → up j < j) {r : Nat} (hr : r ∈ row)
    (hmax : ∀ c ∈ row, priceL price (pl c) * spanL span (pl r) ≤ priceL price (pl r) * spanL span (pl c)) (hrow : (r :: row').Perm row) :
    at_ (up r) ≠ r ∧ at_ (up r) ∈ 0 :: row' ∧ HGood span price N up t0 (mPl pl (at_ (up r)) r) (mAt at_ (at_ (up r)) r) row' := by
  have hr0 : r ∈ 0 :: row := List.mem_cons_of_mem _ hr
  have rne : r ≠ 0 := fun e => (List.nodup_cons.mp G.nd).1 (e ▸ hr)
  obtain ⟨lr, elr⟩ := G.head r hr0
  have rN : r < N := (G.ge r hr0 r (by rw [elr]; simp)).2
  have upN : up r < N := Nat.lt_trans (hup r (by lia) rN) rN
  have hmem := G.atm (up r) upN
  generalize eh : at_ (up r) = h at *
  have upin : up r ∈ pl h := (G.atp _ upN _ hmem).mpr eh
  have hne : h ≠ r := by
    rintro rfl
    have := (G.ge _ hr0 _ upin).1
    have := hup h (by lia) rN
    lia
  have p0 : (r :: 0 :: row').Perm (0 :: row) := (List.Perm.swap ..).trans (hrow.cons 0)
  have nd1 : (r :: 0 :: row').Nodup := p0.nodup_iff.mpr G.nd
  have nd' : (0 :: row').Nodup := (List.nodup_cons.mp nd1).2
  have rnot : r ∉ 0 :: row' := (List.nodup_cons.mp nd1).1
  have sub : ∀ c ∈ 0 :: row', c ∈ 0 :: row := fun c hc => p0.mem_iff.mp (List.mem_cons_of_mem _ hc)
  have back : ∀ c ∈ 0 :: row, c ≠ r → c ∈ 0 :: row' := fun c hc hn => (List.mem_cons.mp (p0.mem_iff.mpr hc)).resolve_left hn
  have hm' : h ∈ 0 :: row' := back h hmem hne
  have pls : ∀ c, c ≠ h → c ≠ r → mPl pl h r c = pl c := fun c h1 h2 => by unfold mPl; rw [if_neg h1, if_neg h2]
  have plh : mPl pl h r h = pl h ++ pl r := by unfold mPl; rw [if_pos rfl]
  refine ⟨hne, hm', nd', fun c hc => ?_, fun j hj => ?_, fun j hj c hc => ?_, fun c hc n hn => ?_, fun c hc A x B e hA => ?_, ?_, fun σ hσ hf => ?_⟩
  · by_cases ch : c = h
    · subst ch
      obtain ⟨l, e⟩ := G.head c (sub c hc)
      exact ⟨l ++ pl r, by rw [plh, e]; rfl⟩
    · rw [pls c ch (fun e => rnot (e ▸ hc))]; exact G.head c (sub c hc)
  · unfold mAt
    split
    · exact hm'
    · rename_i hn; exact back _ (G.atm j hj) hn
  · have e1 := G.atp j hj c (sub c hc)
    have er := G.atp j hj r hr0
    unfold mAt
    by_cases ch : c = h
    · subst ch
      rw [plh, List.mem_append, e1, er]
      split
      · rename_i ha; simp [ha]
      · rename_i ha; simp [ha]
    · have cr : c ≠ r := fun e => rnot (e ▸ hc)
      rw [pls c ch cr, e1]
      split
      · rename_i ha; rw [ha]; exact ⟨fun e => absurd e.symm cr, fun e => absurd e.symm ch⟩
      · rfl
  · by_cases ch : c = h
    · subst ch
      rw [plh] at hn
      rcases List.mem_append.mp hn with hn | hn
      · exact G.ge c (sub c hc) n hn
      · have h1 := G.ge r hr0 n hn
        have h2 := G.ge c (sub c hc) _ upin
        have h3 := hup r (by lia) rN
        exact ⟨by lia, h1.2⟩
    · rw [pls c ch (fun e => rnot (e ▸ hc))] at hn; exact G.ge c (sub c hc) n hn
  · by_cases ch : c = h
    · subst ch
      rw [plh] at e
      rcases List.append_eq_append_iff.mp e with ⟨as, e1, e2⟩ | ⟨bs, e1, e2⟩
      · -- x lies in pl r
        rcases as with _ | ⟨a, as⟩
        · have ex : x = r := by
            rw [elr] at e2; simp at e2; exact e2.1.symm
          subst ex
          rw [e1, List.append_nil]; exact upin
        · have h1 := G.chain r hr0 (a :: as) x B e2 (by simp)
          rw [e1]; exact List.mem_append_right _ h1
      · rcases bs with _ | ⟨b, bs⟩
        · have ex : x = r := by
            rw [elr] at e2; simp at e2; exact e2.1
          subst ex
          simp at e1; rw [← e1]; exact upin
        · have eb : x = b := by simp at e2; exact e2.1
          subst eb
          exact G.chain c (sub c hc) A x bs e1 hA
    · rw [pls c ch (fun e => rnot (e ▸ hc))] at e; exact G.chain c (sub c hc) A x B e hA
  · -- what lies in all of them is the same
    obtain ⟨A, B, eAB⟩ := List.append_of_mem hm'
    have ndAB := nd'
    rw [eAB] at ndAB
    have hA : ∀ c ∈ A, c ≠ h ∧ c ≠ r := fun c hc => ⟨fun e => by
      subst e; exact (List.nodup_append.mp ndAB).2.2 c hc c (List.mem_cons_self ..) rfl, fun e => rnot (by rw [eAB, ← e]; exact List.mem_append_left _ hc)⟩
    have hB : ∀ c ∈ B, c ≠ h ∧ c ≠ r := fun c hc => ⟨fun e => by
      subst e; exact (List.nodup_cons.mp (List.nodup_append.mp ndAB).2.1).1 hc, fun e => rnot (by rw [eAB, ← e]; exact List.mem_append_right _ (List.mem_cons_of_mem _ hc))⟩
    have e1 : (0 :: row').flatMap (mPl pl h r) = A.flatMap pl ++ ((pl h ++ pl r) ++ B.flatMap pl) := by
      rw [eAB, List.flatMap_append, List.flatMap_cons, plh, flat_same fun c hc => pls c (hA c hc).1 (hA c hc).2, flat_same fun c hc => pls c (hB c hc).1 (hB c hc).2]
    rw [e1]
    refine List.Perm.trans ?_ G.perm
    have e2 : ((r :: 0 :: row').flatMap pl).Perm ((0 :: row).flatMap pl) := List.Perm.flatMap_right pl p0
    refine List.Perm.trans ?_ e2
    rw [eAB, List.flatMap_cons, List.flatMap_append, List.flatMap_cons]
    have s1 : (A.flatMap pl ++ ((pl h ++ pl r) ++ B.flatMap pl)).Perm (A.flatMap pl ++ (pl r ++ (pl h ++ B.flatMap pl))) := by
      refine List.Perm.append_left _ ?_
      rw [← List.append_assoc (pl r)]
      exact List.Perm.append_right _ List.perm_append_comm
    refine s1.trans ?_
    rw [← List.append_assoc, ← List.append_assoc (pl r)]
    exact List.Perm.append_right _ List.perm_append_comm
  · obtain ⟨τ, hp, hfe, hc⟩ := G.opt σ hσ hf
    have ndτ : τ.Nodup := hp.nodup_iff.mpr G.nd
    obtain ⟨A, D, eτ⟩ := List.append_of_mem (hp.mem_iff.mpr hr0)
    have hA : h ∈ A := by have h1 : at_ (up r) ∈ A := hfe A r D eτ rne; rwa [eh] at h1
    obtain ⟨A1, B, eA⟩ := List.append_of_mem hA
    subst eA
    have eτ2 : τ = A1 ++ h :: (B ++ r :: D) := by rw [eτ]; simp
    have nd2 := ndτ
    rw [eτ2] at nd2
    have n1 := List.nodup_append.mp nd2
    have n2 := List.nodup_cons.mp n1.2.1
    have n3 := List.nodup_append.mp n2.2
    have n4 := List.nodup_cons.mp n3.2.1
    have fA : ∀ c ∈ A1, c ≠ h ∧ c ≠ r := fun c hc => ⟨fun e => n1.2.2 c hc h (List.mem_cons_self ..) e, fun e => n1.2.2 c hc r (by simp) e⟩
    have fB : ∀ c ∈ B, c ≠ h ∧ c ≠ r := fun c hc => ⟨fun e => n2.1 (e ▸ List.mem_append_left _ hc), fun e => n3.2.2 c hc r (List.mem_cons_self ..) e⟩
    have fD : ∀ c ∈ D, c ≠ h ∧ c ≠ r := fun c hc => ⟨fun e => n2.1 (e ▸ by simp [hc]), fun e => n4.1 (e ▸ hc)⟩
    have zB : ∀ c ∈ B, c ∈ row := fun c hc => by
      have hm : c ∈ 0 :: row := hp.mem_iff.mp (by rw [eτ2]; simp [hc])
      rcases List.mem_cons.mp hm with rfl | hm
      · exfalso
        rcases A1 with _ | ⟨x, A1⟩
        · have := hfe [] h (B ++ r :: D) (by rw [eτ2, List.nil_append]; done) (fun e => (fB 0 hc).1 e.symm)
          cases this
        · have x0 : x ≠ 0 := fun e => by
            subst e
            exact n1.2.2 0 (List.mem_cons_self ..) 0 (by simp [hc]) rfl
          have := hfe [] x (A1 ++ h :: (B ++ r :: D)) (by rw [eτ2]; rfl) x0
          cases this
      · exact hm
    refine ⟨A1 ++ h :: (B ++ D), ?_, ?_, ?_⟩
    · have : (r :: (A1 ++ h :: (B ++ D))).Perm (r :: 0 :: row') := by
        refine List.Perm.trans ?_ (hp.trans p0.symm)
        rw [eτ2]
        have e3 : A1 ++ h :: (B ++ r :: D) = (A1 ++ h :: B) ++ r :: D := by simp
        have e4 : A1 ++ h :: (B ++ D) = (A1 ++ h :: B) ++ D := by simp
        rw [e3, e4]
        exact List.perm_middle.symm
      exact this.cons_inv
    · intro P x Q e hx
      have base : ∀ P' Q', τ = P' ++ x :: Q' → (∀ c ∈ P', c ≠ r → c ∈ P) → (r ∈ P' → h ∈ P) → mAt at_ h r (up x) ∈ P := fun P' Q' e' h1 h2 => by
        have h0 : at_ (up x) ∈ P' := hfe P' x Q' e' hx
        unfold mAt
        split
        · rename_i ha; rw [ha] at h0; exact h2 h0
        · rename_i ha; exact h1 _ h0 ha
      have e3 : A1 ++ h :: (B ++ D) = (A1 ++ h :: B) ++ D := by simp
      rw [e3] at e
      rcases List.append_eq_append_iff.mp e with ⟨as, e1, e2⟩ | ⟨bs, e1, e2⟩
      · -- x in D
        refine base (A1 ++ h :: B ++ r :: as) Q (by rw [eτ, e2]; simp) (fun c hc hn => ?_) (fun _ => by rw [e1]; simp)
        rw [e1]
        simp only [List.mem_append, List.mem_cons] at hc ⊢
        rcases hc with (hc | hc | hc) | hc | hc
        · exact .inl (.inl hc)
        · exact .inl (.inr (.inl hc))
        · exact .inl (.inr (.inr hc))
        · exact absurd hc hn
        · exact .inr hc
      · rcases bs with _ | ⟨b, bs⟩
        · simp at e2
          rcases D with _ | ⟨d, D⟩
          · simp at e2
          · simp at e2
            obtain ⟨rfl, rfl⟩ := e2
            have eP : P = A1 ++ h :: B := by simpa using e1.symm
            refine base (A1 ++ h :: B ++ [r]) Q (by rw [eτ]; simp) (fun c hc hn => ?_) (fun _ => by rw [eP]; simp)
            rw [eP]
            simp only [List.mem_append, List.mem_singleton] at hc ⊢
            rcases hc with hc | hc
            · exact hc
            · exact absurd hc hn
        · have eb : x = b := by simp at e2; exact e2.1
          subst eb
          refine base P (bs ++ r :: D) (by rw [eτ, e1]; simp) (fun c hc _ => hc) (fun hrP => ?_)
          exfalso
          have : r ∈ A1 ++ h :: B := by rw [e1]; exact List.mem_append_left _ hrP
          simp only [List.mem_append, List.mem_cons] at this
          rcases this with hh | hh | hh
          · exact (fA r hh).2 rfl
          · exact hne hh.symm
          · exact (fB r hh).2 rfl
    · refine Nat.le_trans ?_ hc
      have e1 : (A1 ++ h :: (B ++ D)).flatMap (mPl pl h r) = (A1.flatMap pl ++ pl h) ++ (pl r ++ B.flatMap pl ++ D.flatMap pl) := by
        rw [List.flatMap_append, List.flatMap_cons, List.flatMap_append, plh, flat_same fun c hc => pls c (fA c hc).1 (fA c hc).2, flat_same fun c hc => pls c (fB c hc).1 (fB c hc).2, flat_same fun c hc => pls c (fD c hc).1 (fD c hc).2]
        simp
      have e2 : τ.flatMap pl = (A1.flatMap pl ++ pl h) ++ (B.flatMap pl ++ pl r ++ D.flatMap pl) := by
        rw [eτ2, List.flatMap_append, List.flatMap_cons, List.flatMap_append, List.flatMap_cons]
        simp
      rw [e1, e2, costL_append, costL_append span price t0 (A1.flatMap pl ++ pl h)]
      exact Nat.add_le_add_left (costL_swap span price (ratio_flat B fun c hc => hmax c (zB c hc))) _
end
end Mine
namespace Mine
variable {span price : Nat → Nat} {N : Nat} {up : Nat → Nat}
theorem flat_self (l : List Nat) : l.flatMap (fun j => [j]) = l := by
  induction l with
  | nil => rfl
  | cons a l ih => rw [List.flatMap_cons, ih]; rfl
theorem HGood.init {t0 : Nat} {row : List Nat} (h : (0 :: row).Perm (List.range N)) : HGood span price N up t0 (fun j => [j]) id row := by
  have nd : (0 :: row).Nodup := h.nodup_iff.mpr List.nodup_range
  refine ⟨nd, fun r _ => ⟨[], rfl⟩, fun j hj => h.mem_iff.mpr (List.mem_range.mpr hj), fun j hj r hr => ?_, fun r hr n hn => ?_, fun r hr A x B e hA => ?_, ?_, fun σ hσ hf => ⟨σ, hσ.trans h.symm, hf, ?_⟩⟩
  · simp
  · have e : n = r := by simpa using hn
    subst e
    exact ⟨Nat.le_refl _, List.mem_range.mp (h.mem_iff.mp hr)⟩
  · rcases A with _ | ⟨a, A⟩
    · exact absurd rfl hA
    · simp at e
  · rw [flat_self]; exact h
  · rw [flat_self]; exact Nat.le_refl _
theorem HGood.final {t0 : Nat} {pl : Nat → List Nat} {at_ : Nat → Nat} (G : HGood span price N up t0 pl at_ []) : (pl 0).Perm (List.range N) ∧ Feas up (pl 0) ∧ ∀ σ, σ.Perm (List.range N) → Feas up σ → costL span price t0 (pl 0) ≤ costL span price t0 σ := by
  refine ⟨by simpa using G.perm, fun A x B e hx => ?_, fun σ hσ hf => ?_⟩
  · obtain ⟨l, e0⟩ := G.head 0 (List.mem_cons_self ..)
    refine G.chain 0 (List.mem_cons_self ..) A x B e ?_
    rintro rfl
    rw [e0] at e
    simp at e
    exact hx e.1.symm
  · obtain ⟨τ, hp, _, hc⟩ := G.opt σ hσ hf
    have : τ = [0] := List.perm_singleton.mp hp
    subst this
    simpa using hc
end Mine
end
section
open PySem PySem.W PySem.Calls PyProof.Rows
set_option tactic.hygienic false
namespace Mine
structure Job where
  up : Nat → Nat
  ts : Nat → Str
  nm : Nat → Str
  way : Nat
noncomputable def Job.span (J : Job) (j : Nat) : Nat := 1 + (J.ts j).length
noncomputable def Job.price (J : Job) (j : Nat) : Nat := (esc J.way (J.ts j)).length - (J.ts j).length
structure JOk (J : Job) : Prop where
  way : J.way < 5
  up : ∀ j, 0 < j → j < 6 → J.up j < j
  ts : ∀ j, j < 6 → (J.ts j).length ≤ 2
  dig : ∀ j, j < 6 → noDigit (J.nm j)
  len : ∀ j, j < 6 → (J.nm j).length ≤ 200
  pos : ∀ j, j < 6 → 0 < (J.nm j).length
  reach : ∀ j, 0 < j → j < 6 → reachF (J.nm j) = "." ++ J.nm (J.up j)
  item : ∀ j, j < 6 → Txt.item ("." ++ J.nm j) 1 = ltr j
  /-- what the first sort of costs says: numbers of nine figures -/
  nine : ∀ l : List Nat, l.Nodup → (∀ n ∈ l, n < 6) → l ≠ [] → Nine (dearV J.way (pcs J.ts l))
  /-- dearer is what costs more in a unit of time -/
  cmp : ∀ l l' : List Nat, l.Nodup → (∀ n ∈ l, n < 6) → l ≠ [] → l'.Nodup → (∀ n ∈ l', n < 6) → l' ≠ [] → dearV J.way (pcs J.ts l) ≤ dearV J.way (pcs J.ts l') → priceL J.price l' * spanL J.span l ≤ priceL J.price l * spanL J.span l'
noncomputable def Job.txt (J : Job) (pl : Nat → List Nat) (r : Nat) : Str := brace (Str.ofString (toString (dearV J.way (pcs J.ts (pl r))))) (ltr r)
section
variable {J : Job}
theorem pcs_ok (ok : JOk J) {l : List Nat} (hl : ∀ n ∈ l, n < 6) : ∀ q ∈ pcs J.ts l, q.1.length ≤ 100 ∧ q.2.length ≤ 100 := fun q hq => by
  obtain ⟨j, hj, rfl⟩ := List.mem_map.mp hq
  have := ok.ts j (hl j hj)
  exact ⟨by simp [ltr, Str.length], by show (J.ts j).length ≤ 100; lia⟩
theorem pileLen_pcs (ok : JOk J) : ∀ {l : List Nat}, (∀ n ∈ l, n < 6) → l.length ≤ pileLen (pcs J.ts l) ∧ pileLen (pcs J.ts l) ≤ 3 * l.length
  | [], _ => by simp [pcs, pileLen]
  | j :: l, h => by
    have ih := pileLen_pcs ok (l := l) fun n hn => h n (List.mem_cons_of_mem _ hn)
    have h1 := ok.ts j (h j (List.mem_cons_self ..))
    have : pileLen (pcs J.ts (j :: l)) = (1 + (J.ts j).length) + pileLen (pcs J.ts l) := by
      simp only [pcs, pileLen, List.map_cons, List.sum_cons, pieceLen]; rfl
    rw [this, List.length_cons]; lia
theorem join2_len (a b : Str) : (Txt.join "" [a, b]).length = a.length + b.length := by
  have e : Txt.join "" [a, b] = a ++ "" ++ b := rfl
  rw [e, strLen_append, strLen_append]
  have : ("" : Str).length = 0 := rfl
  lia
end
end Mine
namespace Mine
theorem pileStr_len {J : Job} (ok : JOk J) {l : List Nat} (hl : ∀ n ∈ l, n < 6) (hz : l.length ≤ 6) : (pileStr (pcs J.ts l)).length ≤ 60 := by
  unfold pileStr
  rw [show ∀ x, Txt.join "" x = Str.join "" x from fun x => StrLaws.glued_eq_join _ _]
  refine Nat.le_trans (StrLaws.join_length_le "" _) ?_
  have e0 : ("" : Str).length = 0 := rfl
  rw [e0, Nat.mul_zero, Nat.add_zero, List.map_map]
  have : ∀ m : List Nat, (∀ n ∈ m, n < 6) → ((pcs J.ts m).map ((·.length) ∘ fun q => Txt.join "" [q.1, q.2])).sum ≤ 3 * m.length := fun m => by
    induction m with
    | nil => intro _; simp [pcs]
    | cons j m ih =>
      intro h
      have h1 := ih fun n hn => h n (List.mem_cons_of_mem _ hn)
      have h2 := ok.ts j (h j (List.mem_cons_self ..))
      simp only [pcs, List.map_cons, List.sum_cons, List.length_cons, Function.comp, join2_len] at h1 ⊢
      have : (ltr j).length = 1 := rfl
      lia
  have := this l hl
  lia
theorem chars6 : chars "abcdef" = (List.range 6).map fun j => .str (ltr j) := by rfl
section
variable {C : Cx} (ok : C.Ok) {n : Nat} {env : Env} {S : St}
include ok
theorem ET.isnt {l : Expr} {k : Nat} {p pos : Pos} {P : Bool → St → Prop} (h : EV C n env S l fun a S₁ => ∃ t, O.isNone a = some t ∧ P (!t) S₁) : ET C n env S (.Compare l [.IsNot] [.Constant .none k p] pos) P :=
  ET.cmp (G.mono h fun a S₁ ⟨t, h1, h2⟩ => PE.nul.then (G2.mono (O.isnt_none_ ok h1) fun c S₃ e => by rw [e.1, e.2]; exact G1.mono T1.bool fun b S₄ e => by rw [e.1, e.2]; exact h2))
end
section
variable {M0 : List (Addr × AO)} {m : Nat} {aA aR : Addr} {p d : Nat → Addr} {ts : Nat → Str} {at_ : Nat → Nat} {row : List AV} {pl : Nat → List Nat} {e : Addr × AO}
theorem lay_at1 : ((M0 ++ lay m aA aR p d ts at_ row pl) ++ [e])[M0.length]? = some (aA, .sdict (atL m p at_)) := by
  rw [List.getElem?_append_left (by simp [lay])]; exact lay_at
theorem lay_set_at1 {l : List (Str × AV)} : ((M0 ++ lay m aA aR p d ts at_ row pl) ++ [e]).set M0.length (aA, .sdict l) = M0 ++ (aA, .sdict l) :: (aR, .list row) :: (plM m p d ts pl ++ [e]) := by
  rw [List.set_append_left _ _ (by simp [lay]), lay_set_at]; simp
end
theorem txt_inj {J : Job} {pl pl' : Nat → List Nat} {r r' : Nat} (h : J.txt pl r = J.txt pl' r') : r = r' := by
  have h1 := congrArg (fun x : Str => x.cps.toList.getLast?) h
  simp only [Job.txt, brace_cps] at h1
  have h2 : ∀ (a b : List Nat) (c : Nat), (123 :: a ++ 125 :: [c]).getLast? = some c := fun a b c => by
    rw [List.getLast?_append]; simp
  have e1 : (ltr r).cps.toList = [97 + r] := rfl
  have e2 : (ltr r').cps.toList = [97 + r'] := rfl
  rw [e1, e2, h2 _ [], h2 _ []] at h1
  have := Option.some.inj h1
  lia
theorem nine_len {a : Int} (h : Nine a) : (Str.ofString (toString a)).length = 9 := by
  rw [len_eq, toString_dig h.1 h.2, dig_length]
noncomputable def runμ (aH aT aA aR : Addr) (hf : Addr) (late : Bool) : List (Str × AV) := [("late", .bool late), ("hand", .raw (.ref hf)), ("tails", .raw (.ref aT)), ("hosts", .raw (.ref aH)), ("at", .raw (.ref aA)), ("row", .raw (.ref aR))]
noncomputable def one (j : Nat) : List Nat := [j]
end Mine
namespace Mine
section
variable {C : Cx} {n : Nat} {env : Env} {S : St}
theorem G.withNd {α β : Type} {RR : Heap → List Addr → α → β → Prop} {m : Sem α} {P : β → St → Prop} (h : (feet S.M).Nodup → G C n env RR S m P) : G C n env RR S m P :=
  fun A Y s₀ D s Q a R q => h (List.nodup_append.mp R.nd).2.1 A Y s₀ D s Q a R q
theorem G.weak {α β : Type} {RR : Heap → List Addr → α → β → Prop} {m : Sem α} {P : β → St → Prop} {S0 : St} (le : Le S0 S) (h : G C n env RR S0 m P) : G C n env RR S m P := by
  intro A Y s₀ D s Q a R q
  refine h A Y s₀ D s Q a (R.le le) fun r s' b S'' p R' K' rr => q r s' b S'' p R' (fun v av hv => K' v av ?_) rr
  unfold Xo at hv ⊢
  rw [le.1]; exact hv
theorem NX.weak {rest : List Stmt} {P : AF → St → Prop} {S0 : St} (le : Le S0 S) (h : NX C n env rest P .next S0) : NX C n env rest P .next S := G.weak le h
end
theorem p_inj {M0 : List (Addr × AO)} {m : Nat} {aA aR : Addr} {p d : Nat → Addr} {ts : Nat → Str} {at_ : Nat → Nat} {row : List AV} {pl : Nat → List Nat} (nd : (feet (M0 ++ lay m aA aR p d ts at_ row pl)).Nodup) {i j : Nat} (hi : i < m) (hj : j < m) (e : p i = p j) : i = j := by
  by_cases h : i = j
  · exact h
  · exfalso
    have := feet_apart nd (lay_pl (M0 := M0) (aA := aA) (aR := aR) (p := p) (d := d) (ts := ts) (at_ := at_) (row := row) (pl := pl) hi) (lay_pl hj) (by lia) (b := p i) (List.mem_cons_self ..)
    exact this (e ▸ List.mem_cons_self ..)
section
variable {w : World} {mg mb : Str → Option Value} (g : GA w mg mb)
include g
theorem EV.textE {n : Nat} {env : Env} {S : St} {e : Expr} {pos : Pos} {P : AV → St → Prop} (h : EV (CA w mg mb) n env S e fun a S₁ => ∃ y, a = .qn 258 y ∧ P (.str y) S₁)
    (hbase : attributeBase e "text" env (eval e env) = eval e env := by rfl) : EV (CA w mg mb) n env S (.Attribute e "text" pos) P := fun A Y s₀ D s Q ha R q => by
  show wpAny _ _ (eval (.Attribute e "text" pos) env) _ _ _
  rw [arm_eval_Attribute, hbase]
  refine wpAny_bind (h A Y s₀ D s _ ha R fun v s₁ a S₁ p R₁ K₁ r => ?_)
  obtain ⟨y, rfl, hP⟩ := p
  refine VR.el_qn r fun _ _ _ _ e1 e2 e3 n1 n2 => ?_
  ·
    refine wpAny_bind (wpAny_standAt (wpAny_bind (wpAny_holding (getText R₁.bs.K e1 e2 e3 ?_))))
    exact wpAny_bind (wpAny_letTemporaryGo (wpAny_pure (q _ _ _ _ hP (R₁.go (okA g) (.toks ..)) (K₁.trans (Kp.go R₁ (.toks ..))) (.str ..))))
theorem EV.popF {n : Nat} {env : Env} {S : St} {o e1 : Expr} {apos pos : Pos} {P : AV → St → Prop} {j i : Nat} {p d : Addr} {k : Nat} {l : List (Str × Str)} (ho : PE (CA w mg mb) (n + 1) env S o (.raw (.ref p))) (hM : S.M[j]? = some (p, AO.obj 154 d (AccKv k) (some l))) (hz : l.length ≤ 1000) (hi : i ≤ l.length)
    (h1 : PE (CA w mg mb) (n + 1) env S e1 (.int i)) (h : P (.lst ((l.drop i).map pieceAV)) ⟨S.μ, S.M.set j (p, AO.obj 154 d (AccKv k) (some (l.take i)))⟩)
    (hbase : attributeBase o "pop_from" env (eval o env) = eval o env := by rfl)
    (hfew : ((backTo pos (starEach [e1] env)).all (fun x => !x.1) && (backToKw pos (keywordEach [] env)).all (fun x => x.1.isSome) && decide ([e1].length + ([] : List Keyword).length + (if ([] : List Keyword).isEmpty then 0 else 1) < 30)) = true := by rfl)
    (hline : (apos.endLine == pos.line) = true := by rfl)
    (he : starEach [e1] env = (false, eval e1 env) :: starEach [] env := by rfl) (hplain : (backTo pos (starEach [] env)).any (·.1) = false := by rfl) :
    EV (CA w mg mb) (n + 1) env S (.Call (.Attribute o "pop_from" apos) [e1] [] pos) P :=
  EV.ometh (acc_meth_pop_from g) (ho.then ⟨p, d, AccKv k, some l, rfl, mem_of_get? hM, (fun q hq => by cases hq; exact (show (Str.ofString "_initial_size" == Str.ofString "pop_from") = false by decide)), (PL.cons h1 PL.nil he).then (((pop_from_fn g hM hz hi (n := n)).self env S.μ).mono fun a S' e => by
    obtain ⟨e1, rfl, e3⟩ := e; rw [back_eq e1 e3]; exact h)⟩) hbase hfew hline he hplain
theorem EV.popL {n : Nat} {env : Env} {S : St} {o : Expr} {apos pos : Pos} {P : AV → St → Prop} {j : Nat} {p d : Addr} {k : Nat} {l : List (Str × Str)} {q : Str × Str} (ho : PE (CA w mg mb) (n + 2) env S o (.raw (.ref p))) (hM : S.M[j]? = some (p, AO.obj 154 d (AccKv k) (some (l ++ [q])))) (hz : l.length < 1000)
    (h : P (pieceAV q) ⟨S.μ, S.M.set j (p, AO.obj 154 d (AccKv k) (some l))⟩)
    (hbase : attributeBase o "pop" env (eval o env) = eval o env := by rfl) (hline : (apos.endLine == pos.line) = true := by rfl) :
    EV (CA w mg mb) (n + 2) env S (.Call (.Attribute o "pop" apos) [] [] pos) P :=
  EV.ometh0 (acc_meth_pop g) (ho.then ⟨p, d, AccKv k, some (l ++ [q]), rfl, mem_of_get? hM, (fun q hq => by cases hq; exact (show (Str.ofString "_initial_size" == Str.ofString "pop") = false by decide)), (((pop_fn g hM hz (n := n)).self env S.μ).mono fun a S' e => by
    obtain ⟨e1, rfl, e3⟩ := e; rw [back_eq e1 e3]; exact h)⟩) hbase hline
end
end Mine
namespace Mine
noncomputable def Job.dear (J : Job) (pl : Nat → List Nat) (r : Nat) : Int := dearV J.way (pcs J.ts (pl r))
theorem txt_eq (J : Job) (pl : Nat → List Nat) (r : Nat) : J.txt pl r = brace (Str.ofString (toString (J.dear pl r))) (ltr r) := rfl
theorem brace_len (x y : Str) : (brace x y).length = x.length + y.length + 2 := by
  rw [len_eq, brace_cps, len_eq, len_eq]; simp; lia
theorem tilde (D : Str) (j : Nat) : Txt.slice (brace D (ltr j)) none (some (-1)) ++ "~" = brace D "~" := by
  have hl : (brace D (ltr j)).length = D.length + 3 := by rw [brace_len]; rfl
  have h := beq_iff_eq.mp (slice_closes_to_neg (x := brace D (ltr j)) (j := -1) (k := -1 + ((brace D (ltr j)).length : Int)) (by decide) (by lia) rfl)
  rw [h]
  apply Str.ext'
  rw [cps_append, brace_cps, brace_cps]
  have e1 : (ltr j).cps.toList = [97 + j] := rfl
  have e2 : ("~" : Str).cps.toList = [126] := by decide
  have e3 : (-1 + ((brace D (ltr j)).length : Int) - 0).toNat = D.cps.toList.length + 2 := by rw [hl, len_eq]; lia
  rw [e1, e2, e3]
  simp only [List.toList_toArray]
  have e4 : (0 : Int).toNat = 0 := rfl
  rw [e4, List.drop_zero]
  have e5 : (123 :: D.cps.toList ++ [125, 97 + j]) = (123 :: D.cps.toList ++ [125]) ++ [97 + j] := by simp
  rw [e5, List.take_append_of_le_length (by simp), List.take_of_length_le (by simp)]
  simp
theorem pick {J : Job} {pl : Nat → List Nat} {row : List Nat} {r0 : Nat} {rest : List Nat} {late : Bool} (hr : row = r0 :: rest) (hs : SortedS (row.map (J.txt pl))) (h6 : ∀ c ∈ row, c < 6) (hn : ∀ c ∈ row, Nine (J.dear pl c)) :
    ∃ k r, row[k]? = some r ∧ (∀ i c, (row.map (J.txt pl))[i]? = some c → slt (if late then Txt.slice (J.txt pl r0) none (some (-1)) ++ "~" else J.txt pl r0) c = decide (k + 1 ≤ i)) ∧ ∀ c ∈ row, J.dear pl r ≤ J.dear pl c := by
  have hr0 : r0 ∈ row := by rw [hr]; exact List.mem_cons_self ..
  have first : ∀ c ∈ row, J.dear pl r0 ≤ J.dear pl c := fun c hc => by
    rcases Int.lt_or_le (J.dear pl c) (J.dear pl r0) with h | h
    · exfalso
      have h1 := brace_lt (hn c hc) (hn r0 hr0) h (ltr c) (ltr r0)
      rw [← txt_eq, ← txt_eq] at h1
      rw [hr, List.map_cons] at hs
      rw [hr] at hc
      rcases List.mem_cons.mp hc with rfl | hc
      · rw [slt_irrefl] at h1; cases h1
      · have h2 := (List.pairwise_cons.mp hs).1 _ (List.mem_map.mpr ⟨c, hc, rfl⟩)
        rw [slt_asymm h2] at h1; cases h1
    · exact h
  cases late with
  | false =>
    refine ⟨0, r0, by rw [hr]; rfl, fun i c hi => ?_, first⟩
    simp only [Bool.false_eq_true, if_false]
    rw [hr, List.map_cons] at hs hi
    cases i with
    | zero => simp at hi; subst hi; rw [slt_irrefl]; simp
    | succ i =>
      simp only [List.getElem?_cons_succ] at hi
      rw [(List.pairwise_cons.mp hs).1 _ (List.mem_of_getElem? hi)]; simp
  | true =>
    simp only [if_true]
    rw [txt_eq, tilde]
    obtain ⟨k, hk, hp⟩ := upto_spec hs (brace (Str.ofString (toString (J.dear pl r0))) "~")
    have hk0 : k ≠ 0 := by
      rintro rfl
      have := hp 0 (J.txt pl r0) (by rw [hr]; rfl)
      rw [txt_eq, brace_same] at this
      have h2 : slt "~" (ltr r0) = false := by
        have := h6 r0 hr0
        have : r0 = 0 ∨ r0 = 1 ∨ r0 = 2 ∨ r0 = 3 ∨ r0 = 4 ∨ r0 = 5 := by lia
        rcases this with rfl | rfl | rfl | rfl | rfl | rfl <;> decide
      rw [h2] at this; simp at this
    obtain ⟨j, rfl⟩ : ∃ j, k = j + 1 := ⟨k - 1, by lia⟩
    have hj : j < row.length := by simp at hk; lia
    refine ⟨j, row[j], by simp [hj], hp, fun c hc => ?_⟩
    have hrj : row[j] ∈ row := List.getElem_mem hj
    have h1 := hp j (J.txt pl row[j]) (by simp [hj])
    have h2 : J.dear pl row[j] ≤ J.dear pl r0 := by
      rcases Int.lt_or_le (J.dear pl r0) (J.dear pl row[j]) with h | h
      · exfalso
        have h3 := brace_lt (hn r0 hr0) (hn _ hrj) h "~" (ltr row[j])
        rw [← txt_eq, h1] at h3
        have h4 := of_decide_eq_true h3
        lia
      · exact h
    exact Int.le_trans h2 (first c hc)
theorem item_last (D : Str) (j : Nat) : Txt.item (brace D (ltr j)) (-1) = ltr j := by
  have hl : (brace D (ltr j)).length = D.length + 3 := by rw [brace_len]; rfl
  have h := beq_iff_eq.mp (item_closes_neg (x := brace D (ltr j)) (i := -1) (j := -1 + ((brace D (ltr j)).length : Int)) (by decide) (by lia) rfl)
  rw [h, hl]
  have e1 : (-1 + ((D.length + 3 : Nat) : Int)).toNat = D.length + 2 := by omega
  rw [e1]
  have e2 : (brace D (ltr j)).cps.getD (D.length + 2) 0 = 97 + j := by
    have e3 := brace_cps D (ltr j)
    have e4 : (ltr j).cps.toList = [97 + j] := rfl
    rw [e4] at e3
    rw [Array.getD_eq_getD_getElem?, ← Array.getElem?_toList, e3, len_eq]
    rw [show (123 :: D.cps.toList ++ [125, 97 + j]) = (123 :: D.cps.toList ++ [125]) ++ [97 + j] by simp, List.getElem?_append_right (by simp)]
    simp
  rw [e2]; rfl
theorem sorted_at {l : List Str} (hl : SortedS l) {j : Nat} {x : Str} (hj : l[j]? = some x) : ∀ i c, l[i]? = some c → slt c x = decide (i < j) := by
  intro i c hi
  have hlt := List.pairwise_iff_getElem.mp hl
  obtain ⟨h1, h2⟩ := List.getElem?_eq_some_iff.mp hi
  obtain ⟨h3, h4⟩ := List.getElem?_eq_some_iff.mp hj
  rcases Nat.lt_trichotomy i j with h | h | h
  · have := hlt i j h1 h3 h
    rw [h2, h4] at this
    rw [this]; simp [h]
  · subst h
    rw [h2] at h4; subst h4
    rw [slt_irrefl]; simp
  · have := hlt j i h3 h1 h
    rw [h2, h4] at this
    rw [slt_asymm this]; simp; lia
theorem erase_map {α β : Type} (f : α → β) : ∀ (l : List α) (k : Nat), (l.map f).eraseIdx k = (l.eraseIdx k).map f
  | [], _ => by simp
  | a :: l, 0 => by simp
  | a :: l, k + 1 => by simp [erase_map f l k]
theorem erase_perm : ∀ {row : List Nat} {k r : Nat}, row[k]? = some r → (r :: row.eraseIdx k).Perm row
  | [], k, r, h => by simp at h
  | a :: row, 0, r, h => by simp at h; subst h; exact List.Perm.refl _
  | a :: row, k + 1, r, h => by
    simp only [List.getElem?_cons_succ] at h
    rw [List.eraseIdx_cons_succ]
    exact (List.Perm.swap ..).trans ((erase_perm h).cons a)
theorem SortedS.sub {l l' : List Str} (h : SortedS l) (s : l'.Sublist l) : SortedS l' := List.Pairwise.sublist s h
theorem map_same {J : Job} {pl pl' : Nat → List Nat} {l : List Nat} (h : ∀ c ∈ l, pl' c = pl c) : l.map (J.txt pl') = l.map (J.txt pl) :=
  List.map_congr_left fun c hc => by simp [Job.txt, h c hc]
end Mine
namespace Mine
section
variable {C : Cx} (ok : C.Ok) {n : Nat} {env : Env} {S : St}
include ok
theorem E1_forT {target iter : Expr} {body : List Stmt} {pos : Pos} {l : List AV} {P : AF → St → Prop} (Inv : Nat → St → Prop) (ht : Plain target)
    (h : EV C n env S iter fun a S₁ => Iter C n env S₁ a l ∧ Inv 0 S₁)
    (turn : ∀ i S₁ x (T : AF → St → Prop), (∀ f S, Turn (Inv (i + 1)) P f S → T f S) → l[i]? = some x → Inv i S₁ → TG C n env S₁ target x fun S₂ => EX C n env S₂ body T)
    (fin : ∀ S₁, Inv l.length S₁ → P .next S₁)
    (hs : ∀ x, foldedSetIterable iter env x = pure x := by intro _; rfl) : E1 C n env S (.For target iter body [] pos) P :=
  E1_for ok Inv ht h (fun i S₁ x hx inv => turn i S₁ x _ (fun _ _ h => h) hx inv) fin hs
theorem E1_whileT {t : Expr} {body : List Stmt} {pos : Pos} {P : AF → St → Prop} (Inv : Nat → St → Prop) (k₀ : Nat) (h0 : Inv k₀ S)
    (turn : ∀ k S₁ (T P' : AF → St → Prop), (∀ f S, Turn (fun S₃ => ∃ j, j < k ∧ Inv j S₃) P f S → T f S) → (∀ f S, P f S → P' f S) → Inv k S₁ → ET C n env S₁ t fun b S₂ => if b then EX C n env S₂ body T else P' .next S₂) : E1 C n env S (.While t body [] pos) P :=
  E1_while ok Inv k₀ h0 fun k S₁ inv => turn k S₁ _ _ (fun _ _ h => h) (fun _ _ h => h) inv
end
end Mine
namespace Mine
theorem flat_len {f : Nat → List Nat} : ∀ {l : List Nat}, (∀ r ∈ l, 0 < (f r).length) → l.length ≤ (l.flatMap f).length
  | [], _ => by simp
  | a :: l, h => by
    have ih := flat_len (l := l) fun r hr => h r (List.mem_cons_of_mem _ hr)
    have h1 := h a (List.mem_cons_self ..)
    rw [List.flatMap_cons, List.length_append, List.length_cons]; lia
theorem HGood.facts {span price : Nat → Nat} {up : Nat → Nat} {t0 : Nat} {pl : Nat → List Nat} {at_ : Nat → Nat} {row : List Nat} (G : HGood span price 6 up t0 pl at_ row) : ∀ c ∈ 0 :: row, (pl c).Nodup ∧ (∀ n ∈ pl c, n < 6) ∧ pl c ≠ [] ∧ (pl c).length ≤ 6 := fun c hc =>
  ⟨nodup_flatMap_one (G.perm.nodup_iff.mpr List.nodup_range) hc, fun n hn => (G.ge c hc n hn).2, (fun e => by obtain ⟨l, e2⟩ := G.head c hc; rw [e] at e2; cases e2), by
    have h1 := G.perm.length_eq
    have h2 : (pl c).length ≤ ((0 :: row).flatMap pl).length := by
      obtain ⟨A, B, e⟩ := List.append_of_mem hc
      rw [e, List.flatMap_append, List.flatMap_cons]; simp; lia
    simp only [List.length_range] at h1; lia⟩
theorem ahead_flip {l : List Str} (hl : SortedS l) {x : Str} (hx : x ∉ l) : ∀ i c, l[i]? = some c → slt x c = decide (ahead l x ≤ i) := fun i c h => by
  have h1 := ahead_spec hl x i c h
  by_cases e : i < ahead l x
  · rw [decide_eq_true e] at h1
    rw [slt_asymm h1, decide_eq_false (by lia)]
  · rw [decide_eq_false e] at h1
    rw [slt_total h1 (fun q => hx (q ▸ List.mem_of_getElem? h)), decide_eq_true (by lia)]
section
variable {w : World} {mg mb : Str → Option Value} (g : GA w mg mb)
include g
theorem run_fn {n : Nat} {M0 : List (Addr × AO)} {aH aT : Addr} {hL tL : List (Str × AV)} {late : Bool} {J : Job} (jk : JOk J) (hH : (aH, .sdict hL) ∈ M0) (hT : (aT, .sdict tL) ∈ M0)
    (hh : ∀ j, j < 6 → aget hL (ltr j) = some (.str (J.nm j))) (ht : ∀ j, j < 6 → aget tL (ltr j) = some (.str (J.ts j))) :
    FC (CA w mg mb) (n + 8) 323 M0 [.raw (.ref aH), .raw (.ref aT), .raw (.ref (handF J.way)), .bool late] (fun av M' => ∃ aA aR p d at_ pl, av = .raw (.ref (p 0)) ∧ M' = M0 ++ lay 6 aA aR p d J.ts at_ [] pl ∧ ∀ t0, HGood J.span J.price 6 J.up t0 pl at_ []) := by
  have ok := okA g
  refine fc_plain ok (ab := [("hosts", .raw (.ref aH)), ("tails", .raw (.ref aT)), ("hand", .raw (.ref (handF J.way))), ("late", .bool late)]) ⟨⟨_, rfl, rfl⟩, ⟨_, _, _, _, rfl, rfl, rfl, rfl⟩, rfl, rfl, rfl, (fun x c h => by cases h), rfl, rfl, rfl, by decide⟩ (by decide) ?hb (by intro x hx; simp at hx; rcases hx with rfl | rfl | rfl | rfl <;> rfl) ?_
  case hb => exact fun hp X vs r _ _ => by
              refine VRs.el_cons r fun v1 _ r1 rs => ?_; refine VRs.el_cons rs fun v2 _ r2 rs => ?_; refine VRs.el_cons rs fun v3 _ r3 rs => ?_; refine VRs.el_cons rs fun v4 _ r4 rs => ?_; refine VRs.el_nil rs ?_; exact ⟨_, fun s _ => .of_eq rfl, .cons r1 (.cons r2 (.cons r3 (.cons r4 .nil)))⟩
  intro L
  refine EX.cons ?_
  refine E1.loc ok ?_
  refine EV.dict0 ok (sK _) fun aA => ?_
  refine EX.cons ?_
  refine E1.loc ok ?_
  refine EV.listM ok (EL.nil ⟨by decide, fun aR => ?_⟩)
  refine EX.cons ?_
  refine E1_forT ok (l := chars "abcdef") (fun i S => ∃ p d, ∃ row : List Nat, S = ⟨runμ aH aT aA aR (handF J.way) late, M0 ++ lay i aA aR p d J.ts id (qns (row.map (J.txt one))) one⟩ ∧ row.Perm ((List.range i).filter (· ≠ 0)) ∧ SortedS (row.map (J.txt one))) (.name _ _) (PE.then (PE.str ok) ⟨Iter.str ok, fun _ => 0, fun _ => 0, [], ?_, by simp, List.Pairwise.nil⟩) ?_ ?_
  · exact congr (congrArg St.mk rfl) (by simp [lay, plM, atL, qns, sK])
  · rintro i S₁ x T hTn hx ⟨p, d, row, rfl, hperm, hsort⟩
    rw [chars6, List.getElem?_map] at hx
    obtain ⟨i', hi', rfl⟩ := Option.map_eq_some_iff.mp hx
    have hi : i < 6 ∧ i' = i := by
      have := List.getElem?_eq_some_iff.mp hi'
      obtain ⟨h1, h2⟩ := this
      simp at h1 h2; lia
    obtain ⟨hi, rfl⟩ := hi
    have M0in : ∀ {m : Nat} {p d : Nat → Addr} {at_ : Nat → Nat} {row : List AV} {pl : Nat → List Nat} {q : Addr × AO}, q ∈ M0 → q ∈ M0 ++ lay m aA aR p d J.ts at_ row pl := fun h => List.mem_append_left _ h
    refine TG.loc ok ?_
    refine EX.cons ?_
    refine E1_dset ok (sK _) ?_
    refine EV.callK0 (PE.glob rfl (g.glo _ _ rfl)) rfl ((((acc_fc g (n := n + 5) (M := M0 ++ lay i' aA aR p d J.ts id (qns (row.map (J.txt one))) one) (.inl ⟨rfl, rfl⟩)).fn) _ _).mono fun a S₂ e => ?_)
    obtain ⟨e1, x, y, rfl, e3⟩ := e
    rw [back_eq e1 e3]
    refine ⟨M0.length, aA, _, ltr i', lay_at1, by simp [atL]; lia, PE.name rfl, PE.name rfl, ?_⟩
    have eM : ((M0 ++ lay i' aA aR p d J.ts id (qns (row.map (J.txt one))) one) ++ [(x, AO.obj 154 y (AccKv 0) (some []))]).set M0.length (aA, (sK (CA w mg mb)).ob (aset (atL i' p id) (ltr i') (.raw (.ref x)))) =
        M0 ++ lay (i' + 1) aA aR (fun j => if j = i' then x else p j) (fun j => if j = i' then y else d j) J.ts id (qns (row.map (J.txt one))) (fun j => if j = i' then [] else one j) := by
      rw [show (sK (CA w mg mb)).ob (aset (atL i' p id) (ltr i') (.raw (.ref x))) = AO.sdict (atL i' p id ++ [(ltr i', .raw (.ref x))]) by rw [aset_new]; rfl, lay_set_at1, lay_more (at_ := id) (fun j h => h)]
      congr 2
      funext j; by_cases h : j = i' <;> simp [h]
    rw [eM]
    generalize hp' : (fun j => if j = i' then x else p j) = p'
    generalize hd' : (fun j => if j = i' then y else d j) = d'
    obtain ⟨pl2, hpl2⟩ : ∃ f : Nat → List Nat, f = fun j => if j = i' then [] else one j := ⟨_, rfl⟩
    rw [← hpl2]
    have hpi : pl2 i' = [] := by rw [hpl2]; simp
    refine EX.cons ?_
    refine E1.ite ?_
    have hli : i' < i' + 1 := Nat.lt_succ_self _
    refine ET.isnt ok ?_
    refine EV.push g (PE.sub (PE.name rfl) (PE.name rfl) (O.dsub ok (sK _) (x := ltr i') (mem_of_get? lay_at) (show aget (atL (i' + 1) p' id) (ltr i') = some (.raw (.ref (p' i'))) from aget_atL hli) (fun t u h => ?_))) (lay_pl hli) (by rw [hpi]; simp [pcs]) (PE.name rfl) (PE.sub (PE.name rfl) (PE.name rfl) (O.dsub ok (sK _) (x := ltr i') (M0in hT) (ht i' hi) (fun t u h => ?_))) ?_
    · rfl
    · rfl
    refine ⟨true, rfl, ?_⟩
    rw [if_neg (by decide)]
    refine EX.nil ?_
    have eM2 : (M0 ++ lay (i' + 1) aA aR p' d' J.ts id (qns (row.map (J.txt one))) pl2).set (M0.length + 2 + i') (p' i', AO.obj 154 (d' i') (AccKv 0) (some (pcs J.ts (pl2 i') ++ [(ltr i', J.ts i')]))) =
        M0 ++ lay (i' + 1) aA aR p' d' J.ts id (qns (row.map (J.txt one))) one := by
      have e := lay_set_pl (M0 := M0) (aA := aA) (aR := aR) (p := p') (d := d') (ts := J.ts) (at_ := id) (row := qns (row.map (J.txt one))) (pl := pl2) hli (l := [i'])
      have e2 : (fun k => if k = i' then [i'] else pl2 k) = one := by funext k; by_cases h : k = i' <;> simp [h, one, hpl2]
      rw [e2] at e
      rw [hpi]; exact e
    rw [eM2]
    refine EX.cons ?_
    refine E1.ite ?_
    refine ET.boolop (AT.and (PT.then (PT.cmp (PE.name rfl) (PE.str ok) (O.nes ok)) ?_))
    by_cases h0 : i' = 0
    · subst h0
      rw [if_neg (by decide), if_neg (by decide)]
      refine EX.nil (EX.nil ?_)
      refine hTn .next _ ⟨_, Le.pre (ν := [("letter", .str (ltr 0))]), p', d', row, rfl, ?_, hsort⟩
      simpa using hperm
    · have hne : (ltr i' != ("a" : Str)) = true := by
        rw [bne_iff_ne]
        intro e
        exact h0 (ltr_inj (j := 0) (e.trans rfl))
      rw [if_pos hne]
      have h1 : ∀ n ∈ one i', n < 6 := fun n hn => by
        have : n = i' := by simpa [one] using hn
        lia
      obtain ⟨b1, b2⟩ := pileLen_pcs jk h1
      rw [show (one i').length = 1 from rfl] at b1 b2
      have hlen : row.length ≤ 6 := by
        rw [hperm.length_eq]
        exact Nat.le_trans (List.length_filter_le _ _) (by simp; lia)
      have hx : J.txt one i' ∉ row.map (J.txt one) := fun hm => by
        obtain ⟨r, hr, e⟩ := List.mem_map.mp hm
        have := txt_inj e
        subst this
        have := hperm.mem_iff.mp hr
        simp at this
      refine AT.and (ET.isnt ok (EV.callK (PE.glob rfl (g.glo _ _ rfl)) rfl (PL.then (PL.cons (PE.name rfl) (PL.cons (PE.qname g rfl ?hx1 ?hx2 ?hx3 (PE.dear g (n := n + 3) rfl jk.way (mem_of_get? (lay_pl hli)) (by simp [pcs, one]) (pcs_ok jk h1) (pileStr_len jk h1 (by simp [one])) (by lia) (by lia) (PE.sub (PE.name rfl) (PE.name rfl) (O.dsub ok (sK _) (x := ltr i') (mem_of_get? lay_at) (show aget (atL (i' + 1) p' id) (ltr i') = some (.raw (.ref (p' i'))) from aget_atL hli) (fun t u h => rfl))) (PE.name rfl)) (PE.name rfl)) PL.nil)) (((insL_row g (n := n + 4) lay_row (l := row.map (J.txt one)) (x := J.txt one i') (by simp; lia) hsort) _ _).mono fun a S₂ e => ?_))))
      case hx1 => rw [nine_len (jk.nine (one i') (by simp [one]) h1 (by simp [one]))]; lia
      case hx2 => show 1 ≤ 100000; lia
      case hx3 => show 0 < 1; lia
      obtain ⟨e1, rfl, e3⟩ := e
      rw [back_eq e1 e3]
      refine ⟨true, rfl, ?_⟩
      rw [if_neg (by decide), if_neg (by decide)]
      refine EX.nil (EX.nil ?_)
      rw [lay_set_row]
      have hk := ahead_le (row.map (J.txt one)) (J.txt one i')
      have er : (row.map (J.txt one)).take (ahead (row.map (J.txt one)) (J.txt one i')) ++ J.txt one i' :: (row.map (J.txt one)).drop (ahead (row.map (J.txt one)) (J.txt one i')) = (row.take (ahead (row.map (J.txt one)) (J.txt one i')) ++ i' :: row.drop (ahead (row.map (J.txt one)) (J.txt one i'))).map (J.txt one) := by
        simp [List.map_take, List.map_drop]
      have hs2 := ins_sorted hsort hx hk (ahead_spec hsort _)
      rw [er] at hs2 ⊢
      refine hTn .next _ ⟨_, Le.pre (ν := [("letter", .str (ltr i'))]), p', d', _, rfl, ?_, hs2⟩
      have ef : (List.range (i' + 1)).filter (· ≠ 0) = (List.range i').filter (· ≠ 0) ++ [i'] := by
        rw [List.range_succ, List.filter_append]; simp [h0]
      rw [ef]
      refine List.Perm.trans List.perm_middle ?_
      rw [List.take_append_drop]
      exact (hperm.cons i').trans (List.perm_append_singleton _ _).symm
  · rintro S₁ ⟨p, d, row, rfl, hperm, hsort⟩
    have e6 : (chars "abcdef").length = 6 := rfl
    rw [e6]
    refine EX.cons ?_
    refine E1_whileT ok (fun k S => ∃ (at_ : Nat → Nat) (row : List Nat) (pl : Nat → List Nat), k = row.length ∧ S = ⟨runμ aH aT aA aR (handF J.way) late, M0 ++ lay 6 aA aR p d J.ts at_ (qns (row.map (J.txt pl))) pl⟩ ∧ SortedS (row.map (J.txt pl)) ∧ ∀ t0, HGood J.span J.price 6 J.up t0 pl at_ row) row.length ⟨id, row, one, rfl, rfl, hsort, fun t0 => HGood.init ?_⟩ ?_
    · have : (0 :: row).Perm (0 :: (List.range 6).filter (· ≠ 0)) := (hperm.trans (by rw [e6])).cons 0
      exact this
    rintro k S₁ T P' hTn hPn ⟨at_, row, pl, rfl, rfl, hs, hG⟩
    refine G.withNd fun nd => ?_
    have hlen : row.length ≤ 5 := by
      have h1 := (hG 0).perm.length_eq
      have h2 := flat_len (l := 0 :: row) (f := pl) fun r hr => by
        obtain ⟨l, e⟩ := (hG 0).head r hr
        rw [e]; simp
      simp only [List.length_range, List.length_cons] at h1 h2
      lia
    have sl : sizeLine = 16777216 := by decide
    refine (PT.val (PE.name rfl) (T1.lstM ok (mem_of_get? lay_row) (by simp [qns]; lia))).then ?_
    rcases row with _ | ⟨r0, rest⟩
    · rw [if_neg (by simp [qns])]
      refine hPn .next _ ?_
      refine EX.cons ?_
      refine E1.ret ?_
      have h0 : at_ 0 = 0 := by simpa using (hG 0).atm 0 (by lia)
      refine (PE.sub (PE.name rfl) (PE.str ok) (O.dsub ok (sK _) (x := ltr 0) (mem_of_get? lay_at) (show aget (atL 6 p at_) (ltr 0) = some (.raw (.ref (p 0))) by rw [aget_atL (by lia), h0]) (fun t u h => rfl))).then ?_
      exact ⟨aA, aR, p, d, at_, pl, rfl, rfl, hG⟩
    rw [if_pos (by simp [qns])]
    generalize hrow : r0 :: rest = row at *
    have hnd0 := (hG 0).nd
    have hr6 : ∀ c ∈ row, 0 < c ∧ c < 6 := fun c hc => by
      have h0 : c ≠ 0 := fun e => (List.nodup_cons.mp hnd0).1 (e ▸ hc)
      obtain ⟨l, e⟩ := (hG 0).head c (List.mem_cons_of_mem _ hc)
      exact ⟨by lia, ((hG 0).ge c (List.mem_cons_of_mem _ hc) c (by rw [e]; exact List.mem_cons_self ..)).2⟩
    have plnd : ∀ c ∈ 0 :: row, (pl c).Nodup := fun c hc => nodup_flatMap_one ((hG 0).perm.nodup_iff.mpr List.nodup_range) hc
    have pllt : ∀ c ∈ 0 :: row, ∀ n ∈ pl c, n < 6 := fun c hc n hn => ((hG 0).ge c hc n hn).2
    have plne : ∀ c ∈ 0 :: row, pl c ≠ [] := fun c hc e => by obtain ⟨l, e2⟩ := (hG 0).head c hc; rw [e] at e2; cases e2
    have pllen : ∀ c ∈ 0 :: row, (pl c).length ≤ 6 := fun c hc => by
      have h1 := (hG 0).perm.length_eq
      have h2 : (pl c).length ≤ ((0 :: row).flatMap pl).length := by
        obtain ⟨A, B, e⟩ := List.append_of_mem hc
        rw [e, List.flatMap_append, List.flatMap_cons]; simp; lia
      simp only [List.length_range] at h1; lia
    have hn9 : ∀ c ∈ row, Nine (J.dear pl c) := fun c hc => jk.nine (pl c) (plnd c (List.mem_cons_of_mem _ hc)) (pllt c (List.mem_cons_of_mem _ hc)) (plne c (List.mem_cons_of_mem _ hc))
    obtain ⟨k, r, hk, hp, hmin⟩ := pick (late := late) hrow.symm hs (fun c hc => (hr6 c hc).2) hn9
    have hr : r ∈ row := List.mem_of_getElem? hk
    have hkl : k < row.length := (List.getElem?_eq_some_iff.mp hk).1
    have hz0 : ∀ c ∈ row, (J.txt pl c).length = 12 := fun c hc => by
      rw [txt_eq, brace_len, nine_len (hn9 c hc)]; rfl
    have hr0 : r0 ∈ row := by rw [← hrow]; exact List.mem_cons_self ..
    refine EX.cons ?_
    refine E1.loc ok ?_
    refine (PE.text g (PE.sub (PE.name rfl) (PE.int ok) (O.sub_lstM ok (k := 0) (c := .qn 258 (J.txt pl r0)) (mem_of_get? lay_row) (by decide) (by rw [← hrow]; rfl) (by decide)))).then ?_
    refine EX.cons ?_
    refine G.mono (P := fun f S' => f = .next ∧ S' = ⟨runμ aH aT aA aR (handF J.way) late ++ ([("bound", .str (if late then Txt.slice (J.txt pl r0) none (some (-1)) ++ "~" else J.txt pl r0))] : List (Str × AV)), M0 ++ lay 6 aA aR p d J.ts at_ (qns (row.map (J.txt pl))) pl⟩) (E1.ite ((PT.val (PE.name rfl) T1.bool).then ?_)) ?_
    · cases late with
      | false =>
        rw [if_neg (by decide)]
        exact EX.nil ⟨rfl, rfl⟩
      | true =>
        rw [if_pos rfl]
        refine EX.cons ?_
        refine E1.loc ok ?_
        refine (PE.bin (PE_to ok (PE.name rfl) (PE.neg ok (PE.int ok)) (by have := hz0 r0 hr0; lia)) (PE.str ok) (O.adds ok ?_)).then ?_
        · have h1 := Txt.slice_le (J.txt pl r0) none (some (-1))
          have h2 := hz0 r0 hr0
          have h3 : ("~" : Str).length = 1 := rfl
          lia
        · exact EX.nil ⟨rfl, rfl⟩
    rintro f S' ⟨rfl, rfl⟩
    generalize hbnd : (if late = true then Txt.slice (J.txt pl r0) none (some (-1)) ++ "~" else J.txt pl r0) = bnd at *
    refine EX.cons ?_
    refine E1.loc ok ?_
    have hkT : (qns (row.map (J.txt pl)))[k]? = some (.qn 258 (J.txt pl r)) := by simp [qns, hk]
    refine EV.sub (PE.then (PE.name rfl) (EV.sub (EV.textE g (EV.bmeth PySem.F.slot_list_pop F.plainAttrs_list PySem.F.type_list_pop ((PE.name rfl).then ⟨aR, rfl, listOb (mem_of_get? lay_row), PL.then (PL.cons (PE.cast (PE.bin (a := .int ((k + 1 : Nat) : Int)) (EV.callK (PE.glob rfl (g.glo _ _ rfl)) rfl (PL.then (PL.cons (PE.name rfl) (PL.cons (PE.name rfl) PL.nil)) (((bisR_row g (n := n + 5) (l := row.map (J.txt pl)) (x := bnd) (k := k + 1) (mem_of_get? lay_row) (by simp; lia) (by simp; lia) hp) _ _).mono fun a S' e => ⟨e.2.1, back_eq e.1 e.2.2⟩))) (PE.int ok) (O.sub ok)) (show AV.int (((k + 1 : Nat) : Int) - 1) = AV.int (k : Nat) from congrArg AV.int (by lia))) PL.nil) (O.lpop ok lay_row (by simp [qns]; lia) hkT ⟨_, rfl, PE.then (PE.neg ok (PE.int ok)) ?_⟩)⟩)))))
    refine G2.mono (O.sub_str ok (by decide) ?_ ?_) ?_
    · have := hz0 r hr; lia
    · have := hz0 r hr; lia
    rintro b S ⟨rfl, rfl⟩
    rw [txt_eq, item_last]
    have eq1 : (qns (row.map (J.txt pl))).eraseIdx k = qns ((row.eraseIdx k).map (J.txt pl)) := by unfold qns; rw [erase_map, erase_map]
    rw [eq1, lay_set_row]
    have hper1 := erase_perm hk
    generalize hrow1 : row.eraseIdx k = row1 at *
    have hr0m : r ∈ 0 :: row := List.mem_cons_of_mem _ hr
    have hratio : ∀ c ∈ row, priceL J.price (pl c) * spanL J.span (pl r) ≤ priceL J.price (pl r) * spanL J.span (pl c) := fun c hc =>
      jk.cmp (pl r) (pl c) (plnd r hr0m) (pllt r hr0m) (plne r hr0m) (plnd c (List.mem_cons_of_mem _ hc)) (pllt c (List.mem_cons_of_mem _ hc)) (plne c (List.mem_cons_of_mem _ hc)) (hmin c hc)
    obtain ⟨hne, hm1, _⟩ := (hG 0).step jk.up hr hratio hper1
    have hstep : ∀ t0 row', (r :: row').Perm row → HGood J.span J.price 6 J.up t0 (mPl pl (at_ (J.up r)) r) (mAt at_ (at_ (J.up r)) r) row' := fun t0 row' hp => ((hG t0).step jk.up hr hratio hp).2.2
    have hlr := hr6 r hr
    have hup := jk.up r hlr.1 hlr.2
    have atr : at_ r = r := ((hG 0).atp r hlr.2 r hr0m).mp (by obtain ⟨l, e⟩ := (hG 0).head r hr0m; rw [e]; exact List.mem_cons_self ..)
    have at0 : at_ 0 = 0 := ((hG 0).atp 0 (by lia) 0 (List.mem_cons_self ..)).mp (by obtain ⟨l, e⟩ := (hG 0).head 0 (List.mem_cons_self ..); rw [e]; exact List.mem_cons_self ..)
    generalize hh' : at_ (J.up r) = h at *
    have hsub1 : ∀ c ∈ row1, c ∈ row := fun c hc => hper1.mem_iff.mp (List.mem_cons_of_mem _ hc)
    have h6 : h < 6 := by
      rcases List.mem_cons.mp hm1 with e | e
      · lia
      · exact (hr6 h (hsub1 h e)).2
    have hm0 : h ∈ 0 :: row := by
      rcases List.mem_cons.mp hm1 with e | e
      · rw [e]; exact List.mem_cons_self ..
      · exact List.mem_cons_of_mem _ (hsub1 h e)
    refine G2.mono (O.dsub ok (sK _) (x := ltr r) (mem_of_get? lay_at) (show aget (atL 6 p at_) (ltr r) = some (.raw (.ref (p r))) by rw [aget_atL hlr.2, atr]) (fun t u h => rfl)) ?_
    rintro b S ⟨rfl, rfl⟩
    obtain ⟨lr, elr⟩ := (hG 0).head r hr0m
    have hp0 : (pcs J.ts (pl r))[(0 : Int).toNat]? = some (ltr r, J.ts r) := by rw [elr]; rfl
    refine EX.cons ?_
    refine E1.loc ok ?_
    refine (PE.reach g (n := n + 5) rfl (jk.dig r hlr.2) (by have := jk.len r hlr.2; lia) (PE.sub (PE.name rfl) (PE.sub (PE.sub (PE.name rfl) (PE.int ok) (O.osub ok (accL g) (mem_of_get? (lay_pl hlr.2)) (by decide) hp0)) (PE.int ok) (O.sub_tup ok (j := 0) (c := .str (ltr r)) (by rfl) rfl)) (O.dsub ok (sK _) (x := ltr r) (List.mem_append_left _ hH) (hh r hlr.2) (fun t u h => rfl)))).then ?_
    rw [jk.reach r hlr.1 hlr.2]
    refine EX.cons ?_
    refine E1.loc ok ?_
    have u6 : J.up r < 6 := by lia
    have ld : ("." ++ J.nm (J.up r) : Str).length = 1 + (J.nm (J.up r)).length := by rw [strLen_append]; rfl
    have lp := jk.pos (J.up r) u6
    have ll := jk.len (J.up r) u6
    have dom1 : ∀ {env : Env} {S : St} {e : Expr} {p1 p2 : Pos} {k0 : Nat}, PE (CA w mg mb) (n + 7) env S e (.str ("." ++ J.nm (J.up r))) → (∀ t u, subscripted (.Constant (.int 1) k0 p1) false (.str ("." ++ J.nm (J.up r)) t) (.int 1 u) = operate [.str ("." ++ J.nm (J.up r)) t, .int 1 u] (getItem (.str ("." ++ J.nm (J.up r)) t) (.int 1 u))) → (∀ t q, letTemporaryGo e (.str ("." ++ J.nm (J.up r)) t) q = pure ()) → PE (CA w mg mb) (n + 7) env S (.Subscript e (.Constant (.int 1) k0 p1) p2) (.str (ltr (J.up r))) := fun he h1 h2 =>
      PE.cast (PE.sub he (PE.int ok) (O.sub_str ok (by decide) (by lia) (by lia) h1 h2)) (congrArg AV.str (jk.item _ u6))
    refine PE.then (PE.sub (PE.name rfl) (dom1 (PE.name rfl) (fun _ _ => rfl) (fun _ _ => rfl)) (O.dsub ok (sK _) (x := ltr (J.up r)) (mem_of_get? lay_at) (show aget (atL 6 p at_) (ltr (J.up r)) = some (.raw (.ref (p h))) by rw [aget_atL u6, hh']) (fun t u h => rfl))) ?_
    refine EX.cons ?_
    refine E1.ite ?_
    refine (PT.cmp (PE.name rfl) (PE.bin (PE.str ok) (PE.sub (PE.name rfl) (dom1 (PE.name rfl) (fun _ _ => rfl) (fun _ _ => rfl)) (O.dsub ok (sK _) (x := ltr (J.up r)) (List.mem_append_left _ hH) (hh _ u6) (fun t u h => rfl))) (O.adds ok ?_)) (O.nes ok)).then ?_
    · have : ("." : Str).length = 1 := rfl
      lia
    rw [if_neg (by simp)]
    refine EX.nil ?_
    have hs1 : SortedS (row1.map (J.txt pl)) := by
      rw [← hrow1, ← erase_map]; exact hs.sub (List.eraseIdx_sublist _ _)
    have hl1 : row1.length ≤ 5 := by have := hper1.length_eq; simp at this; lia
    have hbool : (!(p h == p 0)) = (h != 0) := by
      by_cases e : h = 0
      · rw [e]; simp
      · have : p h ≠ p 0 := fun q => e (p_inj nd h6 (by lia) q)
        rw [show (p h == p 0) = false from beq_eq_false_iff_ne.mpr this, show (h != 0) = true from bne_iff_ne.mpr e]; rfl
    refine EX.cons ?_
    refine G.mono (P := fun f S' => f = .next ∧ ∃ (row2 : List Nat) (μ' : List (Str × AV)), S' = ⟨μ', M0 ++ lay 6 aA aR p d J.ts at_ (qns (row2.map (J.txt pl))) pl⟩ ∧ (∀ x av, (runμ aH aT aA aR (handF J.way) late ++ ([("bound", .str bnd), ("pile", .raw (.ref (p r))), ("domain", .str ("." ++ J.nm (J.up r))), ("home", .raw (.ref (p h)))] : List (Str × AV))).lookup x = some av → μ'.lookup x = some av) ∧
      (if h = 0 then row2 = row1 else (h :: row2).Perm row1) ∧ SortedS (row2.map (J.txt pl))) (E1.ite ((PT.cast (PT.cmp (PE.name rfl) (PE.sub (PE.name rfl) (PE.str ok) (O.dsub ok (sK _) (x := ltr 0) (mem_of_get? lay_at) (show aget (atL 6 p at_) (ltr 0) = some (.raw (.ref (p 0))) by rw [aget_atL (by lia), at0]) (fun t u h => rfl))) (O.isnt_acc (mem_of_get? (lay_pl h6)) (mem_of_get? (lay_pl (by lia : 0 < 6))))) hbool).then ?_)) ?_
    · by_cases h0 : h = 0
      · rw [if_neg (by simp [h0])]
        exact EX.nil ⟨rfl, row1, _, rfl, fun _ _ e => e, by rw [if_pos h0], hs1⟩
      · rw [if_pos (by simp [h0])]
        have hhr1 : h ∈ row1 := (List.mem_cons.mp hm1).resolve_left h0
        obtain ⟨j, hj⟩ := List.getElem?_of_mem hhr1
        have hjl : j < row1.length := (List.getElem?_eq_some_iff.mp hj).1
        obtain ⟨lh, elh⟩ := (hG 0).head h hm0
        have hp1 : (pcs J.ts (pl h))[(0 : Int).toNat]? = some (ltr h, J.ts h) := by rw [elh]; rfl
        obtain ⟨b1, b2⟩ := pileLen_pcs jk (pllt h hm0)
        have b3 := pllen h hm0
        have b4 : 0 < (pl h).length := by rw [elh]; simp
        have n9 := hn9 h (hsub1 h hhr1)
        have dl : (Str.ofString (toString (dearV J.way (pcs J.ts (pl h))))).length = 9 := nine_len n9
        refine EX.cons ?_
        refine E1.loc ok ?_
        refine PE.then (PE.bin (PE.bin (PE.bin (PE.str ok) (PE.dear g (n := n + 3) rfl jk.way (mem_of_get? (lay_pl h6)) (by simp [pcs]; lia) (pcs_ok jk (pllt h hm0)) (pileStr_len jk (pllt h hm0) b3) (by lia) (by lia) (PE.name rfl) (PE.name rfl)) (O.adds ok ?_)) (PE.str ok) (O.adds ok ?_)) (PE.sub (PE.sub (PE.name rfl) (PE.int ok) (O.osub ok (accL g) (mem_of_get? (lay_pl h6)) (by decide) hp1)) (PE.int ok) (O.sub_tup ok (j := 0) (c := .str (ltr h)) (by rfl) rfl)) (O.adds ok ?_)) ?_
        · rw [dl]; have : ("{" : Str).length = 1 := rfl
          lia
        · rw [strLen_append, dl]; have h1 : ("{" : Str).length = 1 := rfl
          have h2 : ("}" : Str).length = 1 := rfl
          lia
        · rw [strLen_append, strLen_append, dl]; have h1 : ("{" : Str).length = 1 := rfl
          have h2 : ("}" : Str).length = 1 := rfl
          have h3 : (ltr h).length = 1 := rfl
          lia
        have etold : ("{" ++ Str.ofString (toString (dearV J.way (pcs J.ts (pl h)))) ++ "}" ++ ltr h : Str) = J.txt pl h := rfl
        rw [etold]
        refine EX.cons ?_
        refine E1.loc ok ?_
        refine EV.callK (PE.glob rfl (g.glo _ _ rfl)) rfl (PL.then (PL.cons (PE.name rfl) (PL.cons (PE.name rfl) PL.nil)) (((bisL_row g (n := n + 5) (l := row1.map (J.txt pl)) (x := J.txt pl h) (k := j) (mem_of_get? lay_row) (by simp; lia) (by simp; lia) (sorted_at hs1 (by simp [hj]))) _ _).mono fun a S' e => ?_))
        obtain ⟨e1, rfl, e3⟩ := e
        rw [back_eq e1 e3]
        have hjT : (qns (row1.map (J.txt pl)))[j]? = some (.qn 258 (J.txt pl h)) := by simp [qns, hj]
        refine EX.cons ?_
        refine E1.ite ?_
        refine (PT.cmp (PE.text g (PE.sub (PE.name rfl) (PE.name rfl) (O.sub_lstM ok (k := (j : Int)) (c := .qn 258 (J.txt pl h)) (mem_of_get? lay_row) (by lia) (by rw [Int.toNat_natCast]; exact hjT) (by lia)))) (PE.name rfl) (O.nes ok)).then ?_
        rw [if_neg (by simp)]
        refine EX.nil ?_
        refine EX.cons ?_
        refine E1.expr ?_
        refine EV.bmeth PySem.F.slot_list_pop F.plainAttrs_list PySem.F.type_list_pop ((PE.name rfl).then ⟨aR, rfl, listOb (mem_of_get? lay_row), PL.then (PL.cons (PE.name rfl) PL.nil) (O.lpop ok lay_row (by simp [qns]; lia) hjT ?_)⟩)
        have eq2 : (qns (row1.map (J.txt pl))).eraseIdx j = qns ((row1.eraseIdx j).map (J.txt pl)) := by unfold qns; rw [erase_map, erase_map]
        rw [eq2, lay_set_row]
        refine EX.nil ⟨rfl, row1.eraseIdx j, _, rfl, (Le.pre (M := []) (ν := [("told", .str (J.txt pl h)), ("spot", .int j)])).2, by rw [if_neg h0]; exact erase_perm hj, ?_⟩
        rw [← erase_map]; exact hs1.sub (List.eraseIdx_sublist _ _)
    rintro f S' ⟨rfl, row2, μ', rfl, hle, hrow2, hs2⟩
    refine NX.weak (S0 := ⟨runμ aH aT aA aR (handF J.way) late ++ ([("bound", .str bnd), ("pile", .raw (.ref (p r))), ("domain", .str ("." ++ J.nm (J.up r))), ("home", .raw (.ref (p h)))] : List (Str × AV)), M0 ++ lay 6 aA aR p d J.ts at_ (qns (row2.map (J.txt pl))) pl⟩) ⟨rfl, hle⟩ ?_
    have hl2 : row2.length ≤ 5 := by
      by_cases h0 : h = 0
      · rw [if_pos h0] at hrow2; rw [hrow2]; exact hl1
      · rw [if_neg h0] at hrow2; have := hrow2.length_eq; simp at this; lia
    have hrh : r ≠ h := fun e => hne e.symm
    have b3 := pllen r hr0m
    have elp : (pl r).length = lr.length + 1 := by rw [elr]; rfl
    refine EX.cons ?_
    refine E1.loc ok ?_
    refine EV.popF g (n := n + 6) (i := 1) (PE.name rfl) (lay_pl hlr.2) (by simp [pcs]; lia) (by simp [pcs]; lia) (PE.cast (PE.int ok) rfl) ?_
    have ed : (pcs J.ts (pl r)).drop 1 = pcs J.ts lr := by rw [elr]; rfl
    have et : (pcs J.ts (pl r)).take 1 = pcs J.ts [r] := by rw [elr]; rfl
    rw [ed, et, lay_set_pl hlr.2]
    refine EX.cons ?_
    refine E1_forT ok (l := (pcs J.ts (pl r)).map pieceAV) (fun i S => S = ⟨runμ aH aT aA aR (handF J.way) late ++ ([("bound", .str bnd), ("pile", .raw (.ref (p r))), ("domain", .str ("." ++ J.nm (J.up r))), ("home", .raw (.ref (p h))), ("rest", .lst ((pcs J.ts lr).map pieceAV))] : List (Str × AV)),
        M0 ++ lay 6 aA aR p d J.ts (fun j => if j ∈ (pl r).take i then h else at_ j) (qns (row2.map (J.txt pl))) (fun k => if k = h then pl h ++ (pl r).take i else if k = r then [] else pl k)⟩) (.tuple _ _ _) ?_ ?_ ?_
    · refine EV.bin ?_
      refine EV.list ok ?_
      refine EL.cons ?_ rfl
      refine EV.popL g (n := n + 5) (l := []) (q := (ltr r, J.ts r)) (PE.name rfl) (j := M0.length + 2 + r) (p := p r) (d := d r) (k := 0) ?_ (by simp) ?_
      · rw [lay_pl hlr.2]; simp [pcs]
      refine EL.nil ⟨by simp [sl], ?_⟩
      refine PE.then (PE.name rfl) ?_
      refine G2.mono (O.addl ok (by simp [pcs, sl]; lia)) ?_
      rintro b S ⟨rfl, rfl⟩
      have e1 : [pieceAV (ltr r, J.ts r)] ++ (pcs J.ts lr).map pieceAV = (pcs J.ts (pl r)).map pieceAV := by rw [elr]; rfl
      rw [e1]
      refine ⟨Iter.lst ok, ?_⟩
      have e2 := lay_set_pl (M0 := M0) (m := 6) (aA := aA) (aR := aR) (p := p) (d := d) (ts := J.ts) (at_ := at_) (row := qns (row2.map (J.txt pl))) (pl := fun k => if k = r then [r] else pl k) hlr.2 (l := [])
      have e3 : pcs J.ts [] = [] := rfl
      rw [e3] at e2
      rw [e2]
      have e4 : (fun k => if k = r then [] else if k = r then [r] else pl k) = (fun k => if k = h then pl h ++ (pl r).take 0 else if k = r then [] else pl k) := by
        funext k
        by_cases k1 : k = r
        · subst k1; simp [hrh]
        · by_cases k2 : k = h
          · subst k2; simp [k1]
          · simp [k1, k2]
      have e5 : at_ = (fun j => if j ∈ (pl r).take 0 then h else at_ j) := by funext j; simp
      rw [e4, ← e5]
      rfl
    · rintro i S₁ x T2 hT2 hx rfl
      rw [List.getElem?_map] at hx
      obtain ⟨q, hq, rfl⟩ := Option.map_eq_some_iff.mp hx
      unfold pcs at hq
      rw [List.getElem?_map] at hq
      obtain ⟨j, hj, rfl⟩ := Option.map_eq_some_iff.mp hq
      have hjm : j ∈ pl r := List.mem_of_getElem? hj
      have j6 := pllt r hr0m j hjm
      have hil : i < (pl r).length := (List.getElem?_eq_some_iff.mp hj).1
      have etk : (pl r).take (i + 1) = (pl r).take i ++ [j] := by rw [List.take_add_one, hj]; rfl
      obtain ⟨plf, hplf⟩ : ∃ f : Nat → List Nat, f = fun k => if k = h then pl h ++ (pl r).take i else if k = r then [] else pl k := ⟨_, rfl⟩
      obtain ⟨atf, hatf⟩ : ∃ f : Nat → Nat, f = fun j => if j ∈ (pl r).take i then h else at_ j := ⟨_, rfl⟩
      rw [← hplf, ← hatf]
      have hph : plf h = pl h ++ (pl r).take i := by rw [hplf]; simp
      have b5 := pllen h hm0
      refine TG.pair ok (.inl rfl) (.inl rfl) ?_
      refine EX.cons ?_
      refine E1.expr ?_
      refine EV.push g (n := n + 6) (PE.name rfl) (lay_pl h6) (by rw [hph]; simp [pcs]; lia) (PE.name rfl) (PE.name rfl) ?_
      have e1 : pcs J.ts (plf h) ++ [(ltr j, J.ts j)] = pcs J.ts (pl h ++ (pl r).take (i + 1)) := by rw [hph, etk]; simp [pcs]
      rw [e1, lay_set_pl h6]
      refine EX.cons ?_
      refine E1_dset ok (sK _) ((PE.name rfl).then ⟨M0.length, aA, _, ltr j, lay_at, by simp [atL], PE.name rfl, PE.name rfl, ?_⟩)
      rw [aset_atL j6]
      refine EX.nil ?_
      refine hT2 .next _ ⟨⟨runμ aH aT aA aR (handF J.way) late ++ ([("bound", .str bnd), ("pile", .raw (.ref (p r))), ("domain", .str ("." ++ J.nm (J.up r))), ("home", .raw (.ref (p h))), ("rest", .lst ((pcs J.ts lr).map pieceAV))] : List (Str × AV)), _⟩, Le.pre (μ := runμ aH aT aA aR (handF J.way) late ++ ([("bound", .str bnd), ("pile", .raw (.ref (p r))), ("domain", .str ("." ++ J.nm (J.up r))), ("home", .raw (.ref (p h))), ("rest", .lst ((pcs J.ts lr).map pieceAV))] : List (Str × AV))) (ν := [("letter", .str (ltr j)), ("tail", .str (J.ts j))]), ?_⟩
      refine congr (congrArg St.mk rfl) ?_
      show (M0 ++ lay 6 aA aR p d J.ts atf (qns (row2.map (J.txt pl))) (fun k => if k = h then pl h ++ (pl r).take (i + 1) else plf k)).set M0.length (aA, .sdict (atL 6 p fun k => if k = j then h else atf k)) = _
      rw [lay_set_at]
      have e2 : (fun k => if k = h then pl h ++ (pl r).take (i + 1) else plf k) = (fun k => if k = h then pl h ++ (pl r).take (i + 1) else if k = r then [] else pl k) := by
        funext k
        by_cases k1 : k = h <;> simp [k1, hplf]
      have e3 : (fun k => if k = j then h else atf k) = (fun k => if k ∈ (pl r).take (i + 1) then h else at_ k) := by
        funext k
        rw [etk, hatf]
        by_cases k1 : k = j
        · simp [k1]
        · simp [k1]
      rw [e2, e3]; rfl
    · rintro S₁ rfl
      have elen : ((pcs J.ts (pl r)).map pieceAV).length = (pl r).length := by simp [pcs]
      rw [elen, List.take_of_length_le (Nat.le_refl _)]
      have eat : ∀ row pl', lay 6 aA aR p d J.ts (fun j => if j ∈ pl r then h else at_ j) row pl' = lay 6 aA aR p d J.ts (mAt at_ h r) row pl' := fun row pl' => by
        unfold lay
        congr 2
        unfold atL
        congr 1
        apply List.map_congr_left
        intro j hj
        have j6 := List.mem_range.mp hj
        have := (hG 0).atp j j6 r hr0m
        unfold mAt
        by_cases e : at_ j = r
        · simp [this.mpr e, e]
        · have e' : j ∉ pl r := fun q => e (this.mp q)
          simp [e, e']
      rw [eat]
      have epl : (fun k => if k = h then pl h ++ pl r else if k = r then [] else pl k) = mPl pl h r := rfl
      rw [epl]
      have plr : mPl pl h r r = [] := by unfold mPl; rw [if_neg hrh, if_pos rfl]
      have plh : mPl pl h r h = pl h ++ pl r := by unfold mPl; rw [if_pos rfl]
      have atn0 : mAt at_ h r 0 = 0 := by
        have : r ≠ 0 := by lia
        unfold mAt; rw [at0, if_neg (fun e => this e.symm)]
      have same : ∀ c ∈ row2, mPl pl h r c = pl c := by
        have n1 : (r :: row1).Nodup := hper1.nodup_iff.mpr (List.nodup_cons.mp hnd0).2
        obtain ⟨n2, n3⟩ := List.nodup_cons.mp n1
        intro c hc
        by_cases h0 : h = 0
        · rw [if_pos h0] at hrow2
          subst hrow2
          have c1 : c ≠ h := fun e => by have := (hr6 c (hsub1 c hc)).1; lia
          have c2 : c ≠ r := fun e => n2 (e ▸ hc)
          unfold mPl; rw [if_neg c1, if_neg c2]
        · rw [if_neg h0] at hrow2
          have n4 := hrow2.nodup_iff.mpr n3
          have c1 : c ≠ h := fun e => (List.nodup_cons.mp n4).1 (e ▸ hc)
          have c2 : c ≠ r := fun e => n2 (hrow2.mem_iff.mp (List.mem_cons_of_mem _ (e ▸ hc)))
          unfold mPl; rw [if_neg c1, if_neg c2]
      rw [← map_same same] at hs2 ⊢
      generalize hatn : mAt at_ h r = atn at *
      generalize hpln : mPl pl h r = pln at *
      have hlq : ∀ q ∈ pcs J.ts (pln r), q.1.length ≤ 1000 ∧ q.2.length ≤ 1000 := by rw [plr]; intro q hq; cases hq
      refine EX.cons ?_
      refine E1.ite ?_
      refine (PT.or2 (PT.cast (b := false) (PT.cmp (PE.part_count g (n := n + 6) (PE.name rfl) (mem_of_get? (lay_pl hlr.2))) (PE.int ok) (O.ne ok)) (by rw [plr]; rfl)) (fun _ => PT.cast (b := false) (PT.cmp (PE.callB (PE.built rfl (g.non _ rfl) ((g.mb _ (by decide)).trans rfl)) (PL.cons (PE.name rfl) PL.nil) (O.len_acc g (n := n + 5) (k := 0) (mem_of_get? (lay_pl hlr.2)) (by rw [plr]; simp [pcs]) hlq (by lia))) (PE.int ok) (O.ne ok)) (by rw [plr]; rfl))).then ?_
      rw [if_neg (by decide)]
      refine EX.nil ?_
      refine EX.cons ?_
      refine E1.ite ?_
      refine ET.boolop (AT.and (PT.then (PT.cast (PT.cmp (PE.name rfl) (PE.sub (PE.name rfl) (PE.str ok) (O.dsub ok (sK _) (x := ltr 0) (mem_of_get? lay_at) (show aget (atL 6 p atn) (ltr 0) = some (.raw (.ref (p 0))) by rw [aget_atL (by lia), atn0]) (fun t u h => rfl))) (O.isnt_acc (mem_of_get? (lay_pl h6)) (mem_of_get? (lay_pl (by lia : 0 < 6))))) hbool) ?_))
      by_cases h0 : h = 0
      · rw [if_neg (by simp [h0]), if_neg (by decide)]
        refine EX.nil (EX.nil ?_)
        rw [if_pos h0] at hrow2
        subst hrow2
        refine hTn .next _ ⟨⟨runμ aH aT aA aR (handF J.way) late, _⟩, Le.pre (ν := [("bound", .str bnd), ("pile", .raw (.ref (p r))), ("domain", .str ("." ++ J.nm (J.up r))), ("home", .raw (.ref (p h))), ("rest", .lst ((pcs J.ts lr).map pieceAV))]), ?_⟩
        exact ⟨row2.length, by have := hper1.length_eq; simp at this; lia, atn, row2, pln, rfl, rfl, hs2, fun t0 => hstep t0 _ hper1⟩
      · rw [if_neg h0] at hrow2
        have e1 : (h != 0) = true := by simp [h0]
        rw [if_pos e1]
        have hperm2 : (r :: h :: row2).Perm row := (hrow2.cons r).trans hper1
        have G2 := hstep 0 _ hperm2
        have mh : h ∈ 0 :: h :: row2 := List.mem_cons_of_mem _ (List.mem_cons_self ..)
        obtain ⟨nh1, nh2, nh3, nh4⟩ := G2.facts h mh
        have n9 : Nine (J.dear pln h) := jk.nine (pln h) nh1 nh2 nh3
        obtain ⟨b1, b2⟩ := pileLen_pcs jk nh2
        have b4 : 0 < (pln h).length := List.length_pos_iff.mpr nh3
        have dl : (Str.ofString (toString (dearV J.way (pcs J.ts (pln h))))).length = 9 := nine_len n9
        obtain ⟨lh, elh⟩ := G2.head h mh
        have hp1 : (pcs J.ts (pln h))[(0 : Int).toNat]? = some (ltr h, J.ts h) := by rw [elh]; rfl
        have hx : J.txt pln h ∉ row2.map (J.txt pln) := fun hm => by
          obtain ⟨c, hc, e⟩ := List.mem_map.mp hm
          have := txt_inj e
          subst this
          exact (List.nodup_cons.mp (List.nodup_cons.mp G2.nd).2).1 hc
        have hk := ahead_le (row2.map (J.txt pln)) (J.txt pln h)
        have hup2 : ∀ i c, (row2.map (J.txt pln))[i]? = some c → slt (J.txt pln h) c = decide (ahead (row2.map (J.txt pln)) (J.txt pln h) ≤ i) := ahead_flip hs2 hx
        refine AT.and (ET.isnt ok (EV.callK (PE.glob rfl (g.glo _ _ rfl)) rfl (PL.then (PL.cons (PE.name rfl) (PL.cons (PE.qname g (n := n + 5) rfl ?hx1 ?hx2 ?hx3 (PE.dear g (n := n + 3) rfl jk.way (mem_of_get? (lay_pl h6)) (by simp [pcs]; lia) (pcs_ok jk nh2) (pileStr_len jk nh2 nh4) (by lia) (by lia) (PE.name rfl) (PE.name rfl)) (PE.sub (PE.sub (PE.name rfl) (PE.int ok) (O.osub ok (accL g) (mem_of_get? (lay_pl h6)) (by decide) hp1)) (PE.int ok) (O.sub_tup ok (j := 0) (c := .str (ltr h)) (by rfl) rfl))) PL.nil)) (((insR_row g (n := n + 4) lay_row (l := row2.map (J.txt pln)) (x := J.txt pln h) (by simp; lia) hk hup2) _ _).mono fun a S₂ e => ?_))))
        case hx1 => rw [dl]; lia
        case hx2 => show 1 ≤ 100000; lia
        case hx3 => show 0 < 1; lia
        obtain ⟨e1, rfl, e3⟩ := e
        rw [back_eq e1 e3]
        refine ⟨true, rfl, ?_⟩
        rw [if_neg (by decide), if_neg (by decide)]
        refine EX.nil (EX.nil ?_)
        rw [lay_set_row]
        have er : (row2.map (J.txt pln)).take (ahead (row2.map (J.txt pln)) (J.txt pln h)) ++ J.txt pln h :: (row2.map (J.txt pln)).drop (ahead (row2.map (J.txt pln)) (J.txt pln h)) = (row2.take (ahead (row2.map (J.txt pln)) (J.txt pln h)) ++ h :: row2.drop (ahead (row2.map (J.txt pln)) (J.txt pln h))).map (J.txt pln) := by
          simp [List.map_take, List.map_drop]
        have hs3 := ins_sorted hs2 hx hk (ahead_spec hs2 _)
        rw [er] at hs3 ⊢
        have hperm3 : (row2.take (ahead (row2.map (J.txt pln)) (J.txt pln h)) ++ h :: row2.drop (ahead (row2.map (J.txt pln)) (J.txt pln h))).Perm (h :: row2) := by
          refine List.Perm.trans List.perm_middle ?_
          rw [List.take_append_drop]
        refine hTn .next _ ⟨⟨runμ aH aT aA aR (handF J.way) late, _⟩, Le.pre (ν := [("bound", .str bnd), ("pile", .raw (.ref (p r))), ("domain", .str ("." ++ J.nm (J.up r))), ("home", .raw (.ref (p h))), ("rest", .lst ((pcs J.ts lr).map pieceAV))]), ?_⟩
        exact ⟨_, by have h1 := hperm3.length_eq; have h2 := hperm2.length_eq; simp at h1 h2 ⊢; lia, atn, _, pln, rfl, rfl, hs3, fun t0 => hstep t0 _ ((hperm3.cons r).trans hperm2)⟩
end
end Mine
namespace Mine
theorem isTupv_of {h : Heap} {a : Addr} {vs : List Value} (e : h.IsTuple a vs.toArray) : IsTup h a vs.toArray := by
  obtain ⟨o, e1, e2, n, e3⟩ := e; exact ⟨o, e1, e2, n, e3⟩
section
variable {C : Cx} (ok : C.Ok) {n : Nat} {env : Env} {S : St}
include ok
theorem assign_pair {x y : Str} {p p' pos : Pos} {k : Nat} {a b : AV} (hx : env.kindOf x = some .local ∨ Own env x ∧ ∃ c, env.cells.lookup x = some c) (hy : env.kindOf y = some .local ∨ Own env y ∧ ∃ c, env.cells.lookup y = some c)
    {A : Around} {Y D : List Addr} {s₀ s : Shared} {T : Addr} {v1 v2 : Value} {Q : Unit → Shared → Prop} (ha : AOk n A) (R : Rel C Y s₀ D env S s) (hT : s.heap.IsTuple T #[v1, v2]) (r1 : VR s.heap (Xo C Y env S) v1 a) (r2 : VR s.heap (Xo C Y env S) v2 b)
    (q : ∀ s' S', S' = ⟨ins y b (ins x a S.μ), S.M⟩ → Rel C Y s₀ D env S' s' → Kp C Y env S s S' s' → Q () s') : wpAny (model C.prog C.w) A (assign (.Tuple [.Name x p, .Name y p'] k pos) env (.ref T)) Q No s := by
  refine assign_Tuple_tuple (items := #[v1, v2]) ha.handled (isTupv_of (vs := [v1, v2]) hT) (by simp [assignEach]) (by rfl) fun h' hb => ?_
  have st : SStp C.T [] s { s with heap := h' } := .bornBut hb fun q => (R.bs.liveT q).ne (new_none _) rfl
  have R₁ := R.go ok st
  have K₁ := Kp.go R st
  exact assignInOrder_cons (wpAny_assign_Name (store ok Y hx R₁ (K₁ _ _ r1) fun s₂ R₂ K₂ => assignInOrder_cons (wpAny_assign_Name (store ok Y hy R₂ (K₂ _ _ (K₁ _ _ r2)) fun s₃ R₃ K₃ => assignInOrder_nil (q _ _ rfl R₃ ((K₁.trans K₂).trans K₃))))))
theorem E1_forEnum {x y z : Str} {e : Expr} {p p' p1 pos pos1 pos2 : Pos} {k0 : Nat} {body : List Stmt} {l : List AV} {P : AF → St → Prop} (Inv : Nat → St → Prop)
    (hx : env.kindOf x = some .local ∨ Own env x ∧ ∃ c, env.cells.lookup x = some c) (hy : env.kindOf y = some .local ∨ Own env y ∧ ∃ c, env.cells.lookup y = some c)
    (hf : PE C n env S (.Name z p1) (.raw (.type "enumerate"))) (h : EV C n env S e fun a S₁ => a = .lst l ∧ Inv 0 S₁)
    (turn : ∀ i S₁ a, l[i]? = some a → Inv i S₁ → EX C n env ⟨ins y a (ins x (.int i) S₁.μ), S₁.M⟩ body (Turn (Inv (i + 1)) P))
    (fin : ∀ S₁, Inv l.length S₁ → P .next S₁)
    (hs : ∀ v, foldedSetIterable (.Call (.Name z p1) [e] [] pos1) env v = pure v := by intro _; rfl) (hst : starEach [e] env = [(false, eval e env)] := by rfl) :
    E1 C n env S (.For (.Tuple [.Name x p, .Name y p'] k0 pos2) (.Call (.Name z p1) [e] [] pos1) body [] pos) P := by
  intro A Y s₀ D s Q ha R q
  refine wpAny_For (hs := hs) (Call_name1 hst (hf A Y s₀ D s _ ha R fun f s₁ a₁ S₁ p₁ R₁ K₁ r₁ => ?_))
  obtain ⟨rfl, rfl⟩ := p₁
  (refine VR.iv_raw r₁ fun e_0 => ?_; subst e_0)
  refine callWith_type1 (h A Y s₀ D s₁ _ ha R₁ fun v s₂ a S₂ p₂ R₂ K₂ r₂ => ?_)
  obtain ⟨rfl, inv0⟩ := p₂
  refine VR.iv_lst r₂ ?_; clear r₂; intro b vs kk eb nb rs e_0; cases e_0
  refine call_enumerate_list (isList_of eb) fun h' he hit hsz hkp => ?_
  generalize hI : s₂.heap.objs.size + 1 = I at *
  generalize hJ : s₂.heap.objs.size = J at *
  have hIn : s₂.heap.get? I = none := Heap.get?_none_of_le (by lia)
  have hJn : s₂.heap.get? J = none := Heap.get?_none_of_le (by lia)
  have bJ : b ≠ J := fun q => by rw [q, hJn] at eb; cases eb
  have bI : b ≠ I := fun q => by rw [q, hIn] at eb; cases eb
  have hIJ : I ≠ J := by lia
  have W := WalksT.enumerateD (prog := C.prog) (w := C.w) (Draws.list (prog := C.prog) (w := C.w) (A := A.in1) ha.handled J b bJ vs.toArray) I hIJ (fun q => (List.mem_cons.mp q).elim hIJ fun q => bI (List.mem_singleton.mp q).symm) (by simp)
  have el : vs.toArray.size = l.length := by rw [List.size_toArray]; exact rs.length
  rw [el] at W
  have x₂ : SStp C.T [] s₂ { s₂ with heap := h' } := ⟨.of_keeps hkp, rfl, rfl, id⟩
  have hw : ∀ c ∈ [I, J], s₂.heap.get? c = none := fun c hc => by
    rcases List.mem_cons.mp hc with rfl | hc
    · exact hIn
    · exact List.mem_singleton.mp hc ▸ hJn
  have hst0 : (∃ old, IsEnum h' I J ((0 : Nat) : Int) old) ∧ (h'.IsListIter J b 0 ∧ h'.IsList b vs.toArray) := ⟨⟨_, he⟩, hit, (isList_of eb).at fun o e => hkp b o e⟩
  have lw : ∀ (i : Nat) h, (∃ old, IsEnum h I J (i : Int) old) ∧ (h.IsListIter J b i ∧ h.IsList b vs.toArray) → ∀ c ∈ [I, J], Live h c := fun i h st c hc => by
    rcases List.mem_cons.mp hc with rfl | hc
    · obtain ⟨⟨old, e⟩, _⟩ := st; exact ⟨_, e⟩
    · obtain ⟨_, ⟨o, e, _⟩, _⟩ := st; exact List.mem_singleton.mp hc ▸ ⟨o, e⟩
  have hfp : ∀ c ∈ I :: [J, b], c ∉ fa env ++ feet S₂.M ∧ c ∉ C.T ∧ Live h' c := fun c hc => by
    have nw : ∀ c, s₂.heap.get? c = none → c ∉ fa env ++ feet S₂.M ∧ c ∉ C.T := fun c hn =>
      ⟨fun q => (R₂.hi _ (by rw [← List.append_assoc]; exact List.mem_append_left _ q)).2.2.ne hn rfl, fun q => (R₂.bs.liveT q).ne hn rfl⟩
    rcases List.mem_cons.mp hc with rfl | hc
    · exact ⟨(nw _ hIn).1, (nw _ hIn).2, lw 0 _ hst0 _ (by simp)⟩
    rcases List.mem_cons.mp hc with rfl | hc
    · exact ⟨(nw _ hJn).1, (nw _ hJn).2, lw 0 _ hst0 _ (by simp)⟩
    · have e1 := List.mem_singleton.mp hc
      subst e1
      rw [mem_Xo] at nb
      exact ⟨fun q => nb (.inr (.inl q)), fun q => nb (.inl q), _, hkp _ _ eb⟩
  refine W.self 0 _ _ _ hst0 ?_
  refine for_core ok Inv ha R₂ x₂ hst0 hfp hw lw (fun i h h' st k => W.frame i h h' st k) inv0 (fun i S' s' K hlt hst' up inv k => ?_) (fun s' Q hst' k => W.done s' Q No hst' k) fin fun f s' b S' pb R' K' rf => q f s' b S' pb R' ((K₁.trans K₂).trans K') rf
  refine W.item i s' _ _ hlt hst' fun T vals h1 tk hP hTn hT hMid hk1 => ⟨_, rfl, ?_⟩
  obtain ⟨t, x', hx', rfl⟩ := hP
  refine W.go _ _ _ i T _ _ _ hMid fun h2 hst2 hk2 => ?_
  obtain ⟨a, hla⟩ : ∃ a, l[i]? = some a := ⟨_, List.getElem?_eq_getElem hlt⟩
  obtain ⟨v', hv', rv⟩ := rs.get hla
  have exv : x' = v' := by
    have h1 : vs[i]? = some x' := by simpa using hx'
    rw [h1] at hv'; exact Option.some.inj hv'
  subst exv
  refine k (.ref T) h2 tk hst2 (fun c o hc e => hk2 c o hc (hk1 c o hc e)) fun Q' R3 K3 q' => ?_
  exact assign_pair ok hx hy ha R3 (hT.at fun o e => hk2 T o (W.apart _ _ _ hMid) e) (.int ..) (K3 _ _ (up _ _ ((R₂.extY ok x₂ hw (lw 0 _ hst0)).2 _ _ rv))) fun s₄ S₄ p₄ R₄ K₄ => q' s₄ S₄ (p₄ ▸ turn i S' a hla inv) R₄ K₄
end
end Mine
namespace Mine
theorem setItem_listP {prog : Program} {w : World} {A : Around} {E : Value → Shared → Prop} {s : Shared} {l : Addr} {items : List Value} {n : Nat} {k : Int} {t : Tok} {v : Value} {Q : Unit → Shared → Prop}
    (ho : s.heap.get? l = some ⟨.type "list", none, .seq items.toArray n, #[]⟩) (h0 : 0 ≤ k) (hfit : k < 2 ^ 63) (hn : k < items.length)
    (hQ : ∀ h' n', h'.get? l = some ⟨.type "list", none, .seq (items.set k.toNat v).toArray n', #[]⟩ → Heap.SameBut l s.heap h' → Q () { s with heap := h' }) :
    wpAny (model prog w) A (setItem (.ref l) (.int k t) v) Q E s := by
  have hl : s.heap.IsList l items.toArray := isList_of ho
  unfold setItem
  refine wpAny_holding ?_
  refine wpAny_bind (wpAny_sequenceKey hl.typeIs (by decide) ?_)
  refine wpAny_bind (wpAny_callSpecial?_slot (name := Str.ofString "__setitem__") hl.typeIs slot_list_setitem
    (wpAny_call_entry slot_list_setitem hl.typeIs entry_list_setitem ?_ (args_list_setitem _ _ _)))
  show wpAny _ _ (Builtin.List.listSubscript? (.int k t) >>= _) _ _ s
  refine wpAny_bind (wpAny_listSubscript_int (fitsIndex_of h0 hfit) ?_)
  clear hfit
  obtain ⟨j, rfl⟩ := Int.eq_ofNat_of_zero_le h0
  have hj : j < items.toArray.size := by simp; lia
  have hx' : items.toArray[j]? = some items.toArray[j] := Array.getElem?_eq_getElem hj
  show wpAny _ _ ((seqItemAt l j >>= fun r => pure (r.map (j, ·))) >>= _) _ _ s
  refine wpAny_bind (wpAny_bind (wpAny_seqItemAt ho rfl (wpAny_pure ?_)))
  rw [hx']
  show wpAny _ _ (setSeqItemAt l j v >>= _) _ _ s
  obtain ⟨n', hd'⟩ := Obj.data_mapSeq (o := ⟨.type "list", none, .seq items.toArray n, #[]⟩) rfl (·.setIfInBounds j v)
  have hfin := Heap.get?_update_self (Obj.mapSeq (·.setIfInBounds j v)) ho (Obj.isFreed_of_seq hd')
  refine wpAny_bind (wpAny_setSeqItemAt ho rfl ?_)
  have e : ∃ n', Obj.mapSeq (·.setIfInBounds j v) ⟨.type "list", none, .seq items.toArray n, #[]⟩ = ⟨.type "list", none, .seq (items.set j v).toArray n', #[]⟩ := ⟨n', by
    have h1 : (Obj.mapSeq (·.setIfInBounds j v) ⟨.type "list", none, .seq items.toArray n, #[]⟩) = ⟨.type "list", none, (Obj.mapSeq (·.setIfInBounds j v) ⟨.type "list", none, .seq items.toArray n, #[]⟩).data, #[]⟩ := rfl
    rw [h1, hd']
    simp⟩
  obtain ⟨n2, e⟩ := e
  rw [e] at hfin
  exact wpAny_pure ⟨.none, rfl, wpAny_pure (hQ _ n2 hfin (Heap.SameBut.update ..))⟩
theorem VRs.set {h : Heap} {X : List Addr} {v : Value} {a : AV} (p : VR h X v a) : ∀ {vs : List Value} {l : List AV} (k : Nat), VRs h X vs l → VRs h X (vs.set k v) (l.set k a)
  | _, _, _, .nil => .nil
  | _, _, 0, .cons _ rs => .cons p rs
  | _, _, k + 1, .cons r rs => .cons r (VRs.set p k rs)
section
variable {C : Cx} (ok : C.Ok) {n : Nat} {env : Env} {S : St}
include ok
theorem E1_augL {o ix value : Expr} {op : Operator} {pos' pos : Pos} {P : AF → St → Prop} {i : Nat} {a : Addr} {l : List AV} {k : Int} {old x new : AV} (ho : PE C n env S o (.raw (.ref a))) (hi : PE C n env S ix (.int k)) (hM : S.M[i]? = some (a, .list l))
    (h0 : 0 ≤ k) (hk : l[k.toNat]? = some old) (hfit : k < 2 ^ 63) (hv : PE C n env S value x) (hop : P2 C n env S (inplaceOp op) old x new) (h : P .next ⟨S.μ, S.M.set i (a, .list (l.set k.toNat new))⟩)
    (hs : ∀ ov iv new, augStore ix ov iv new = (do holding [new, ov, iv] (setItem ov iv new); release [new, ov, iv] []; pure .next) := by intro _ _ _; rfl) : E1 C n env S (.AugAssign (.Subscript o ix pos') op value pos) P := fun A Y s₀ D s Q ha R q => by
  refine wpAny_AugAssign_Subscript_any (ha := hs) (ho A Y s₀ D s _ ha R fun v s₁ a₁ S₁ p₁ R₁ K₁ r₁ => ?_)
  obtain ⟨rfl, rfl⟩ := p₁
  (refine VR.iv_raw r₁ fun e_0 => ?_; subst e_0)
  refine hi A Y s₀ D s₁ _ ha R₁ fun v s₂ a₂ S₂ p₂ R₂ K₂ r₂ => ?_
  obtain ⟨rfl, rfl⟩ := p₂
  refine VR.iv_int r₂ ?_; clear r₂; intro t e_0; cases e_0
  obtain ⟨vs, kk, e, rs⟩ := R₂.ob _ (mem_of_get? hM)
  obtain ⟨u, hu, ru⟩ := rs.get hk
  refine wpAny_getItem_list (isList_of e) h0 hfit (by simpa using hu) ?_
  refine hv A Y s₀ D s₂ _ ha R₂ fun v s₃ a₃ S₃ p₃ R₃ K₃ r₃ => ?_
  obtain ⟨rfl, rfl⟩ := p₃
  refine hop A Y s₀ D s₃ _ _ _ ha R₃ (K₃ _ _ ru) r₃ fun v s₄ a₄ S₄ p₄ R₄ K₄ r₄ => ?_
  obtain ⟨rfl, rfl⟩ := p₄
  obtain ⟨vs4, kk4, e4, rs4⟩ := R₄.ob _ (mem_of_get? hM)
  have hkl : k.toNat < l.length := (List.getElem?_eq_some_iff.mp hk).1
  refine setItem_listP e4 h0 hfit (by rw [rs4.length]; lia) fun h' n' e' hb => ?_
  have hT : a ∉ C.T := R₄.tn (List.mem_append_right _ (List.mem_append_left _ (mem_feet (mem_of_get? hM) (List.mem_cons_self ..))))
  obtain ⟨R', K'⟩ := Rel.setList ok R₄ (s' := { s₄ with heap := h' }) hM e' ⟨.sameBut hb hT, rfl, rfl, id⟩ (VRs.set r₄ k.toNat rs4)
  exact q _ _ _ _ h R' ((((K₁.trans K₂).trans K₃).trans K₄).trans K') .next
end
end Mine
end
section
set_option tactic.hygienic false
namespace Mine
noncomputable def bit (m n : Nat) : Bool := m / 2 ^ n % 2 == 1
noncomputable def cstep (U : Nat → Nat) (l : List Nat) (n : Nat) : List Nat := l ++ (l.filter fun m => n == 0 || bit m (U n)).map (· + 2 ^ n)
noncomputable def clo (U : Nat → Nat) : List Nat := (List.range 6).foldl (cstep U) [0]
structure Clo (U : Nat → Nat) (C : List Nat) : Prop where
  zero : C[0]? = some 0
  lt : ∀ m ∈ C, m < 64
  full : 63 ∈ C
  nd : C.Nodup
  grow : ∀ m ∈ C, ∀ n, n < 6 → bit m n = false → (n = 0 ∨ bit m (U n) = true) → m + 2 ^ n ∈ C
  ord : ∀ k, k < C.length → ∀ n, n < 6 → bit (C.getD k 0) n = true → C.getD k 0 - 2 ^ n ∈ C → C.getD k 0 - 2 ^ n ∈ C.take k
  ne : ∀ m ∈ C, m ≠ 0 → ∃ n, n < 6 ∧ bit m n = true ∧ m - 2 ^ n ∈ C
  cl : ∀ m ∈ C, ∀ n, n < 6 → bit m n = true → m - 2 ^ n ∈ C → n ≠ 0 → bit (m - 2 ^ n) (U n) = true
noncomputable def ul (a b c d : Nat) : Nat → Nat := fun j => [0, 0, a, b, c, d].getD j 0
noncomputable def cloB (U : Nat → Nat) (C : List Nat) : Bool :=
  C[0]? == some 0 && C.all (fun m => m < 64) && C.contains 63 && decide C.Nodup &&
  C.all (fun m => (List.range 6).all fun n => bit m n || !(n == 0 || bit m (U n)) || C.contains (m + 2 ^ n)) &&
  (List.range C.length).all (fun k => (List.range 6).all fun n => !bit (C.getD k 0) n || !C.contains (C.getD k 0 - 2 ^ n) || (C.take k).contains (C.getD k 0 - 2 ^ n)) &&
  C.all (fun m => m == 0 || (List.range 6).any fun n => bit m n && C.contains (m - 2 ^ n)) &&
  C.all (fun m => (List.range 6).all fun n => !bit m n || !C.contains (m - 2 ^ n) || n == 0 || bit (m - 2 ^ n) (U n))
theorem cloB_ok : ∀ a, a < 2 → ∀ b, b < 3 → ∀ c, c < 4 → ∀ d, d < 5 → cloB (ul a b c d) (clo (ul a b c d)) = true := by decide +kernel
theorem clo_of {U : Nat → Nat} {C : List Nat} (h : cloB U C = true) : Clo U C := by
  unfold cloB at h
  simp only [Bool.and_eq_true, List.all_eq_true, decide_eq_true_eq, beq_iff_eq, List.contains_iff_mem, List.mem_range, Bool.or_eq_true, Bool.not_eq_true', List.any_eq_true] at h
  obtain ⟨⟨⟨⟨⟨⟨⟨h1, h2⟩, h3⟩, h4⟩, h5⟩, h6⟩, h7⟩, h8⟩ := h
  refine ⟨h1, h2, h3, h4, fun m hm n hn hb hu => ?_, fun k hk n hn hb hc => ?_, fun m hm h0 => ?_, fun m hm n hn hb hc h0 => ?_⟩
  · rcases h5 m hm n hn with (q | q) | q
    · rw [hb] at q; cases q
    · rcases hu with rfl | hu
      · simp at q
      · rw [hu] at q; simp at q
    · exact q
  · rcases h6 k hk n hn with (q | q) | q
    · rw [hb] at q; cases q
    · rw [← Bool.not_eq_true, List.contains_iff_mem] at q; exact absurd hc q
    · exact q
  · rcases h7 m hm with q | ⟨n, hn, q⟩
    · exact absurd q h0
    · exact ⟨n, hn, q.1, q.2⟩
  · rcases h8 m hm n hn with ((q | q) | q) | q
    · rw [hb] at q; cases q
    · rw [← Bool.not_eq_true, List.contains_iff_mem] at q; exact absurd hc q
    · exact absurd q h0
    · exact q
theorem clo_ok {a b c d : Nat} (ha : a < 2) (hb : b < 3) (hc : c < 4) (hd : d < 5) : Clo (ul a b c d) (clo (ul a b c d)) := clo_of (cloB_ok a ha b hb c hc d hd)
theorem bit_add : ∀ m, m < 64 → ∀ n, n < 6 → bit m n = false → m + 2 ^ n < 64 ∧ ∀ k, k < 6 → bit (m + 2 ^ n) k = (k == n || bit m k) := by decide +kernel
theorem bit_sub : ∀ m, m < 64 → ∀ n, n < 6 → bit m n = true → 2 ^ n ≤ m ∧ bit (m - 2 ^ n) n = false := by decide +kernel
theorem bit_full : ∀ n, n < 6 → bit 63 n = true := by decide +kernel
noncomputable def maskOf (l : List Nat) : Nat := (l.map (2 ^ ·)).sum
theorem maskOf_snoc (l : List Nat) (n : Nat) : maskOf (l ++ [n]) = maskOf l + 2 ^ n := by simp [maskOf]
theorem maskOf_perm {l l' : List Nat} (h : l.Perm l') : maskOf l = maskOf l' := (h.map _).sum_nat
theorem mask_bits : ∀ (k : Nat) (l : List Nat), l.length = k → l.Nodup → (∀ n ∈ l, n < 6) → maskOf l < 64 ∧ ∀ n, n < 6 → (bit (maskOf l) n = true ↔ n ∈ l)
  | 0, l, hl, _, _ => by
    have : l = [] := List.length_eq_zero_iff.mp hl
    subst this
    refine ⟨by decide, fun n hn => ?_⟩
    have : bit (maskOf []) n = false := by unfold bit maskOf; simp
    rw [this]; simp
  | k + 1, l, hl, nd, h => by
    obtain ⟨τ, n, rfl⟩ : ∃ τ n, l = τ ++ [n] := ⟨l.dropLast, l.getLast (by intro e; rw [e] at hl; cases hl), (List.dropLast_concat_getLast _).symm⟩
    obtain ⟨nd1, _, nd2⟩ := List.nodup_append.mp nd
    have hn : n < 6 := h n (by simp)
    obtain ⟨i1, i2⟩ := mask_bits k τ (by simp at hl; exact hl) nd1 fun x hx => h x (List.mem_append_left _ hx)
    have hb : bit (maskOf τ) n = false := by
      rw [← Bool.not_eq_true, i2 n hn]
      exact fun q => nd2 n q n (by simp) rfl
    obtain ⟨b1, b2⟩ := bit_add _ i1 n hn hb
    rw [maskOf_snoc]
    refine ⟨b1, fun x hx => ?_⟩
    rw [b2 x hx, Bool.or_eq_true, i2 x hx, beq_iff_eq]
    simp [or_comm]
section
variable {span price : Nat → Nat} {U : Nat → Nat} {head : Nat}
noncomputable def sizeF (span : Nat → Nat) (m : Nat) : Nat := ((List.range 6).map fun j => if bit m j then span j else 0).sum
theorem sizeF_add {m n : Nat} (hm : m < 64) (hn : n < 6) (hb : bit m n = false) : sizeF span (m + 2 ^ n) = sizeF span m + span n := by
  obtain ⟨_, b⟩ := bit_add m hm n hn hb
  have e : ∀ f : Nat → Nat, ((List.range 6).map f).sum = f 0 + (f 1 + (f 2 + (f 3 + (f 4 + f 5)))) := fun f => by
    rw [show List.range 6 = [0, 1, 2, 3, 4, 5] from by decide]; simp
  unfold sizeF
  rw [e, e, b 0 (by lia), b 1 (by lia), b 2 (by lia), b 3 (by lia), b 4 (by lia), b 5 (by lia)]
  have h6 : n = 0 ∨ n = 1 ∨ n = 2 ∨ n = 3 ∨ n = 4 ∨ n = 5 := or6 _ (by first | assumption | lia)
  rcases h6 with rfl | rfl | rfl | rfl | rfl | rfl <;> simp [hb] <;> lia
theorem sizeF_sub {m n : Nat} (hm : m < 64) (hn : n < 6) (hb : bit m n = true) : sizeF span (m - 2 ^ n) + span n = sizeF span m := by
  obtain ⟨b1, b2⟩ := bit_sub m hm n hn hb
  have := sizeF_add (span := span) (m := m - 2 ^ n) (Nat.lt_of_le_of_lt (Nat.sub_le _ _) hm) hn b2
  rw [Nat.sub_add_cancel b1] at this
  lia
theorem spanL_mask : ∀ (k : Nat) (l : List Nat), l.length = k → l.Nodup → (∀ n ∈ l, n < 6) → spanL span l = sizeF span (maskOf l)
  | 0, l, hl, _, _ => by
    have : l = [] := List.length_eq_zero_iff.mp hl
    subst this
    unfold sizeF maskOf spanL bit; simp; rfl
  | k + 1, l, hl, nd, h => by
    obtain ⟨τ, n, rfl⟩ : ∃ τ n, l = τ ++ [n] := ⟨l.dropLast, l.getLast (by intro e; rw [e] at hl; cases hl), (List.dropLast_concat_getLast _).symm⟩
    obtain ⟨nd1, _, nd2⟩ := List.nodup_append.mp nd
    have hn : n < 6 := h n (by simp)
    have h' : ∀ x ∈ τ, x < 6 := fun x hx => h x (List.mem_append_left _ hx)
    have hl' : τ.length = k := by simp at hl; exact hl
    obtain ⟨i1, i2⟩ := mask_bits k τ hl' nd1 h'
    have hb : bit (maskOf τ) n = false := by
      rw [← Bool.not_eq_true, i2 n hn]
      exact fun q => nd2 n q n (by simp) rfl
    rw [maskOf_snoc, sizeF_add i1 hn hb, ← spanL_mask k τ hl' nd1 h', spanL_append]
    simp [spanL]
theorem costL_snoc : ∀ (l : List Nat) (t n : Nat), costL span price t (l ++ [n]) = costL span price t l + price n * (t + spanL span l + span n)
  | [], t, n => by simp [costL, spanL]
  | a :: l, t, n => by
    rw [List.cons_append, costL, costL, costL_snoc l]
    simp only [spanL, List.map_cons, List.sum_cons]
    rw [show t + span a + (List.map span l).sum + span n = t + (span a + (List.map span l).sum) + span n from by lia]
    lia
theorem Feas.left {l : List Nat} {n : Nat} (h : Feas U (l ++ [n])) : Feas U l ∧ (n ≠ 0 → U n ∈ l) :=
  ⟨fun A x B e hx => h A x (B ++ [n]) (by rw [e]; simp) hx, fun hn => h l n [] rfl hn⟩
theorem Feas.snoc {l : List Nat} {n : Nat} (h : Feas U l) (hn : n ≠ 0 → U n ∈ l) : Feas U (l ++ [n]) := fun A x B e hx => by
  rcases List.eq_nil_or_concat B with rfl | ⟨B', y, rfl⟩
  · have e2 : l ++ [n] = A ++ [x] := e
    obtain ⟨rfl, e3⟩ := List.append_inj' e2 rfl
    cases e3; exact hn hx
  · have e2 : l ++ [n] = (A ++ x :: B') ++ [y] := by rw [e]; simp
    obtain ⟨e3, _⟩ := List.append_inj' e2 rfl
    exact h A x B' e3 hx
noncomputable def Ord (U : Nat → Nat) (σ : List Nat) : Prop := σ.Nodup ∧ (∀ n ∈ σ, n < 6) ∧ Feas U σ
theorem Ord.left {σ : List Nat} {n : Nat} (h : Ord U (σ ++ [n])) : Ord U σ ∧ n < 6 ∧ n ∉ σ ∧ (n ≠ 0 → U n ∈ σ) := by
  obtain ⟨nd, h6, hf⟩ := h
  obtain ⟨nd1, _, nd2⟩ := List.nodup_append.mp nd
  exact ⟨⟨nd1, fun x hx => h6 x (List.mem_append_left _ hx), hf.left.1⟩, h6 n (by simp), fun q => nd2 n q n (by simp) rfl, hf.left.2⟩
theorem Ord.bits {σ : List Nat} (h : Ord U σ) : maskOf σ < 64 ∧ ∀ n, n < 6 → (bit (maskOf σ) n = true ↔ n ∈ σ) := mask_bits _ σ rfl h.1 h.2.1
theorem Ord.mem {C : List Nat} (c : Clo U C) (hup : ∀ j, 0 < j → j < 6 → U j < j) : ∀ (k : Nat) (σ : List Nat), σ.length = k → Ord U σ → maskOf σ ∈ C
  | 0, σ, hl, _ => by
    have : σ = [] := List.length_eq_zero_iff.mp hl
    subst this
    exact List.mem_of_getElem? c.zero
  | k + 1, σ, hl, h => by
    obtain ⟨τ, n, rfl⟩ : ∃ τ n, σ = τ ++ [n] := ⟨σ.dropLast, σ.getLast (by intro e; rw [e] at hl; cases hl), (List.dropLast_concat_getLast _).symm⟩
    obtain ⟨h1, hn, h2, h3⟩ := h.left
    have ih := Ord.mem c hup k τ (by simp at hl; exact hl) h1
    obtain ⟨b1, b2⟩ := h1.bits
    rw [maskOf_snoc]
    refine c.grow _ ih n hn (by rw [← Bool.not_eq_true, b2 n hn]; exact h2) ?_
    by_cases h0 : n = 0
    · exact .inl h0
    · exact .inr ((b2 _ (by have := hup n (by lia) hn; lia)).mpr (h3 h0))
structure DP (span price : Nat → Nat) (U : Nat → Nat) (head : Nat) (E : List Nat) (B : Nat → Nat) : Prop where
  att : ∀ m ∈ E, ∃ σ, Ord U σ ∧ maskOf σ = m ∧ costL span price head σ = B m
  low : ∀ m ∈ E, ∀ σ, Ord U σ → maskOf σ = m → B m ≤ costL span price head σ
theorem DP.init : DP span price U head [0] (fun _ => 0) := by
  refine ⟨fun m hm => ⟨[], ⟨List.nodup_nil, by simp, fun A x B e => by simp at e⟩, ?_, rfl⟩, fun m hm σ _ _ => Nat.zero_le _⟩
  have : m = 0 := by simpa using hm
  rw [this]; rfl
noncomputable def lasts (E : List Nat) (m : Nat) : List Nat := (List.range 6).filter fun n => bit m n && decide (m - 2 ^ n ∈ E)
theorem lasts_ne {C : List Nat} (c : Clo U C) {k m : Nat} (hk : C[k]? = some m) (h0 : k ≠ 0) : lasts (C.take k) m ≠ [] := by
  have hm := List.mem_of_getElem? hk
  have hkl := (List.getElem?_eq_some_iff.mp hk).1
  have hg : C.getD k 0 = m := by rw [List.getD_eq_getElem?_getD, hk]; rfl
  have hm0 : m ≠ 0 := by
    rintro rfl
    obtain ⟨h1, h2⟩ := List.getElem?_eq_some_iff.mp hk
    obtain ⟨h3, h4⟩ := List.getElem?_eq_some_iff.mp c.zero
    exact h0 ((List.getElem_inj c.nd).mp (h2.trans h4.symm))
  obtain ⟨n, hn, hb, hc⟩ := c.ne m hm hm0
  have := c.ord k hkl n hn (by rw [hg]; exact hb) (by rw [hg]; exact hc)
  rw [hg] at this
  intro e
  have : n ∈ lasts (C.take k) m := List.mem_filter.mpr ⟨List.mem_range.mpr hn, by rw [hb, decide_eq_true this]; rfl⟩
  rw [e] at this; cases this
theorem DP.step {C : List Nat} (c : Clo U C) (hup : ∀ j, 0 < j → j < 6 → U j < j) {k m v : Nat} {B : Nat → Nat} (d : DP span price U head (C.take k) B) (hk : C[k]? = some m) (h0 : k ≠ 0)
    (hv : (∃ n ∈ lasts (C.take k) m, v = B (m - 2 ^ n) + price n * (head + sizeF span m)) ∧ ∀ n ∈ lasts (C.take k) m, v ≤ B (m - 2 ^ n) + price n * (head + sizeF span m)) :
    DP span price U head (C.take (k + 1)) (fun x => if x = m then v else B x) := by
  have hm := List.mem_of_getElem? hk
  have hkl := (List.getElem?_eq_some_iff.mp hk).1
  have hg : C.getD k 0 = m := by rw [List.getD_eq_getElem?_getD, hk]; rfl
  have e1 : C.take (k + 1) = C.take k ++ [m] := by rw [List.take_add_one, hk]; rfl
  have m64 := c.lt m hm
  have hnm : ∀ x ∈ C.take k, x ≠ m := by
    rintro x hx rfl
    have nd := c.nd.sublist (List.take_sublist (k + 1) C)
    rw [e1] at nd
    exact (List.nodup_append.mp nd).2.2 x hx x (by simp) rfl
  have key : ∀ n τ, Ord U τ → n < 6 → bit m n = true → maskOf τ = m - 2 ^ n → costL span price head (τ ++ [n]) = costL span price head τ + price n * (head + sizeF span m) := fun n τ ho hn hb e => by
    rw [costL_snoc, spanL_mask _ τ rfl ho.1 ho.2.1, e, ← sizeF_sub (span := span) m64 hn hb, Nat.add_assoc]
  rw [e1]
  refine ⟨fun x hx => ?_, fun x hx σ ho e => ?_⟩
  · rcases List.mem_append.mp hx with hx | hx
    · rw [if_neg (hnm x hx)]; exact d.att x hx
    · have : x = m := by simpa using hx
      subst this
      rw [if_pos rfl]
      obtain ⟨n, hn, rfl⟩ := hv.1
      obtain ⟨h1, h2⟩ := List.mem_filter.mp hn
      have h6 := List.mem_range.mp h1
      rw [Bool.and_eq_true, decide_eq_true_eq] at h2
      obtain ⟨τ, t1, t2, t3⟩ := d.att _ h2.2
      obtain ⟨s1, s2⟩ := bit_sub x m64 n h6 h2.1
      obtain ⟨b1, b2⟩ := t1.bits
      have hnt : n ∉ τ := fun q => by
        have := (b2 n h6).mpr q
        rw [t2, s2] at this; cases this
      refine ⟨τ ++ [n], ⟨?_, ?_, ?_⟩, ?_, ?_⟩
      · rw [List.nodup_append]
        exact ⟨t1.1, by simp, fun a ha b hb => by have : b = n := by simpa using hb
                                                  subst this; exact fun q => hnt (q ▸ ha)⟩
      · intro a ha
        rcases List.mem_append.mp ha with ha | ha
        · exact t1.2.1 a ha
        · have : a = n := by simpa using ha
          lia
      · refine t1.2.2.snoc fun hn0 => ?_
        have := c.cl x hm n h6 h2.1 (List.mem_of_mem_take h2.2) hn0
        rw [← t2] at this
        exact (b2 _ (by have := hup n (by lia) h6; lia)).mp this
      · rw [maskOf_snoc, t2, Nat.sub_add_cancel s1]
      · rw [key n τ t1 h6 h2.1 t2, t3]
  · rcases List.mem_append.mp hx with hx | hx
    · simp only [if_neg (hnm x hx)]; exact d.low x hx σ ho e
    · have : x = m := by simpa using hx
      subst this
      simp only [if_true]
      have hne : σ ≠ [] := by
        rintro rfl
        have : x = 0 := by rw [← e]; rfl
        subst this
        obtain ⟨h1, h2⟩ := List.getElem?_eq_some_iff.mp hk
        obtain ⟨h3, h4⟩ := List.getElem?_eq_some_iff.mp c.zero
        exact h0 ((List.getElem_inj c.nd).mp (h2.trans h4.symm))
      obtain ⟨τ, n, rfl⟩ : ∃ τ n, σ = τ ++ [n] := ⟨σ.dropLast, σ.getLast hne, (List.dropLast_concat_getLast _).symm⟩
      obtain ⟨t1, h6, t2, t3⟩ := ho.left
      obtain ⟨b1, b2⟩ := ho.bits
      have hb : bit x n = true := by rw [← e]; exact (b2 n h6).mpr (by simp)
      have em : maskOf τ = x - 2 ^ n := by rw [← e, maskOf_snoc]; lia
      have hc := Ord.mem c hup _ τ rfl t1
      rw [em] at hc
      have := c.ord k hkl n h6 (by rw [hg]; exact hb) (by rw [hg]; exact hc)
      rw [hg] at this
      have h2 := hv.2 n (List.mem_filter.mpr ⟨List.mem_range.mpr h6, by rw [hb, decide_eq_true this]; rfl⟩)
      have h3 := d.low _ this τ t1 em
      rw [key n τ t1 h6 hb em]
      lia
theorem DP.best {C : List Nat} (c : Clo U C) {B : Nat → Nat} (d : DP span price U head C B) {σ : List Nat} (hp : σ.Perm (List.range 6)) (hf : Feas U σ) (hmin : ∀ τ, τ.Perm (List.range 6) → Feas U τ → costL span price head σ ≤ costL span price head τ) :
    costL span price head σ = B 63 := by
  have ho : Ord U σ := ⟨hp.nodup_iff.mpr List.nodup_range, fun n hn => List.mem_range.mp (hp.mem_iff.mp hn), hf⟩
  have hm : maskOf σ = 63 := by rw [maskOf_perm hp]; decide
  refine Nat.le_antisymm ?_ (d.low 63 c.full σ ho hm)
  obtain ⟨τ, t1, t2, t3⟩ := d.att 63 c.full
  rw [← t3]
  refine hmin τ ?_ t1.2.2
  obtain ⟨b1, b2⟩ := t1.bits
  refine (List.perm_ext_iff_of_nodup t1.1 List.nodup_range).mpr fun n => ⟨fun h => List.mem_range.mpr (t1.2.1 n h), fun h => ?_⟩
  have h6 := List.mem_range.mp h
  exact (b2 n h6).mp (by rw [t2]; exact bit_full n h6)
end
end Mine
end
section
open PySem PySem.W PySem.Calls PyProof.Rows
set_option tactic.hygienic false
namespace Mine
theorem tOk : ∀ way, TOk (handT way) := fun way => by
  have h : way = 0 ∨ way = 1 ∨ way = 2 ∨ way = 3 ∨ ∃ k, way = k + 4 := by
    rcases way with _ | _ | _ | _ | k
    · simp
    · simp
    · simp
    · simp
    · exact .inr (.inr (.inr (.inr ⟨k, rfl⟩)))
  rcases h with rfl | rfl | rfl | rfl | ⟨k, rfl⟩ <;> (simp only [handT, Tcdata, Tattr, Thtml, Tcc, Tac, TOk]; decide)
theorem tlook_mem {T : List (Nat × Str)} {d : Nat} {z : Str} (h : T.lookup d = some z) : (d, z) ∈ T := by
  induction T with
  | nil => cases h
  | cons p T ih =>
    obtain ⟨k, y⟩ := p
    rw [List.lookup_cons] at h
    cases q : d == k
    · rw [q] at h; exact List.mem_cons_of_mem _ (ih h)
    · rw [q] at h; cases h
      have : d = k := by simpa using q
      subst this; exact List.mem_cons_self ..
theorem tabl_len (way d : Nat) : 1 ≤ (tabl (handT way) d).length ∧ (tabl (handT way) d).length ≤ 6 := by
  have h : ∀ p ∈ handT way, 1 ≤ p.2.cps.toList.length ∧ p.2.cps.toList.length ≤ 6 := by
    rcases way with _ | _ | _ | _ | k <;> (simp only [handT, Tcdata, Tattr, Thtml, Tcc, Tac]; decide)
  unfold tabl
  cases e : (handT way).lookup d with
  | none => simp
  | some z => exact h _ (tlook_mem e)
noncomputable def exL (way : Nat) (l : List Nat) : Nat := (l.map fun d => (tabl (handT way) d).length - 1).sum
noncomputable def ex (way : Nat) (x : Str) : Nat := exL way x.cps.toList
theorem flat_exL (way : Nat) : ∀ l : List Nat, (l.flatMap (tabl (handT way))).length = l.length + exL way l
  | [] => rfl
  | d :: l => by
    have ih := flat_exL way l
    have := (tabl_len way d).1
    unfold exL at *
    rw [List.flatMap_cons, List.length_append, ih, List.map_cons, List.sum_cons, List.length_cons]; lia
theorem esc_ex (way : Nat) (x : Str) : (esc way x).length = x.length + ex way x := by
  rw [len_eq, show esc way x = escF (handT way) x from rfl, escF_flat _ _ (tOk way), flat_exL, ← len_eq]; rfl
theorem exL_append (way : Nat) (a b : List Nat) : exL way (a ++ b) = exL way a + exL way b := by simp [exL]
theorem exL_le (way : Nat) : ∀ l : List Nat, exL way l ≤ 5 * l.length
  | [] => by simp [exL]
  | d :: l => by
    have ih := exL_le way l
    have := (tabl_len way d).2
    unfold exL at *
    rw [List.map_cons, List.sum_cons, List.length_cons]; lia
theorem ex_le (way : Nat) (x : Str) : ex way x ≤ 5 * x.length := by rw [len_eq]; exact exL_le way _
theorem tabl_ltr (way : Nat) {j : Nat} (h : j < 6) : tabl (handT way) (97 + j) = [97 + j] := by
  have hj : j = 0 ∨ j = 1 ∨ j = 2 ∨ j = 3 ∨ j = 4 ∨ j = 5 := or6 _ (by first | assumption | lia)
  rcases way with _ | _ | _ | _ | k <;> rcases hj with rfl | rfl | rfl | rfl | rfl | rfl <;> rfl
theorem exL_ltr (way : Nat) {j : Nat} (h : j < 6) : exL way (ltr j).cps.toList = 0 := by
  show exL way [97 + j] = 0
  unfold exL
  rw [List.map_cons, tabl_ltr way h]; rfl
theorem joinE_cps : ∀ l : List Str, (Str.join "" l).cps.toList = l.flatMap fun x => x.cps.toList
  | [] => rfl
  | [p] => by rw [join_one]; simp
  | p :: q :: r => by
    rw [join_cons_cons, cps_append, cps_append, joinE_cps (q :: r)]
    show (p.cps.toList ++ []) ++ _ = _
    simp
theorem pileStr_cps (l : List (Str × Str)) : (pileStr l).cps.toList = l.flatMap fun q => q.1.cps.toList ++ q.2.cps.toList := by
  unfold pileStr
  rw [show ∀ x, Txt.join "" x = Str.join "" x from fun x => StrLaws.glued_eq_join _ _, joinE_cps, List.flatMap_map]
  congr 1
  funext q
  show (q.1 ++ "" ++ q.2 : Str).cps.toList = _
  rw [cps_append, cps_append]
  show (_ ++ []) ++ _ = _
  simp
theorem pcs_cps (ts : Nat → Str) (l : List Nat) : (pileStr (pcs ts l)).cps.toList = l.flatMap fun j => (97 + j) :: (ts j).cps.toList := by
  rw [pileStr_cps]; unfold pcs; rw [List.flatMap_map]; rfl
theorem ex_pile (way : Nat) (ts : Nat → Str) : ∀ l : List Nat, (∀ n ∈ l, n < 6) → ex way (pileStr (pcs ts l)) = (l.map fun j => ex way (ts j)).sum
  | [], _ => by unfold ex; rw [pcs_cps]; rfl
  | j :: l, h => by
    have ih := ex_pile way ts l fun n hn => h n (List.mem_cons_of_mem _ hn)
    unfold ex at *
    rw [pcs_cps] at *
    rw [List.flatMap_cons, exL_append, ih, List.map_cons, List.sum_cons]
    congr 1
    rw [show (97 + j) :: (ts j).cps.toList = (ltr j).cps.toList ++ (ts j).cps.toList from rfl, exL_append, exL_ltr way (h j (List.mem_cons_self ..))]
    lia
theorem len_pile (ts : Nat → Str) : ∀ l : List Nat, (pileStr (pcs ts l)).length = pileLen (pcs ts l)
  | [] => rfl
  | j :: l => by
    have ih := len_pile ts l
    rw [len_eq, pcs_cps] at *
    rw [List.flatMap_cons, List.length_append, ih, List.length_cons, ← len_eq]
    simp only [pcs, pileLen, List.map_cons, List.sum_cons, pieceLen]
    show (ts j).length + 1 + _ = 1 + (ts j).length + _
    lia
theorem price_ex (J : Job) (j : Nat) : J.price j = ex J.way (J.ts j) := by
  unfold Job.price; rw [esc_ex]; lia
theorem priceL_ex (J : Job) (l : List Nat) : priceL J.price l = (l.map fun j => ex J.way (J.ts j)).sum := by
  unfold priceL
  congr 1
  exact List.map_congr_left fun j _ => price_ex J j
theorem spanL_pile (J : Job) : ∀ l : List Nat, pileLen (pcs J.ts l) = spanL J.span l
  | [] => rfl
  | j :: l => by
    have ih := spanL_pile J l
    simp only [pcs, pileLen, List.map_cons, List.sum_cons, pieceLen, spanL] at *
    rw [ih]; rfl
theorem dear_eq (J : Job) {l : List Nat} (h : ∀ n ∈ l, n < 6) : dearV J.way (pcs J.ts l) = 200000000 - (priceL J.price l : Int) * Int.fdiv 12252240 (spanL J.span l : Int) := by
  unfold dearV
  rw [esc_ex, len_pile, ex_pile _ _ _ h, ← priceL_ex, spanL_pile]
  congr 2
  lia
theorem fdiv_nat (a b : Nat) : Int.fdiv (a : Int) (b : Int) = ((a / b : Nat) : Int) := by
  rw [Int.fdiv_eq_ediv_of_nonneg _ (by lia)]; rfl
theorem price_span (J : Job) : ∀ l : List Nat, priceL J.price l ≤ 5 * spanL J.span l
  | [] => by simp [priceL, spanL]
  | j :: l => by
    have ih := price_span J l
    have h := ex_le J.way (J.ts j)
    rw [← price_ex] at h
    simp only [priceL, spanL, List.map_cons, List.sum_cons] at *
    unfold Job.span at *
    lia
theorem nodup_lenN : ∀ (N : Nat) (l : List Nat), l.Nodup → (∀ n ∈ l, n < N) → l.length ≤ N
  | 0, [], _, _ => Nat.le_refl _
  | 0, a :: l, _, h => absurd (h a (List.mem_cons_self ..)) (by lia)
  | N + 1, l, nd, h => by
    have ih := nodup_lenN N (l.erase N) (nd.erase N) fun n hn => by
      have h1 := h n (List.mem_of_mem_erase hn)
      have h2 : n ≠ N := fun e => by subst e; exact (nd.not_mem_erase) hn
      lia
    have := @List.length_erase Nat _ _ N l
    split at this <;> lia
theorem nodup_len {l : List Nat} (nd : l.Nodup) (h : ∀ n ∈ l, n < 6) : l.length ≤ 6 := nodup_lenN 6 l nd h
theorem spanL_bd (J : Job) (hts : ∀ j, j < 6 → (J.ts j).length ≤ 2) : ∀ l : List Nat, (∀ n ∈ l, n < 6) → l.length ≤ spanL J.span l ∧ spanL J.span l ≤ 3 * l.length
  | [], _ => by simp [spanL]
  | j :: l, h => by
    have ih := spanL_bd J hts l fun n hn => h n (List.mem_cons_of_mem _ hn)
    have h1 := hts j (h j (List.mem_cons_self ..))
    simp only [spanL, List.map_cons, List.sum_cons, List.length_cons] at *
    unfold Job.span at *
    lia
theorem whole : ∀ s, s < 19 → 0 < s → 12252240 / s * s = 12252240 := by decide
theorem job_span (J : Job) (hts : ∀ j, j < 6 → (J.ts j).length ≤ 2) {l : List Nat} (nd : l.Nodup) (h : ∀ n ∈ l, n < 6) (ne : l ≠ []) : 0 < spanL J.span l ∧ spanL J.span l < 19 := by
  have h1 := nodup_len nd h
  have h2 := spanL_bd J hts l h
  have h3 := List.length_pos_iff.mpr ne
  lia
theorem job_nine (J : Job) (hts : ∀ j, j < 6 → (J.ts j).length ≤ 2) {l : List Nat} (nd : l.Nodup) (h : ∀ n ∈ l, n < 6) (ne : l ≠ []) : Nine (dearV J.way (pcs J.ts l)) := by
  obtain ⟨h1, h2⟩ := job_span J hts nd h ne
  have h3 := whole _ h2 h1
  have h4 := price_span J l
  rw [dear_eq J h, show (12252240 : Int) = ((12252240 : Nat) : Int) from rfl, fdiv_nat, ← Int.natCast_mul]
  have h5 : priceL J.price l * (12252240 / spanL J.span l) ≤ 5 * spanL J.span l * (12252240 / spanL J.span l) := Nat.mul_le_mul_right _ h4
  have h6 : 5 * spanL J.span l * (12252240 / spanL J.span l) = 61261200 := by
    rw [Nat.mul_assoc, Nat.mul_comm (spanL J.span l), h3]
  unfold Nine
  lia
theorem job_cmp (J : Job) (hts : ∀ j, j < 6 → (J.ts j).length ≤ 2) {l l' : List Nat} (nd : l.Nodup) (h : ∀ n ∈ l, n < 6) (ne : l ≠ []) (nd' : l'.Nodup) (h' : ∀ n ∈ l', n < 6) (ne' : l' ≠ [])
    (hd : dearV J.way (pcs J.ts l) ≤ dearV J.way (pcs J.ts l')) : priceL J.price l' * spanL J.span l ≤ priceL J.price l * spanL J.span l' := by
  obtain ⟨h1, h2⟩ := job_span J hts nd h ne
  obtain ⟨h1', h2'⟩ := job_span J hts nd' h' ne'
  have h3 := whole _ h2 h1
  have h3' := whole _ h2' h1'
  rw [dear_eq J h, dear_eq J h', show (12252240 : Int) = ((12252240 : Nat) : Int) from rfl, fdiv_nat, fdiv_nat, ← Int.natCast_mul, ← Int.natCast_mul] at hd
  have h5 : priceL J.price l' * (12252240 / spanL J.span l') ≤ priceL J.price l * (12252240 / spanL J.span l) := by lia
  generalize priceL J.price l = P at *
  generalize priceL J.price l' = P' at *
  generalize spanL J.span l = s at *
  generalize spanL J.span l' = s' at *
  generalize 12252240 / s = q at *
  generalize 12252240 / s' = q' at *
  have h6 := Nat.mul_le_mul_right (s * s') h5
  have e1 : P' * q' * (s * s') = P' * s * (q' * s') := by rw [Nat.mul_assoc, Nat.mul_left_comm q', ← Nat.mul_assoc]
  have e2 : P * q * (s * s') = P * s' * (q * s) := by rw [Nat.mul_comm s s', Nat.mul_assoc, Nat.mul_left_comm q, ← Nat.mul_assoc]
  rw [e1, e2, h3, h3'] at h6
  exact Nat.le_of_mul_le_mul_right h6 (by decide)
end Mine
end
section
open PySem PySem.W PySem.Calls PyProof.Rows PySem.Builtin.Str
set_option tactic.hygienic false
namespace Mine
theorem at_iff (x y : Str) (i : Nat) : StrLaws.At x y x.length i ↔ ∃ A B, x.cps.toList = A ++ y.cps.toList ++ B ∧ A.length = i := by
  unfold StrLaws.At
  rw [StrLaws.subAt_eq, beq_iff_eq, len_eq y, len_eq x]
  constructor
  · rintro ⟨h1, h2⟩
    refine ⟨x.cps.toList.take i, (x.cps.toList.drop i).drop y.cps.toList.length, ?_, by rw [List.length_take]; lia⟩
    rw [List.append_assoc]
    conv => lhs; rw [← List.take_append_drop i x.cps.toList]
    congr 1
    conv => lhs; rw [← List.take_append_drop y.cps.toList.length (x.cps.toList.drop i)]
    rw [h2]
  · rintro ⟨A, B, e, rfl⟩
    rw [e]
    refine ⟨by simp, ?_⟩
    rw [List.append_assoc, List.drop_left]; simp
theorem find_at {x : Str} {A B : List Nat} (h : x.cps.toList = A ++ 46 :: B) (hA : 46 ∉ A) : Txt.find x "." = (A.length : Int) := by
  unfold Txt.find
  rcases StrLaws.occ_head x "." 1 (Nat.le_refl _) with ⟨e, hn⟩ | ⟨i, r, e, hi, hk⟩
  · exact absurd ((at_iff x "." A.length).mpr ⟨A, B, by rw [h]; simp [show ("." : Str).cps.toList = [46] from rfl], rfl⟩) (hn _)
  · rw [e]
    have h1 : i ≤ A.length := by
      rcases Nat.lt_or_ge A.length i with q | q
      · exact absurd ((at_iff x "." A.length).mpr ⟨A, B, by rw [h]; simp [show ("." : Str).cps.toList = [46] from rfl], rfl⟩) (hk _ q)
      · exact q
    obtain ⟨A', B', e2, rfl⟩ := (at_iff x "." i).mp hi
    rw [h, show ("." : Str).cps.toList = [46] from rfl] at e2
    show ((A'.length : Nat) : Int) = _
    rcases Nat.lt_or_ge A'.length A.length with q | q
    · exfalso
      have e3 : (A ++ 46 :: B)[A'.length]? = some 46 := by rw [e2]; simp
      rw [List.getElem?_append_left q] at e3
      exact hA (List.mem_of_getElem? e3)
    · have : A'.length = A.length := by lia
      rw [this]
theorem find_no {x : Str} (h : 46 ∉ x.cps.toList) : Txt.find x "." = -1 := by
  unfold Txt.find
  rcases StrLaws.occ_head x "." 1 (Nat.le_refl _) with ⟨e, hn⟩ | ⟨i, r, e, hi, hk⟩
  · rw [e]
  · exfalso
    obtain ⟨A, B, e2, _⟩ := (at_iff x "." i).mp hi
    rw [show ("." : Str).cps.toList = [46] from rfl] at e2
    exact h (by rw [e2]; simp)
theorem mem_split {l : List Nat} {c : Nat} (h : c ∈ l) : ∃ A B, l = A ++ c :: B ∧ c ∉ A := by
  induction l with
  | nil => cases h
  | cons a l ih =>
    by_cases e : a = c
    · subst e; exact ⟨[], l, rfl, by simp⟩
    · obtain ⟨A, B, e1, e2⟩ := ih ((List.mem_cons.mp h).resolve_left fun q => e q.symm)
      exact ⟨a :: A, B, by rw [e1]; rfl, fun q => (List.mem_cons.mp q).elim (fun q => e q.symm) e2⟩
theorem find_in {x : Str} (h : 46 ∈ x.cps.toList) : 0 ≤ Txt.find x "." := by
  obtain ⟨A, B, e, h2⟩ := mem_split h
  rw [find_at e h2]; lia
theorem slice_from (x : Str) (k : Nat) (h : k ≤ x.length) : (Txt.slice x (some (k : Int)) none).cps.toList = x.cps.toList.drop k := by
  have hx := len_eq x
  rw [beq_iff_eq.mp (slice_closes_fromL (x := x) (i := (k : Int)) (b := (x.length : Int)) (by lia) (by lia) rfl)]
  show (x.cps.toList.drop k).take ((x.length : Int) - (k : Int)).toNat = _
  rw [List.take_of_length_le (by rw [List.length_drop]; lia)]
theorem last_eq (s sub : Str) (hi : Nat) : lastOccurrence s sub 0 hi = (List.range (hi + 1)).foldl (fun last i => if i + sub.length ≤ hi ∧ subAt s sub i = true then some i else last) none := by
  unfold lastOccurrence
  simp
  rw [List.range_eq_range']
  generalize List.range' 0 (hi + 1) = l
  generalize (none : Option Nat) = o
  induction l generalizing o with
  | nil => rfl
  | cons a l ih =>
    rw [List.forIn_cons, List.foldl_cons]
    by_cases c : a + sub.length ≤ hi ∧ subAt s sub a = true
    · rw [if_pos c, if_pos c]; exact ih _
    · rw [if_neg c, if_neg c]; exact ih _
theorem last_fold (p : Nat → Prop) [DecidablePred p] : ∀ m : Nat, ((List.range m).foldl (fun last i => if p i then some i else last) none = none ∧ ∀ i, i < m → ¬ p i) ∨ ∃ j, (List.range m).foldl (fun last i => if p i then some i else last) none = some j ∧ j < m ∧ p j ∧ ∀ i, i < m → p i → i ≤ j
  | 0 => .inl ⟨rfl, fun i h => absurd h (by lia)⟩
  | m + 1 => by
    rw [List.range_succ, List.foldl_append]
    simp only [List.foldl_cons, List.foldl_nil]
    by_cases c : p m
    · rw [if_pos c]
      exact .inr ⟨m, rfl, by lia, c, fun i h _ => by lia⟩
    · rw [if_neg c]
      rcases last_fold p m with ⟨e, h⟩ | ⟨j, e, h1, h2, h3⟩
      · exact .inl ⟨e, fun i hi q => if e2 : i = m then c (e2 ▸ q) else h i (by lia) q⟩
      · exact .inr ⟨j, e, by lia, h2, fun i hi q => if e2 : i = m then absurd (e2 ▸ q) c else h3 i (by lia) q⟩
theorem rfind_no {x y : Str} (h : ∀ A B, x.cps.toList ≠ A ++ y.cps.toList ++ B) : Txt.rfind x y = -1 := by
  unfold Txt.rfind
  rw [last_eq]
  rcases last_fold (fun i => i + y.length ≤ x.length ∧ subAt x y i = true) (x.length + 1) with ⟨e, _⟩ | ⟨j, e, h1, h2, h3⟩
  · rw [e]
  · obtain ⟨A, B, e2, _⟩ := (at_iff x y j).mp h2
    exact absurd e2 (h A B)
theorem rfind_in {x y : Str} {A B : List Nat} (h : x.cps.toList = A ++ y.cps.toList ++ B) (hA : A ≠ []) : 0 < Txt.rfind x y := by
  have ha := (at_iff x y A.length).mpr ⟨A, B, h, rfl⟩
  have hl : A.length < x.length + 1 := by have := ha.1; lia
  have h0 := List.length_pos_iff.mpr hA
  unfold Txt.rfind
  rw [last_eq]
  rcases last_fold (fun i => i + y.length ≤ x.length ∧ subAt x y i = true) (x.length + 1) with ⟨e, h2⟩ | ⟨j, e, h1, h2, h3⟩
  · exact absurd ha (h2 _ hl)
  · rw [e]
    have := h3 _ hl ha
    show 0 < ((j : Nat) : Int)
    lia
theorem item0 {x : Str} {c : Nat} {l : List Nat} (h : x.cps.toList = c :: l) : Txt.item x 0 = ⟨#[c]⟩ := by
  have hl : x.length = l.length + 1 := by rw [len_eq, h]; rfl
  rw [beq_iff_eq.mp (item_closes (x := x) (i := 0) ⟨by lia, by lia⟩)]
  have : x.cps.getD (0 : Int).toNat 0 = c := by
    rw [show x.cps.getD (0 : Int).toNat 0 = x.cps.toList.getD 0 0 by simp [Array.getD_eq_getD_getElem?, List.getD_eq_getElem?_getD], h]; rfl
  rw [this]
theorem itemZ {x : Str} {c : Nat} {l : List Nat} (h : x.cps.toList = l ++ [c]) : Txt.item x (-1) = ⟨#[c]⟩ := by
  have hl : x.length = l.length + 1 := by rw [len_eq, h]; simp
  rw [beq_iff_eq.mp (item_closes_neg (x := x) (i := -1) (j := -1 + (x.length : Int)) (by decide) (by lia) rfl)]
  have e : (-1 + (x.length : Int)).toNat = l.length := by lia
  have : x.cps.getD l.length 0 = c := by
    rw [show x.cps.getD l.length 0 = x.cps.toList.getD l.length 0 by simp [Array.getD_eq_getD_getElem?, List.getD_eq_getElem?_getD], h]
    simp [List.getD_eq_getElem?_getD]
  rw [e, this]
theorem sign_ne {c d : Nat} (h : c ≠ d) : ((⟨#[c]⟩ : Str) == ⟨#[d]⟩) = false := by
  rw [beq_eq_false_iff_ne]
  intro e
  apply h
  have := congrArg (fun s : Str => s.cps.toList) e
  simpa using this
theorem hdn_name {x : Str} {c d : Nat} {l m : List Nat} (h1 : x.cps.toList = c :: l) (h2 : x.cps.toList = m ++ [d]) (hc : c ≠ 46) (hd : d ≠ 46) : hdn x = true := by
  unfold hdn
  rw [item0 h1, itemZ h2, show ("." : Str) = ⟨#[46]⟩ from rfl, sign_ne hc, sign_ne hd]
  have : (x == ("" : Str)) = false := by
    rw [beq_eq_false_iff_ne]
    rintro rfl
    cases h1
  rw [this]; rfl
theorem hdn_dot0 {x : Str} {l : List Nat} (h : x.cps.toList = 46 :: l) : hdn x = false := by
  unfold hdn
  rw [item0 h, show ((⟨#[46]⟩ : Str) == ".") = true from by decide]
  simp
theorem hdn_dotZ {x : Str} {l : List Nat} (h : x.cps.toList = l ++ [46]) : hdn x = false := by
  unfold hdn
  rw [itemZ h, show ((⟨#[46]⟩ : Str) == ".") = true from by decide]
  simp
theorem starts_dot {x : Str} {c : Nat} {l : List Nat} (h : x.cps.toList = c :: l) : Txt.startswith x "." = (c == 46) := by
  unfold Txt.startswith
  have hl : x.length = l.length + 1 := by rw [len_eq, h]; rfl
  rw [StrLaws.subAt_eq, h, hl, show ("." : Str).length = 1 from rfl, show ("." : Str).cps.toList = [46] from rfl, List.drop_zero]
  have : (decide (0 + 1 ≤ l.length + 1)) = true := by simp
  rw [this]
  by_cases e : c = 46
  · subst e; rfl
  · rw [beq_eq_false_iff_ne.mpr e]
    simp [e]
noncomputable def fine (c : Nat) : Bool := (c < 48 || 57 < c) && (c < 65 || 90 < c) && decide (c < 128)
theorem fine_lo {c : Nat} (h : fine c = true) : c < 128 ∧ lo1 c = c ∧ lo1 (up1 c) = c ∧ up1 c < 128 := by
  have : ∀ c, c < 128 → fine c = true → lo1 c = c ∧ lo1 (up1 c) = c ∧ up1 c < 128 := by decide
  have h1 : c < 128 := by unfold fine at h; simp at h; exact h.2
  exact ⟨h1, this c h1 h⟩
noncomputable def FineS (x : Str) : Prop := ∀ c ∈ x.cps.toList, fine c = true
theorem lower_fine {x : Str} (h : FineS x) : Txt.lower x = x := by
  rw [lower_ascii fun c hc => (fine_lo (h c hc)).1]
  apply Str.ext'
  show (x.cps.map lo1).toList = _
  rw [Array.toList_map]
  conv => rhs; rw [← List.map_id x.cps.toList]
  exact List.map_congr_left fun c hc => (fine_lo (h c hc)).2.1
theorem upper_cps {x : Str} (h : FineS x) : (Txt.upper x).cps.toList = x.cps.toList.map up1 := by
  rw [upper_ascii fun c hc => (fine_lo (h c hc)).1]
  show (x.cps.map up1).toList = _
  rw [Array.toList_map]
theorem lower_upper {x : Str} (h : FineS x) : Txt.lower (Txt.upper x) = x := by
  have e := upper_cps h
  rw [lower_ascii fun c hc => by
    rw [e] at hc
    obtain ⟨d, hd, rfl⟩ := List.mem_map.mp hc
    exact (fine_lo (h d hd)).2.2.2]
  apply Str.ext'
  show ((Txt.upper x).cps.map lo1).toList = _
  rw [Array.toList_map, e, List.map_map]
  conv => rhs; rw [← List.map_id x.cps.toList]
  exact List.map_congr_left fun c hc => (fine_lo (h c hc)).2.2.1
theorem fine_noDigit {x : Str} (h : FineS x) : noDigit x := fun i => by
  have e : x.cps.getD i 0 = x.cps.toList.getD i 0 := by simp [Array.getD_eq_getD_getElem?, List.getD_eq_getElem?_getD]
  rw [e, List.getD_eq_getElem?_getD]
  cases q : x.cps.toList[i]? with
  | none => rfl
  | some c =>
    have := h c (List.mem_of_getElem? q)
    unfold fine at this
    simp at this
    unfold Sre.isDigit
    simp; lia
theorem dmatch_occ {A B a b : Str} {c d e f : Nat} {l m p q : List Nat} (hA : Txt.lower A = a) (hB : Txt.lower B = "." ++ b) (h1 : a.cps.toList = c :: l) (h2 : a.cps.toList = m ++ [d]) (hc : c ≠ 46) (hd : d ≠ 46)
    (h3 : b.cps.toList = e :: p) (h4 : b.cps.toList = q ++ [f]) (he : e ≠ 46) (hf : f ≠ 46) : (dmatch A B = true ↔ ∃ P Q, a.cps.toList = P ++ 46 :: b.cps.toList ++ Q) := by
  have hBc : (("." : Str) ++ b).cps.toList = 46 :: b.cps.toList := by rw [cps_append]; rfl
  have hne : (a == "." ++ b) = false := by
    rw [beq_eq_false_iff_ne]
    rintro rfl
    rw [hBc] at h1
    cases h1; exact hc rfl
  have hsl : Txt.slice ("." ++ b) (some 1) none = b := by
    apply Str.ext'
    have := slice_from ("." ++ b) 1 (by rw [len_eq, hBc, List.length_cons]; lia)
    rw [show ((1 : Nat) : Int) = 1 from rfl] at this
    rw [this, hBc]; rfl
  unfold dmatch
  rw [hA, hB, hne, hdn_name h1 h2 hc hd, starts_dot hBc, hsl, hdn_name h3 h4 he hf]
  simp only [Bool.false_eq_true, if_false, Bool.not_true, beq_self_eq_true]
  constructor
  · intro h
    refine Classical.byContradiction fun hn => ?_
    have := rfind_no (x := a) (y := "." ++ b) fun P Q e => hn ⟨P, Q, by rw [e, hBc]⟩
    rw [this] at h
    exact absurd h (by decide)
  · rintro ⟨P, Q, e⟩
    have hP : P ≠ [] := by
      rintro rfl
      rw [h1] at e
      cases e; exact hc rfl
    have := rfind_in (x := a) (y := "." ++ b) (A := P) (B := Q) (by rw [e, hBc]) hP
    have n1 : (Txt.rfind a ("." ++ b) == -1) = false := by rw [beq_eq_false_iff_ne]; lia
    have n2 : (Txt.rfind a ("." ++ b) == 0) = false := by rw [beq_eq_false_iff_ne]; lia
    rw [n1, n2]; rfl
theorem dmatch_same {A B : Str} (h : Txt.lower A = Txt.lower B) : dmatch A B = true := by
  unfold dmatch; rw [h]; simp
theorem dmatch_nodot {A B : Str} {c : Nat} {l : List Nat} (h : Txt.lower A ≠ Txt.lower B) (h1 : (Txt.lower B).cps.toList = c :: l) (hc : c ≠ 46) : dmatch A B = false := by
  unfold dmatch
  rw [beq_eq_false_iff_ne.mpr h, starts_dot h1, beq_eq_false_iff_ne.mpr hc]
  simp
theorem dmatch_dotA {A B : Str} {l : List Nat} (h : Txt.lower A ≠ Txt.lower B) (h1 : (Txt.lower A).cps.toList = 46 :: l) : dmatch A B = false := by
  unfold dmatch
  rw [beq_eq_false_iff_ne.mpr h, hdn_dot0 h1]
  simp
theorem dmatch_dotB {A : Str} (h : Txt.lower A ≠ ".") : dmatch A "." = false := by
  unfold dmatch
  have e : Txt.lower "." = "." := by decide
  rw [e, beq_eq_false_iff_ne.mpr h]
  have e2 : hdn (Txt.slice "." (some 1) none) = false := by decide
  rw [e2]
  simp
end Mine
namespace Mine
noncomputable def isSign (c : Nat) : Bool := c == 120 || c == 38 || c == 60 || c == 62 || c == 34 || c == 13 || c == 9
noncomputable def grd (b : Bool) : Str := if b then "b.com" else "local"
structure Names (U : Nat → Nat) (t : Nat → Str) (b : Bool) (nm : Nat → Str) : Prop where
  up : ∀ j, 0 < j → j < 6 → U j < j
  len : ∀ j, j < 6 → (t j).length ≤ 2
  sgn : ∀ j, j < 6 → ∀ c ∈ (t j).cps.toList, isSign c = true
  zero : nm 0 = "a" ++ t 0 ++ "." ++ grd b
  succ : ∀ j, 0 < j → j < 6 → nm j = ltr j ++ t j ++ "." ++ nm (U j)
inductive Anc (U : Nat → Nat) : Nat → Nat → Prop
  | base {j : Nat} : 0 < j → Anc U (U j) j
  | step {b j : Nat} : 0 < j → Anc U b (U j) → Anc U b j
theorem isSign_ne {c : Nat} (h : isSign c = true) : c ≠ 46 ∧ fine c = true := by
  unfold isSign at h
  simp at h
  rcases h with ((((((rfl | rfl) | rfl) | rfl) | rfl) | rfl) | rfl) <;> decide
theorem ltr_fine {j : Nat} (h : j < 6) : fine (97 + j) = true ∧ 97 + j ≠ 46 := by
  have hj : j = 0 ∨ j = 1 ∨ j = 2 ∨ j = 3 ∨ j = 4 ∨ j = 5 := or6 _ (by first | assumption | lia)
  rcases hj with rfl | rfl | rfl | rfl | rfl | rfl <;> decide
section
variable {U : Nat → Nat} {t : Nat → Str} {b : Bool} {nm : Nat → Str} (N : Names U t b nm)
include N
theorem Names.c0 : (nm 0).cps.toList = (97 :: (t 0).cps.toList) ++ 46 :: (grd b).cps.toList := by
  rw [N.zero, cps_append, cps_append, cps_append, show ("a" : Str).cps.toList = [97] from by decide, show ("." : Str).cps.toList = [46] from rfl]; simp
theorem Names.cj {j : Nat} (h0 : 0 < j) (h : j < 6) : (nm j).cps.toList = ((97 + j) :: (t j).cps.toList) ++ 46 :: (nm (U j)).cps.toList := by
  rw [N.succ j h0 h, cps_append, cps_append, cps_append, show (ltr j).cps.toList = [97 + j] from rfl, show ("." : Str).cps.toList = [46] from rfl]; simp
theorem Names.lab {j : Nat} (h : j < 6) : 46 ∉ (97 + j) :: (t j).cps.toList := fun hm => by
  rcases List.mem_cons.mp hm with e | e
  · exact (ltr_fine h).2 e.symm
  · exact (isSign_ne (N.sgn j h 46 e)).1 rfl
theorem Names.head {j : Nat} (h : j < 6) : ∃ l, (nm j).cps.toList = (97 + j) :: l := by
  by_cases h0 : j = 0
  · subst h0; exact ⟨_, N.c0⟩
  · exact ⟨_, N.cj (by lia) h⟩
theorem Names.dot {j : Nat} (h : j < 6) : 46 ∈ (nm j).cps.toList := by
  by_cases h0 : j = 0
  · subst h0; rw [N.c0]; simp
  · rw [N.cj (by lia) h]; simp
theorem Names.ind {P : Nat → Prop} (h0 : P 0) (hs : ∀ j, 0 < j → j < 6 → P (U j) → P j) : ∀ k j, j ≤ k → j < 6 → P j
  | 0, j, hk, _ => by have : j = 0 := by lia
                      subst this; exact h0
  | k + 1, j, hk, h => by
    by_cases e : j = 0
    · subst e; exact h0
    · have := N.up j (by lia) h
      exact hs j (by lia) h (Names.ind h0 hs k (U j) (by lia) (by lia))
theorem Names.all {P : Nat → Prop} (h0 : P 0) (hs : ∀ j, 0 < j → j < 6 → P (U j) → P j) : ∀ j, j < 6 → P j := fun j h => N.ind h0 hs j j (Nat.le_refl _) h
theorem Names.last : ∀ j, j < 6 → ∃ m d, (nm j).cps.toList = m ++ [d] ∧ d ≠ 46 := by
  refine N.all ?_ ?_
  · rw [N.c0]
    cases b
    · exact ⟨(97 :: (t 0).cps.toList) ++ [46, 108, 111, 99, 97], 108, by simp [show (grd false).cps.toList = [108, 111, 99, 97, 108] from by decide], by decide⟩
    · exact ⟨(97 :: (t 0).cps.toList) ++ [46, 98, 46, 99, 111], 109, by simp [show (grd true).cps.toList = [98, 46, 99, 111, 109] from by decide], by decide⟩
  · rintro j h0 h ⟨m, d, e, hd⟩
    refine ⟨((97 + j) :: (t j).cps.toList) ++ 46 :: m, d, ?_, hd⟩
    rw [N.cj h0 h, e]; simp
theorem Names.fine : ∀ j, j < 6 → FineS (nm j) := by
  have tl : ∀ j, j < 6 → ∀ c ∈ (97 + j) :: (t j).cps.toList, Mine.fine c = true := fun j h c hc => by
    rcases List.mem_cons.mp hc with rfl | hc
    · exact (ltr_fine h).1
    · exact (isSign_ne (N.sgn j h c hc)).2
  refine N.all ?_ ?_
  · intro c hc
    rw [N.c0] at hc
    rcases List.mem_append.mp hc with hc | hc
    · exact tl 0 (by lia) c hc
    · have : ∀ c ∈ 46 :: (grd b).cps.toList, Mine.fine c = true := by cases b <;> decide
      exact this c hc
  · intro j h0 h ih c hc
    rw [N.cj h0 h] at hc
    rcases List.mem_append.mp hc with hc | hc
    · exact tl j h c hc
    · rcases List.mem_cons.mp hc with rfl | hc
      · decide
      · exact ih c hc
theorem Names.nlen : ∀ j, j < 6 → (nm j).length ≤ 10 + 4 * j := by
  refine N.all ?_ ?_
  · have := N.len 0 (by lia)
    rw [len_eq] at this
    rw [len_eq, N.c0]
    have hg : (grd b).cps.toList.length = 5 := by cases b <;> decide
    simp only [List.length_append, List.length_cons, hg]; lia
  · intro j h0 h ih
    have h1 := N.len j h
    have h2 := N.up j h0 h
    rw [len_eq] at h1 ih
    rw [len_eq, N.cj h0 h]
    simp only [List.length_append, List.length_cons]; lia
theorem Names.hdn {j : Nat} (h : j < 6) : Mine.hdn (nm j) = true := by
  obtain ⟨l, e⟩ := N.head h
  obtain ⟨m, d, e2, hd⟩ := N.last j h
  exact hdn_name e e2 (ltr_fine h).2 hd
theorem Names.reach {j : Nat} (h0 : 0 < j) (h : j < 6) : reachF (nm j) = "." ++ nm (U j) := by
  have hf := find_at (N.cj h0 h) (N.lab h)
  have u6 : U j < 6 := by have := N.up j h0 h; lia
  have hs : Txt.slice (nm j) (some (Txt.find (nm j) "." + 1)) none = nm (U j) := by
    apply Str.ext'
    rw [hf]
    have := slice_from (nm j) (((97 + j) :: (t j).cps.toList).length + 1) (by rw [len_eq, N.cj h0 h]; simp only [List.length_append, List.length_cons]; lia)
    rw [show (((((97 + j) :: (t j).cps.toList).length + 1 : Nat)) : Int) = (((97 + j) :: (t j).cps.toList).length : Int) + 1 from by lia] at this
    rw [this, N.cj h0 h, ← List.drop_drop, List.drop_left]; rfl
  unfold reachF
  rw [hs, N.hdn h, if_pos (by rw [hf]; lia), if_pos (by
    rw [decide_eq_true (find_in (N.dot u6))]; rfl)]
theorem Names.reach0 : reachF (nm 0) = "." ++ grd b := by
  have hf := find_at N.c0 (N.lab (j := 0) (by lia))
  have hs : Txt.slice (nm 0) (some (Txt.find (nm 0) "." + 1)) none = grd b := by
    apply Str.ext'
    rw [hf]
    have := slice_from (nm 0) ((97 :: (t 0).cps.toList).length + 1) (by rw [len_eq, N.c0]; simp only [List.length_append, List.length_cons]; lia)
    rw [show ((((97 :: (t 0).cps.toList).length + 1 : Nat)) : Int) = ((97 :: (t 0).cps.toList).length : Int) + 1 from by lia] at this
    rw [this, N.c0, ← List.drop_drop, List.drop_left]; rfl
  unfold reachF
  rw [hs, N.hdn (by lia), if_pos (by rw [hf]; lia), if_pos (by
    cases b
    · rw [show (grd false == "local") = true from by decide]; simp
    · rw [decide_eq_true (find_in (x := grd true) (by decide))]; simp)]
theorem Names.reachZ : reachF (nm 0 ++ ".") = nm 0 ++ "." := by
  unfold reachF
  have : Mine.hdn (nm 0 ++ ".") = false := hdn_dotZ (x := nm 0 ++ ".") (l := (nm 0).cps.toList) (by rw [cps_append]; rfl)
  rw [this]; simp
theorem Names.item {j : Nat} (h : j < 6) : Txt.item ("." ++ nm j) 1 = ltr j := by
  obtain ⟨l, e⟩ := N.head h
  have hc : ("." ++ nm j : Str).cps.toList = 46 :: (97 + j) :: l := by rw [cps_append, e]; rfl
  have hl : ("." ++ nm j : Str).length = l.length + 2 := by rw [len_eq, hc]; rfl
  rw [beq_iff_eq.mp (item_closes (x := "." ++ nm j) (i := 1) ⟨by lia, by lia⟩)]
  have : ("." ++ nm j : Str).cps.getD (1 : Int).toNat 0 = 97 + j := by
    rw [show ("." ++ nm j : Str).cps.getD (1 : Int).toNat 0 = ("." ++ nm j : Str).cps.toList.getD 1 0 by simp [Array.getD_eq_getD_getElem?, List.getD_eq_getElem?_getD], hc]; rfl
  rw [this]; rfl
omit N in
theorem cut46 : ∀ {L P R S : List Nat}, L ++ 46 :: R = P ++ 46 :: S → 46 ∉ L → (R = S) ∨ ∃ P', R = P' ++ 46 :: S
  | [], [], R, S, e, _ => by cases e; exact .inl rfl
  | [], c :: P, R, S, e, _ => by cases e; exact .inr ⟨P, rfl⟩
  | a :: L, [], R, S, e, h => by cases e; exact absurd (List.mem_cons_self ..) h
  | a :: L, c :: P, R, S, e, h => by
    have e2 : L ++ 46 :: R = P ++ 46 :: S := by injection e
    exact cut46 e2 fun q => h (List.mem_cons_of_mem _ q)
theorem Names.occ {c : Nat} (hc : c < 6) : ∀ a, a < 6 → ∀ P Q, (nm a).cps.toList = P ++ 46 :: (nm c).cps.toList ++ Q → Anc U c a := by
  obtain ⟨lc, ec⟩ := N.head hc
  have dc := N.dot hc
  refine N.all ?_ ?_
  · intro P Q e
    exfalso
    have e : (97 :: (t 0).cps.toList) ++ 46 :: (grd b).cps.toList = P ++ 46 :: ((nm c).cps.toList ++ Q) := by rw [← N.c0, e]; simp
    have no : ∀ R : List Nat, 46 ∉ R → ∀ P' , R ≠ P' ++ ((nm c).cps.toList ++ Q) := fun R hR P' e => hR (by rw [e]; simp [dc])
    cases b with
    | false =>
      have hg : (grd false).cps.toList = [108, 111, 99, 97, 108] := by decide
      rcases cut46 e (N.lab (j := 0) (by lia)) with e | ⟨P', e⟩
      · exact no (grd false).cps.toList (by rw [hg]; decide) [] e
      · exact no (grd false).cps.toList (by rw [hg]; decide) (P' ++ [46]) (by rw [e]; simp)
    | true =>
      have hg : (grd true).cps.toList = [98] ++ 46 :: [99, 111, 109] := by decide
      rcases cut46 e (N.lab (j := 0) (by lia)) with e | ⟨P', e⟩
      · rw [hg] at e
        have h1 : c = 1 := by
          rw [ec] at e
          have : 98 = 97 + c := by injection e
          lia
        subst h1
        have hu : U 1 = 0 := by have := N.up 1 (by lia) (by lia); lia
        have e : [98] ++ 46 :: [99, 111, 109] = ((97 + 1) :: (t 1).cps.toList) ++ 46 :: ((nm 0).cps.toList ++ Q) := by
          rw [e, N.cj (by lia) (by lia), hu]; simp
        obtain ⟨l0, e0⟩ := N.head (j := 0) (by lia)
        rcases cut46 e (by decide) with e | ⟨P2, e⟩
        · rw [e0] at e; cases e
        · have : 46 ∈ [99, 111, 109] := by rw [e]; simp
          exact absurd this (by decide)
      · rw [hg] at e
        rcases cut46 e (by decide) with e | ⟨P2, e⟩
        · exact no [99, 111, 109] (by decide) [] e
        · exact no [99, 111, 109] (by decide) (P2 ++ [46]) (by rw [e]; simp)
  · intro a h0 h ih P Q e
    have e : ((97 + a) :: (t a).cps.toList) ++ 46 :: (nm (U a)).cps.toList = P ++ 46 :: ((nm c).cps.toList ++ Q) := by rw [← N.cj h0 h, e]; simp
    rcases cut46 e (N.lab h) with e | ⟨P', e⟩
    · obtain ⟨lu, eu⟩ := N.head (j := U a) (by have := N.up a h0 h; lia)
      rw [eu, ec] at e
      have : 97 + U a = 97 + c := by injection e
      have : U a = c := by lia
      subst this; exact .base h0
    · exact .step h0 (ih P' Q (by rw [e]; simp))
theorem Names.occ' {c a : Nat} (h : Anc U c a) (ha : a < 6) : ∃ P Q, (nm a).cps.toList = P ++ 46 :: (nm c).cps.toList ++ Q := by
  induction h with
  | base h0 => exact ⟨_, [], by rw [N.cj h0 ha, List.append_nil]⟩
  | @step _ jj h0 _ ih =>
    have hu := N.up jj h0 ha
    obtain ⟨P, Q, e⟩ := ih (by lia)
    exact ⟨((97 + jj) :: (t jj).cps.toList) ++ 46 :: P, Q, by rw [N.cj h0 ha, e]; simp⟩
theorem Names.inj {i j : Nat} (hi : i < 6) (hj : j < 6) (h : nm i = nm j) : i = j := by
  obtain ⟨l, e⟩ := N.head hi
  obtain ⟨m, e2⟩ := N.head hj
  rw [h, e2] at e
  have : 97 + j = 97 + i := by injection e
  lia
theorem Names.m1 {c a : Nat} (hc : c < 6) (ha : a < 6) : dmatch (Txt.upper (nm a)) ("." ++ nm c) = true ↔ Anc U c a := by
  obtain ⟨l, e⟩ := N.head ha
  obtain ⟨m, d, e2, hd⟩ := N.last a ha
  obtain ⟨l', e'⟩ := N.head hc
  obtain ⟨m', d', e2', hd'⟩ := N.last c hc
  have hB : Txt.lower ("." ++ nm c) = "." ++ nm c := lower_fine fun x hx => by
    rw [cps_append] at hx
    rcases List.mem_append.mp hx with hx | hx
    · have : x = 46 := by simpa [show ("." : Str).cps.toList = [46] from rfl] using hx
      subst this; decide
    · exact N.fine c hc x hx
  rw [dmatch_occ (lower_upper (N.fine a ha)) hB e e2 (ltr_fine ha).2 hd e' e2' (ltr_fine hc).2 hd']
  exact ⟨fun ⟨P, Q, e⟩ => N.occ hc a ha P Q e, fun h => N.occ' h ha⟩
noncomputable def great (x : Str) : Str := "." ++ Txt.upper (Txt.item x 0) ++ Txt.slice x (some 1) none
omit N in
theorem great_low {x : Str} {c : Nat} {l : List Nat} (h : FineS x) (e : x.cps.toList = c :: l) : Txt.lower (great x) = "." ++ x := by
  have hc : fine c = true := h c (by rw [e]; simp)
  have hl : ∀ d ∈ l, fine d = true := fun d hd => h d (by rw [e]; simp [hd])
  have h0 : FineS (⟨#[c]⟩ : Str) := fun d hd => by
    have : d = c := by simpa using hd
    subst this; exact hc
  have hsl := slice_from x 1 (by rw [len_eq, e, List.length_cons]; lia)
  rw [e] at hsl
  have hcp : (great x).cps.toList = 46 :: up1 c :: l := by
    unfold great
    rw [cps_append, cps_append, item0 e, upper_cps h0]
    rw [show ((1 : Nat) : Int) = 1 from rfl] at hsl
    rw [hsl]; rfl
  rw [lower_ascii fun d hd => by
    rw [hcp] at hd
    rcases List.mem_cons.mp hd with rfl | hd
    · decide
    rcases List.mem_cons.mp hd with rfl | hd
    · exact (fine_lo hc).2.2.2
    · exact (fine_lo (hl d hd)).1]
  apply Str.ext'
  show ((great x).cps.map lo1).toList = _
  rw [Array.toList_map, hcp, cps_append, e, List.map_cons, List.map_cons, (fine_lo hc).2.2.1, show l.map lo1 = l from by
    conv => rhs; rw [← List.map_id l]
    exact List.map_congr_left fun d hd => (fine_lo (hl d hd)).2.1]
  rfl
theorem Names.m2 {c a : Nat} (hc : c < 6) (ha : a < 6) : dmatch (Txt.upper (nm a)) (great (nm c)) = true ↔ Anc U c a := by
  obtain ⟨l, e⟩ := N.head ha
  obtain ⟨m, d, e2, hd⟩ := N.last a ha
  obtain ⟨l', e'⟩ := N.head hc
  obtain ⟨m', d', e2', hd'⟩ := N.last c hc
  rw [dmatch_occ (lower_upper (N.fine a ha)) (great_low (N.fine c hc) e') e e2 (ltr_fine ha).2 hd e' e2' (ltr_fine hc).2 hd']
  exact ⟨fun ⟨P, Q, e⟩ => N.occ hc a ha P Q e, fun h => N.occ' h ha⟩
theorem Names.m3 {a : Nat} (ha : a < 6) : dmatch (Txt.upper (nm a)) (nm a) = true :=
  dmatch_same (by rw [lower_upper (N.fine a ha), lower_fine (N.fine a ha)])
theorem Names.m4 {a : Nat} (h0 : 0 < a) (ha : a < 6) : dmatch (nm a) (nm 0) = false := by
  obtain ⟨l, e⟩ := N.head (j := 0) (by lia)
  refine dmatch_nodot ?_ (by rw [lower_fine (N.fine 0 (by lia))]; exact e) (by decide)
  rw [lower_fine (N.fine 0 (by lia)), lower_fine (N.fine a ha)]
  intro q
  have := N.inj ha (by lia) q
  lia
theorem Names.m5 {a : Nat} (ha : a < 6) : dmatch (nm a) "." = false := by
  obtain ⟨l, e⟩ := N.head ha
  refine dmatch_dotB ?_
  rw [lower_fine (N.fine a ha)]
  intro q
  rw [q] at e
  have h1 : (46 : Nat) = 97 + a := by
    have : [46] = (97 + a) :: l := e
    injection this
  lia
theorem Names.m6 {a : Nat} (h0 : 0 < a) (ha : a < 6) : dmatch ("." ++ nm a) ("." ++ nm 0) = false := by
  have hf : ∀ j, j < 6 → Txt.lower ("." ++ nm j) = "." ++ nm j := fun j hj => lower_fine fun x hx => by
    rw [cps_append] at hx
    rcases List.mem_append.mp hx with hx | hx
    · have : x = 46 := by simpa [show ("." : Str).cps.toList = [46] from rfl] using hx
      subst this; decide
    · exact N.fine j hj x hx
  refine dmatch_dotA (l := (nm a).cps.toList) ?_ (by rw [hf a ha, cps_append]; rfl)
  rw [hf a ha, hf 0 (by lia)]
  intro q
  have q2 := congrArg (fun s : Str => s.cps.toList) q
  simp only [cps_append] at q2
  have q3 := List.append_cancel_left q2
  have := N.inj ha (by lia) (Str.ext' q3)
  lia
theorem Names.job {way : Nat} (hw : way < 5) : JOk ⟨U, t, nm, way⟩ where
  way := hw
  up := N.up
  ts := N.len
  dig := fun j h => fine_noDigit (N.fine j h)
  len := fun j h => by have := N.nlen j h; show (nm j).length ≤ 200; lia
  pos := fun j h => by
    obtain ⟨l, e⟩ := N.head h
    show 0 < (nm j).length
    rw [len_eq, e]; simp
  reach := fun j h0 h => N.reach h0 h
  item := fun j h => N.item h
  nine := fun l nd h ne => job_nine ⟨U, t, nm, way⟩ N.len nd h ne
  cmp := fun l l' nd h ne nd' h' ne' hd => job_cmp ⟨U, t, nm, way⟩ N.len nd h ne nd' h' ne' hd
end
end Mine
end
section
open PySem PySem.W PySem.Calls PyProof.Rows
set_option tactic.hygienic false
namespace Mine
theorem fmod_nat (i k : Nat) : ((i : Int)).fmod (k : Int) = ((i % k : Nat) : Int) := by
  rw [Int.fmod_eq_emod_of_nonneg _ (by lia)]; rfl
theorem fmod_small (x : Int) (k : Nat) (h : 0 < k) : ∃ m : Nat, m < k ∧ x.fmod (k : Int) = (m : Int) := by
  have h1 := Int.fmod_nonneg_of_pos x (b := (k : Int)) (by lia)
  have h2 := Int.fmod_lt_of_pos x (b := (k : Int)) (by lia)
  exact ⟨(x.fmod k).toNat, by lia, by lia⟩
noncomputable def lawFn (w : World) : {fd : FuncData // ∃ c d s, (KA w.params).lookup 328 = some ⟨c, d, .func fd, s⟩} := ⟨_, _, _, _, rfl⟩
noncomputable def lawBd (w : World) : {b : List Stmt // (lawFn w).1.body = .stmts b} := ⟨_, rfl⟩
noncomputable def lawE (w : World) (L : Addr) : Env := callEnvC (lawFn w).1 L 328
noncomputable def lawB (w : World) : List Stmt := (lawBd w).1
noncomputable def sgnL : List Str := ["", "x", "&", "<", ">", "\"", "\u000d", "\t"]
noncomputable def sgnV : List AV := sgnL.map .str
noncomputable def upV (a b c d : Nat) : List AV := [.int 0, .int 0, .int a, .int b, .int c, .int d]
theorem O.fdivB {C : Cx} (ok : C.Ok) {n : Nat} {env : Env} {S : St} {a b : Int} (hb : b ≠ 0) (hs : b.natAbs.log2 < 9000) : P2 C n env S (binaryOp .FloorDiv) (.int a) (.int b) (.int (a.fdiv b)) := .of ok fun _ _ _ _ _ _ _ _ r r' _ _ q => by
  refine VR.el_int r fun _ => ?_; refine VR.el_int r' fun _ => ?_; exact floordiv_int hb (q _ _ (.toks ..) (.int ..)) (.inl (PyProof.noPylong_of_log2 hs))
section
variable {w : World} {mg mb : Str → Option Value} (g : GA w mg mb)
include g
theorem GA.law2 {n : Nat} {L : Addr} {sv : AV} {a : Addr} {c0 c1 c2 : Int} {P : AF → St → Prop} {ua ub uc ud : Nat} (eua : c0.fmod 2 = (ua : Nat)) (eub : (c0.fdiv 2).fmod 3 = (ub : Nat)) (euc : (c0.fdiv 6).fmod 4 = (uc : Nat)) (eud : (c0.fdiv 24).fmod 5 = (ud : Nat))
    (k : EX (CA w mg mb) n (lawE w L) ⟨[("script", sv), ("cells", .raw (.ref a)), ("up", .tup (upV ua ub uc ud)), ("signs", .tup sgnV)], [(a, .list [.int c0, .int c1, .int c2])]⟩ ((lawB w).drop 4) P) :
    EX (CA w mg mb) n (lawE w L) ⟨[("script", sv), ("cells", .raw (.ref a))], [(a, .list [.int c0, .int c1, .int c2])]⟩ ((lawB w).drop 2) P := by
  have ok := okA g
  refine EX.cons ?_
  refine E1.cell ok ?_
  have gc : ∀ {m : Nat} {env : Env} {S : St} {p p1 p2 : Pos} {k0 : Nat} {j : Nat} {c : Int}, PE (CA w mg mb) m env S (.Name "cells" p) (.raw (.ref a)) → (a, AO.list [.int c0, .int c1, .int c2]) ∈ S.M → [AV.int c0, .int c1, .int c2][j]? = some (.int c) → PE (CA w mg mb) m env S (.Subscript (.Name "cells" p) (.Constant (.int (j : Nat)) k0 p1) p2) (.int c) := fun h hM hj => by
    refine PE.sub h (PE.int ok) (O.sub_lstM ok (k := _) hM (by lia) (by rw [Int.toNat_natCast]; exact hj) ?_)
    have := (List.getElem?_eq_some_iff.mp hj).1
    simp at this; lia
  refine PE.then (PE.tuple ok (PL.cons (PE.int ok) (PL.cons (PE.int ok) (PL.cons (PE.cast (PE.bin (gc (j := 0) (PE.name rfl) (by simp) rfl) (PE.int ok) (O.fmod ok (by decide))) (congrArg AV.int eua)) (PL.cons (PE.cast (PE.bin (PE.bin (gc (j := 0) (PE.name rfl) (by simp) rfl) (PE.int ok) (O.fdiv ok (by decide) (by decide))) (PE.int ok) (O.fmod ok (by decide))) (congrArg AV.int eub)) (PL.cons (PE.cast (PE.bin (PE.bin (gc (j := 0) (PE.name rfl) (by simp) rfl) (PE.int ok) (O.fdiv ok (by decide) (by decide))) (PE.int ok) (O.fmod ok (by decide))) (congrArg AV.int euc)) (PL.cons (PE.cast (PE.bin (PE.bin (gc (j := 0) (PE.name rfl) (by simp) rfl) (PE.int ok) (O.fdiv ok (by decide) (by decide))) (PE.int ok) (O.fmod ok (by decide))) (congrArg AV.int eud)) PL.nil)))))) (by simp only [List.length_cons, List.length_nil]; decide)) ?_
  refine EX.cons ?_
  refine E1.cell ok ?_
  refine PE.then (PE.tuple ok (PL.cons (PE.str ok) (PL.cons (PE.str ok) (PL.cons (PE.str ok) (PL.cons (PE.str ok) (PL.cons (PE.str ok) (PL.cons (PE.str ok) (PL.cons (PE.str ok) (PL.cons (PE.str ok) PL.nil)))))))) (by simp only [List.length_cons, List.length_nil]; decide)) ?_
  exact k
end
end Mine
namespace Mine
section
variable {C : Cx} {n : Nat} {env : Env} {S : St}
theorem EV.callTN {T : String} {x : Str} {e : Expr} {es : List Expr} {p pos : Pos} {P : AV → St → Prop} (hf : PE C n env S (.Name x p) (.raw (.type T)))
    (h : EL C n env S pos (e :: es) fun l S₁ => VN C n env S₁ (fun vs => call (.type T) vs) l P)
    (he : starEach (e :: es) env = (false, eval e env) :: starEach es env := by rfl) (hplain : (backTo pos (starEach es env)).any (·.1) = false := by rfl) : EV C n env S (.Call (.Name x p) (e :: es) [] pos) P :=
  fun A Y s₀ D s Q ha R q => wpAny_Call_Name_kw (hf A Y s₀ D s _ ha R fun f s₁ a₁ S₁ p₁ R₁ K₁ r₁ => by
    obtain ⟨rfl, rfl⟩ := p₁
    refine VR.el_raw r₁ ?_
    refine PyProof.Rows.callWith_type1 ?_ he hplain
    exact h A Y s₀ D s₁ _ ha R₁ fun vs s₂ l S₂ p₂ R₂ K₂ r₂ => p₂ A Y s₀ D s₂ vs Q ha R₂ r₂ fun r s₃ b S₃ p₃ R₃ K₃ r₃ => q r s₃ b S₃ p₃ R₃ ((K₁.trans K₂).trans K₃) r₃)
theorem PE.callTN {T : String} {x : Str} {e : Expr} {es : List Expr} {p pos : Pos} {l : List AV} {c : AV} (hf : PE C n env S (.Name x p) (.raw (.type T))) (hl : PL C n env S pos (e :: es) l) (h : PN C n env S (fun vs => call (.type T) vs) l c)
    (he : starEach (e :: es) env = (false, eval e env) :: starEach es env := by rfl) (hplain : (backTo pos (starEach es env)).any (·.1) = false := by rfl) : PE C n env S (.Call (.Name x p) (e :: es) [] pos) c :=
  EV.callTN hf (hl.then h) he hplain
end
end Mine
end
section
open PySem PySem.W PySem.Calls PyProof.Rows
namespace Mine
theorem VRs_ints {h : Heap} {X : List Addr} : ∀ {vs : List Value} {ns : List Int}, VRs h X vs (ns.map .int) → ∃ ps : List (Int × Tok), vs = ps.map (fun p => Value.int p.1 p.2) ∧ ps.map (·.1) = ns
  | [], [], _ => ⟨[], rfl, rfl⟩
  | v :: vs, a :: ns, r => by
    refine VRs.el_cons r fun _ _ r rs => ?_
    ·
      obtain ⟨ps, e1, e2⟩ := VRs_ints rs
      refine VR.el_int r fun t => ?_
      · exact ⟨(a, t) :: ps, by rw [e1]; rfl, by rw [← e2]; rfl⟩
section
variable {C : Cx} (ok : C.Ok) {n : Nat} {env : Env} {S : St}
include ok
theorem O.sum_lst {ns : List Int} : PN C n env S (fun vs => call (.builtin "sum") vs) [.lst (ns.map .int)] (.int ns.sum) := .of ok fun A X s vs Q ha _ r lt _ q => by
  refine VRs.el_cons r fun _ _ r rs => ?_
  ·
    refine VRs.el_nil rs ?_
    refine VR.el_lst r fun _ _ _ e nx rs => ?_
    ·
      rename_i b ws kk
      obtain ⟨ps, rfl, e2⟩ := VRs_ints rs
      have hl : s.heap.IsList b (intItems ps.toArray) := by
        have := isList_of e
        rw [show intItems ps.toArray = (ps.map fun p => Value.int p.1 p.2).toArray by simp [intItems]]; exact this
      refine sum_intListG ha.handled hl fun h' tk t' hk => ?_
      have e3 : preSum (numAt ps.toArray) ps.toArray.size = ns.sum := by
        rw [preSum_eq, List.take_of_length_le (by simp), ← e2]
      rw [e3]
      exact q _ _ ⟨.of_keeps hk, rfl, rfl, id⟩ (.int ..)
end
end Mine
end
section
open PySem PySem.W PySem.Calls PyProof.Rows
set_option tactic.hygienic false
namespace Mine
section
variable {C : Cx} {Y W V D D₁ : List Addr} {s₀ s₁ s s' : Shared} {env : Env} {S S₀ : St}
theorem Rel.turnLess {Y' : List Addr} (ok : C.Ok) (R : Rel C Y s₁ D₁ env S s) (st : SStp C.T V s s') (hVY : ∀ a ∈ V, a ∈ Y) (hW : ∀ a ∈ V, a ∈ D₁) (hf : ∀ x c, Lent env x → env.cells.lookup x = some c → c ∉ V)
    (hY : ∀ a ∈ Y', a ∈ Y) (hn : ∀ a ∈ Y', a ∉ V) (hf' : ∀ x c, Lent env x → env.cells.lookup x = some c → c ∈ Y' ∨ C.Old c) :
    Rel C Y' s₁ D₁ env S s' ∧ ∀ v av, VR s.heap (Xo C Y env S) v av → VR s'.heap (Xo C Y' env S) v av := by
  have h : ∀ a o, s'.heap.get? a = some o → a ∉ Xo C Y env S → a ∉ Xo C Y' env S := fun a o _ n q => by
    rw [mem_Xo] at n q
    rcases q with q | q | q
    · exact n (.inl q)
    · exact n (.inr (.inl q))
    · exact n (.inr (.inr (hY a q)))
  have hX : ∀ a ∈ V, a ∈ Xo C Y env S := fun a h => mem_Xo.mpr (.inr (.inr (hVY a h)))
  have nw : ∀ a ∈ fa env ++ feet S.M, a ∉ V := fun a ha q => R.dis a (hVY a q) ha
  refine ⟨⟨R.bs.stp ok st.heap fun b hb => (R.hi b (List.mem_append_right _ (List.mem_append_right _ (hVY b hb)))).1, R.ev,
    (R.fr.stp st.heap hX R.hT (fun b hb => ⟨nw b (List.mem_append_left _ hb), R.tn (List.mem_append_left _ hb)⟩) (fun x c k e => ⟨hf x c k e, R.freeT ok k e⟩)).sub h, hf',
    fun p hp => ((R.ob p hp).stp st.heap hX R.hT fun b hb => ⟨nw b (List.mem_append_right _ (mem_feet hp hb)), R.tn (List.mem_append_right _ (List.mem_append_left _ (mem_feet hp hb)))⟩).sub h, R.nd, fun a ha => R.dis a (hY a ha), fun a ha => ?_,
    R.st.trans st fun a ha => .inl (hW a ha), R.own⟩, fun v av r => (r.stp st.heap hX R.hT).sub h⟩
  have ha2 : a ∈ fa env ++ (feet S.M ++ Y) := by
    simp only [List.mem_append] at ha ⊢
    rcases ha with q | q | q
    · exact .inl q
    · exact .inr (.inl q)
    · exact .inr (.inr (hY a q))
  refine ⟨(R.hi a ha2).1, (R.hi a ha2).2.1, ?_⟩
  obtain ⟨o, e⟩ := (R.hi a ha2).2.2
  refine ⟨o, st.heap.keep a o e ?_ (R.hi a ha2).2.1⟩
  simp only [List.mem_append] at ha
  rcases ha with q | q | q
  · exact nw a (List.mem_append_left _ q)
  · exact nw a (List.mem_append_right _ q)
  · exact hn a q
theorem Rel.backY2 (ok : C.Ok) (R₀ : Rel C Y s₀ D env S₀ s) (x : SStp C.T [] s s₁) (hw : ∀ b ∈ W, s.heap.get? b = none) (R : Rel C (V ++ Y) s₁ (W ++ (fa env ++ feet S₀.M)) env S s') : Rel C Y s₀ D env S s' := by
  have fr : ∀ a, a ∈ W ++ (fa env ++ feet S₀.M) → a ∈ D ∨ s₀.heap.get? a = none := fun a ha => by
    rcases List.mem_append.mp ha with h | h
    · exact (R₀.deadNot (hw a h)).2.2.2
    · exact R₀.own a h
  refine ⟨R.bs, R.ev, R.fr.sub unY, R₀.free, fun p hp => (R.ob p hp).sub unY, R.nd, fun a ha => R.dis a (List.mem_append_right _ ha), fun a ha => R.hi a ?_, ?_, fun a ha => ?_⟩
  · simp only [List.mem_append] at ha ⊢
    rcases ha with h | h | h
    · exact .inl h
    · exact .inr (.inl h)
    · exact .inr (.inr (.inr h))
  · exact (R₀.st.trans0 x).trans R.st fun a ha => fr a ha
  · rcases R.own a ha with h | h
    · exact fr a h
    · by_cases hd : a ∈ D
      · exact .inl hd
      · cases e : s₀.heap.get? a with
        | none => exact .inr rfl
        | some o =>
          have hT : a ∉ C.T := R.tn (by rw [← List.append_assoc]; exact List.mem_append_left _ ha)
          rw [x.heap.keep a o (R₀.st.heap.keep a o e hd hT) (fun q => nomatch q) hT] at h; cases h
theorem Rel.endY2 (ok : C.Ok) (R₀ : Rel C Y s₀ D env S₀ s) (x : SStp C.T [] s s₁) (hw : ∀ b ∈ W, s.heap.get? b = none) (hv : ∀ b ∈ V, b ∈ W) {s₂ : Shared} (R : Rel C (V ++ Y) s₁ (W ++ (fa env ++ feet S₀.M)) env S s') (st : SStp C.T V s' s₂) :
    Rel C Y s₀ D env S s₂ ∧ ∀ v av, VR s'.heap (Xo C (V ++ Y) env S) v av → VR s₂.heap (Xo C Y env S) v av := by
  have B := R₀.backY2 ok x hw R
  have hX : ∀ a ∈ V, a ∈ Xo C (V ++ Y) env S := fun a h => mem_Xo.mpr (.inr (.inr (List.mem_append_left _ h)))
  have nw : ∀ a ∈ fa env ++ feet S.M, a ∉ V := fun a ha q => R.dis a (List.mem_append_left _ q) ha
  have ny : ∀ a ∈ Y, a ∉ V := fun a ha q => (R₀.hi a (List.mem_append_right _ (List.mem_append_right _ ha))).2.2.ne (hw a (hv a q)) rfl
  refine ⟨⟨R.bs.stp ok st.heap fun b hb => (R₀.deadNot (hw b (hv b hb))).1, R.ev,
    (R.fr.stp st.heap hX R.hT (fun b hb => ⟨nw b (List.mem_append_left _ hb), R.tn (List.mem_append_left _ hb)⟩) (fun y c k e => ⟨fun q => R₀.freeW hw y c k e (hv c q), R₀.freeT ok k e⟩)).sub unY, R₀.free,
    fun p hp => ((R.ob p hp).stp st.heap hX R.hT fun b hb => ⟨nw b (List.mem_append_right _ (mem_feet hp hb)), R.tn (List.mem_append_right _ (List.mem_append_left _ (mem_feet hp hb)))⟩).sub unY, R.nd, B.dis, fun a ha => ⟨(B.hi a ha).1, (B.hi a ha).2.1, ?_⟩,
    B.st.trans st fun b hb => (R₀.deadNot (hw b (hv b hb))).2.2.2, B.own⟩, fun v av r => (r.stp st.heap hX R.hT).sub unY⟩
  obtain ⟨o, e⟩ := (B.hi a ha).2.2
  refine ⟨o, st.heap.keep a o e ?_ (B.hi a ha).2.1⟩
  rw [← List.append_assoc] at ha
  rcases List.mem_append.mp ha with h | h
  · exact nw a h
  · exact ny a h
end
structure Feed (C : Cx) (A : Around) (Y : List Addr) (env : Env) (S₁ : St) (s₁ : Shared) (l : List AV) (target : Expr) (I : Addr) (fp wr : List Addr) (St : Nat → Heap → Prop) (s₂ : Shared) : Prop where
  x : SStp C.T [] s₁ s₂
  hst : St 0 s₂.heap
  hfp : ∀ b ∈ fp, b ∉ fa env ++ feet S₁.M ∧ b ∉ C.T ∧ Live s₂.heap b
  hw : ∀ b ∈ wr, s₁.heap.get? b = none
  lw : ∀ i h, St i h → ∀ b ∈ wr, Live h b
  frame : ∀ i h h', St i h → (∀ b ∈ fp, ∀ o, h.get? b = some o → h'.get? b = some o) → St i h'
  item : ∀ {Yc Dc cenv μ sc s'} i (Q : Option Value → Shared → Prop), i < l.length → St i s'.heap → Rel C Yc sc Dc cenv ⟨μ, S₁.M⟩ s' → (∀ v av, VR s₂.heap (Xo C (wr ++ Y) env S₁) v av → VR s'.heap (Xo C Yc cenv ⟨μ, S₁.M⟩) v av) →
    (∀ v a h' tk, l[i]? = some a → VR s'.heap (Xo C Yc cenv ⟨μ, S₁.M⟩) v a → St (i + 1) h' → (∀ b o, b ∉ wr → s'.heap.get? b = some o → h'.get? b = some o) → Q (some v) { s' with heap := h', toks := tk }) → wpAny (model C.prog C.w) A (pyNext (.ref I)) Q No s'
  done : ∀ {Yc Dc cenv μ sc s'} (Q : Option Value → Shared → Prop), St l.length s'.heap → Rel C Yc sc Dc cenv ⟨μ, S₁.M⟩ s' → (∀ h' tk, (∀ b o, b ∉ wr → s'.heap.get? b = some o → h'.get? b = some o) → Q none { s' with heap := h', toks := tk }) → wpAny (model C.prog C.w) A (pyNext (.ref I)) Q No s'
  go : ∀ i (s : Shared) v (Q : Unit → Shared → Prop), St i s.heap → Q () s → wpAny (model C.prog C.w) A (letOwnedTupleGo target (.ref I) v) Q No s
  self : ∀ (s : Shared) (Q : Value → Shared → Prop) (E : Value → Shared → Prop), St 0 s.heap → Q (.ref I) s → wpAny (model C.prog C.w) A (pyIter (.ref I)) Q E s
theorem Feed.of {C : Cx} {A : Around} {Y : List Addr} {env : Env} {S₁ : St} {s₁ : Shared} {l : List AV} {target : Expr} (ht : Plain target) {I : Addr} {fp wr : List Addr} {P : Nat → Value → Prop} {St : Nat → Heap → Prop} {s₂ : Shared} (x : SStp C.T [] s₁ s₂) (W : Walks C.prog C.w A I fp wr l.length P St) (hst : St 0 s₂.heap)
    (hfp : ∀ b ∈ fp, b ∉ fa env ++ feet S₁.M ∧ b ∉ C.T ∧ Live s₂.heap b) (hw : ∀ b ∈ wr, s₁.heap.get? b = none) (lw : ∀ i h, St i h → ∀ b ∈ wr, Live h b) (hP : ∀ i v, P i v → ∃ a, l[i]? = some a ∧ VR s₂.heap (Xo C (wr ++ Y) env S₁) v a)
    (go : ∀ (elts : List Expr) k pos i (s : Shared) v (Q : Unit → Shared → Prop), St i s.heap → Q () s → wpAny (model C.prog C.w) A (letOwnedTupleGo (.Tuple elts k pos) (.ref I) v) Q No s) : Feed C A Y env S₁ s₁ l target I fp wr St s₂ :=
  ⟨x, hst, hfp, hw, lw, W.frame, fun i Q hi st R up k => W.item i _ _ _ hi st fun v h' tk hv h1 hk => (hP i v hv).elim fun a h => k v a h' tk h.1 (up _ _ h.2) h1 hk, fun Q st R k => W.done _ _ _ st k,
    fun i s v Q st q => by
      cases ht with
      | name x p => exact wpAny_of_eq (show letOwnedTupleGo (.Name x p) (.ref I) v = pure () from rfl) q
      | tuple es k p => exact go es k p _ _ v _ st q,
    fun s Q E st q => W.self 0 _ _ _ st q⟩
section
variable {C : Cx} (ok : C.Ok) {n : Nat} {env : Env} {S : St}
include ok
theorem comp_feed {use : Option (Value → Sem Unit)} {Qc : Value → Shared → Prop} {elt target iter : Expr} {ifs : List Expr} {scope : Scope} {pos : Pos} {l : List AV} (μc : List (Str × AV)) (f : AV → Option AV)
    (hok : compOk scope env = true) (hcell : ∀ y ∈ scope.names, y.2 ≠ .cell) (hkind : scope.kind = .function)
    (hmore : ∀ y ∈ scope.names, y.2 = .free → (y.1 == ("__classdict__" : Str)) = false) {A : Around} {Y D : List Addr} {s₀ s₁ s₂ : Shared} {S₁ : St} {I : Addr} {fp wr : List Addr} {St : Nat → Heap → Prop} (ha : AOk n A) (R₁ : Rel C Y s₀ D env S₁ s₁)
    (F : Feed C A Y env S₁ s₁ l target I fp wr St s₂) (hcap : ∀ L, Cap env (CEnv scope env L) S₁ μc) (hstep : ∀ L, ∀ x ∈ l, Step C n (CEnv scope env L) ⟨μc, S₁.M⟩ target ifs elt x (f x)) (hz : l.length ≤ 1000000)
    (exit : ∀ {L D' : Addr} {Wx : List Addr} {s3 s' : Shared} {m : Str → Option Value}, SStp C.T [] s₁ s3 → (∀ b ∈ Wx, s₁.heap.get? b = none) → L ∈ Wx → Rel C ([L] ++ Y) s3 (Wx ++ (fa env ++ feet S₁.M)) env S₁ s' →
      (∀ v av, VR s₁.heap (Xo C Y env S₁) v av → VR s'.heap (Xo C ([L] ++ Y) env S₁) v av) → VR s'.heap (Xo C ([L] ++ Y) env S₁) (.ref D') (.lst (l.filterMap f)) → s'.heap.Ns L m → compPost (model C.prog C.w) A No use Qc (.ref D') L (.ok .next) s') :
    wpAny (model C.prog C.w) A (newList []) (fun acc s₃ => wpAny (model C.prog C.w) A (newFunctionEnv scope env.globals (closOf env scope.names []) [] env.qual none .none (some env)) (fun cenv s₄ =>
      codeAny (model C.prog C.w) A (.compStart (.ListComp elt [⟨target, iter, ifs, 0⟩] scope pos) 0 (.ref I) acc { cenv with scope := relabel scope env }) (compPost (model C.prog C.w) A No use Qc acc cenv.locals) s₄) No s₃) No s₂ := by
  obtain ⟨x₂, hst, hfp, hw, lw⟩ : SStp C.T [] s₁ s₂ ∧ St 0 s₂.heap ∧ (∀ b ∈ fp, b ∉ fa env ++ feet S₁.M ∧ b ∉ C.T ∧ Live s₂.heap b) ∧ (∀ b ∈ wr, s₁.heap.get? b = none) ∧ (∀ i h, St i h → ∀ b ∈ wr, Live h b) := ⟨F.x, F.hst, F.hfp, F.hw, F.lw⟩
  refine wpAny_newObj_type (wpAny_newFunctionEnv hcell (by intro y hy; simp at hy) (fun h₁ hns₁ hsb₁ => ?_) hkind)
  dsimp only at hns₁ hsb₁ ⊢
  have D2 : s₂.heap.get? s₂.heap.objs.size = none := new_none _
  have R₂' := R₁.go ok x₂
  have dT : ∀ a, s₂.heap.get? a = none → a ∉ C.T := fun a h => (R₂'.deadNot h).2.1
  let s₃ : Shared := { s₂ with heap := s₂.heap.push { cls := .type "list", dict := none, data := .seq ([] : List Value).toArray } }
  have x₃ : SStp C.T [] s₁ s₃ := x₂.trans0 (.alloc ..)
  have L3 : s₃.heap.get? s₃.heap.objs.size = none := new_none _
  have hW : ∀ b ∈ s₂.heap.objs.size :: wr, s₁.heap.get? b = none := fun b hb => by
    rcases List.mem_cons.mp hb with e | h
    · subst e; exact x₂.dead D2 (dT _ D2)
    · exact hw b h
  have lW : ∀ b ∈ s₂.heap.objs.size :: wr, Live s₃.heap b := fun b hb => by
    rcases List.mem_cons.mp hb with e | h
    · subst e; exact ⟨_, Heap.get?_push_size _ rfl⟩
    · obtain ⟨o, e⟩ := lw 0 _ hst b h; exact ⟨o, Heap.get?_push_of_some _ e⟩
  obtain ⟨R₂, K₂⟩ := R₁.extY ok x₃ hW lW
  have keep4 : ∀ a o, s₃.heap.get? a = some o → h₁.get? a = some o := fun a o e => hsb₁.extBut a o (Nat.ne_of_lt (Heap.lt_size e)) (Heap.get?_push_of_some _ e)
  have x₄ : SStp C.T [] s₃ { s₃ with heap := h₁, toks := s₂.toks + ([] : List (Str × Value)).length } := ⟨.of_keeps keep4, rfl, rfl, id⟩
  have efa : fa (CEnv scope env s₃.heap.objs.size) = [s₃.heap.objs.size] := by unfold fa; simp [CEnv, compEnvC]
  have hf : ∀ b ∈ fa (CEnv scope env s₃.heap.objs.size), s₃.heap.get? b = none := fun b hb => by
    rw [efa] at hb; have e : b = s₃.heap.objs.size := by simpa using hb
    subst e; exact L3
  have inner : ∀ {v av}, VR s₃.heap (Xo C ((s₂.heap.objs.size :: wr) ++ Y) env S₁) v av → VR h₁ (Xo C (fa env ++ ((s₂.heap.objs.size :: wr) ++ Y)) (CEnv scope env s₃.heap.objs.size) ⟨μc, S₁.M⟩) v av := fun r =>
    (r.sub (enterX hf)).stp x₄.heap (fun _ h => nomatch h) fun a h => List.mem_append_left _ h
  have lentOk : ∀ y c, (closOf env scope.names []).lookup y = some c → c ∈ fa env ++ ((s₂.heap.objs.size :: wr) ++ Y) ∨ C.Old c := fun y c e => by
    obtain ⟨e1, k⟩ := lookup_closOf hok e
    rcases ownLent k with k | k
    · exact .inl (List.mem_append_left _ (mem_fa_cell k e1))
    · exact (R₂.free y c k e1).imp (List.mem_append_right _) id
  have R₃ : Rel C (fa env ++ ((s₂.heap.objs.size :: wr) ++ Y)) s₃ (feet S₁.M) (CEnv scope env s₃.heap.objs.size) ⟨μc, S₁.M⟩ { s₃ with heap := h₁, toks := s₂.toks + ([] : List (Str × Value)).length } := by
    refine R₂.enter ok x₄ hf (fun b hb => ?_) (by rw [efa]; simp) ⟨?_, R₁.ev.glob, R₁.ev.buil, fun y ky => ?_⟩ ⟨⟨_, hns₁, fun y av e k => ?_⟩, fun y av e k => ?_, fun y c k _ => ?_, fun y av e => ?_⟩ (fun y c _ e => lentOk y c e)
    · rw [efa] at hb; have e : b = s₃.heap.objs.size := by simpa using hb
      obtain ⟨o, _, _, q, _⟩ := hns₁; exact e ▸ ⟨o, q⟩
    · exact hkind
    · obtain ⟨p, hp, ep⟩ := List.mem_map.mp (mem_of_lookup ky)
      obtain ⟨yn, yk⟩ := p
      by_cases hc : (yk == NameKind.free && env.scope.kind == .function && env.kindOf yn == some .cell) = true
      · simp only [hc, if_true] at ep; cases ep
      · simp only [hc, if_false, Bool.false_eq_true] at ep; cases ep; exact hmore (y, .free) hp rfl
    · exfalso
      have := (hcap s₃.heap.objs.size).all (y, av) (mem_of_lookup e)
      rw [k] at this; rcases this.2.2.1 with q | q <;> cases q
    · obtain ⟨e1, e2, _, e4⟩ := (hcap s₃.heap.objs.size).all (y, av) (mem_of_lookup e)
      obtain ⟨c, w, e5, e6, r6⟩ := R₂.fr.cel y av e1 e4
      refine ⟨c, w, e2.trans e5, ?_, inner r6⟩
      obtain ⟨o, ho, hd⟩ := e6
      exact ⟨o, keep4 _ _ ho, hd⟩
    · exact absurd k.2 (by simp [CEnv, compEnvC])
    · exact .inr ((hcap s₃.heap.objs.size).all (y, av) (mem_of_lookup e)).2.2.1
  have R₃ := R₃.moreD (D' := (s₂.heap.objs.size :: wr) ++ feet S₁.M) fun a h => List.mem_append_right _ h
  have up : ∀ v av, VR s₂.heap (Xo C (wr ++ Y) env S₁) v av → VR h₁ (Xo C (fa env ++ ((s₂.heap.objs.size :: wr) ++ Y)) (CEnv scope env s₃.heap.objs.size) ⟨μc, S₁.M⟩) v av := fun v a r => by
    refine inner ?_
    have r1 : VR s₂.heap (Xo C ((s₂.heap.objs.size :: wr) ++ Y) env S₁) v a := r.sub fun b o eb n q => by
      rw [mem_Xo] at n q
      simp only [List.mem_append, List.mem_cons] at n q
      rcases q with q | q | (q | q) | q
      · exact n (.inl q)
      · exact n (.inr (.inl q))
      · subst q; rw [D2] at eb; cases eb
      · exact n (.inr (.inr (.inl q)))
      · exact n (.inr (.inr (.inr q)))
    exact r1.stp (Stp.push C.T ..) (fun _ h => nomatch h) fun a h => List.mem_append_left _ h
  have hst4 : St 0 h₁ := F.frame _ _ _ hst fun b _ o e => keep4 b o (Heap.get?_push_of_some _ e)
  have hD4 : h₁.PlainList s₂.heap.objs.size #[] := ⟨0, keep4 _ _ (Heap.get?_push_size _ rfl)⟩
  have hDwr : s₂.heap.objs.size ∉ wr := fun q => (lw 0 _ hst _ q).ne D2 rfl
  have hDfp : s₂.heap.objs.size ∉ fp := fun q => (hfp _ q).2.2.ne D2 rfl
  have lentW : ∀ V, (∀ a ∈ V, s₁.heap.get? a = none) → ∀ y c, Lent (CEnv scope env s₃.heap.objs.size) y → (CEnv scope env s₃.heap.objs.size).cells.lookup y = some c → c ∉ V := fun V hV y c _ e q => by
    obtain ⟨e1, k⟩ := lookup_closOf hok e
    rcases ownLent k with k | k
    · exact (R₁.hi c (List.mem_append_left _ (mem_fa_cell k e1))).2.2.ne (hV c q) rfl
    · exact R₁.freeW hV y c k e1 q
  have fpS : ∀ b ∈ fp, b ∉ fa (CEnv scope env s₃.heap.objs.size) ++ feet S₁.M := fun b hb q => by
    rcases List.mem_append.mp q with z | z
    · obtain ⟨o, e⟩ := (hfp b hb).2.2
      have := hf b z
      rw [show s₃.heap.get? b = some o from Heap.get?_push_of_some _ e] at this; cases this
    · exact (hfp b hb).1 (List.mem_append_right _ z)
  have loop : codeAny (model C.prog C.w) A (.compLoop (.ListComp elt [⟨target, iter, ifs, 0⟩] scope pos) 0 (.ref I) (.ref s₂.heap.objs.size) (CEnv scope env s₃.heap.objs.size))
      (compPost (model C.prog C.w) A No use Qc (.ref s₂.heap.objs.size) s₃.heap.objs.size) { s₃ with heap := h₁, toks := s₂.toks + ([] : List (Str × Value)).length } := by
    obtain ⟨J, mk, un⟩ : ∃ J : Nat → Shared → Prop, (∀ i ys s', i ≤ l.length → Rel C (fa env ++ ((s₂.heap.objs.size :: wr) ++ Y)) s₃ ((s₂.heap.objs.size :: wr) ++ feet S₁.M) (CEnv scope env s₃.heap.objs.size) ⟨μc, S₁.M⟩ s' → Kp C (fa env ++ ((s₂.heap.objs.size :: wr) ++ Y)) (CEnv scope env s₃.heap.objs.size) ⟨μc, S₁.M⟩ { s₃ with heap := h₁, toks := s₂.toks + ([] : List (Str × Value)).length } ⟨μc, S₁.M⟩ s' → St i s'.heap → s'.heap.PlainList s₂.heap.objs.size ys → VRs s'.heap (Xo C (fa env ++ ((s₂.heap.objs.size :: wr) ++ Y)) (CEnv scope env s₃.heap.objs.size) ⟨μc, S₁.M⟩) ys.toList ((l.take i).filterMap f) → J (l.length + 1 - i) s') ∧
        (∀ k s', J k s' → ∃ i ys, k = l.length + 1 - i ∧ i ≤ l.length ∧ Rel C (fa env ++ ((s₂.heap.objs.size :: wr) ++ Y)) s₃ ((s₂.heap.objs.size :: wr) ++ feet S₁.M) (CEnv scope env s₃.heap.objs.size) ⟨μc, S₁.M⟩ s' ∧ Kp C (fa env ++ ((s₂.heap.objs.size :: wr) ++ Y)) (CEnv scope env s₃.heap.objs.size) ⟨μc, S₁.M⟩ { s₃ with heap := h₁, toks := s₂.toks + ([] : List (Str × Value)).length } ⟨μc, S₁.M⟩ s' ∧ St i s'.heap ∧ s'.heap.PlainList s₂.heap.objs.size ys ∧ VRs s'.heap (Xo C (fa env ++ ((s₂.heap.objs.size :: wr) ++ Y)) (CEnv scope env s₃.heap.objs.size) ⟨μc, S₁.M⟩) ys.toList ((l.take i).filterMap f)) := ⟨_, fun i ys s' a b c d e f => ⟨i, ys, rfl, a, b, c, d, e, f⟩, fun k s' h => h⟩
    refine compLoop_no J ?_ (l.length + 1) (mk 0 #[] _ (Nat.zero_le _) R₃ .refl hst4 hD4 .nil)
    intro k s' jk
    obtain ⟨i, ys, rfl, hi, R', K', hst', hD', hys⟩ := un _ _ jk
    by_cases hlt : i < l.length
    · refine F.item i _ hlt hst' R' (fun v av r => K' _ _ (up _ _ r)) fun v a h' tk hla ra hst1 hk => ?_
      have st : SStp C.T wr s' { s' with heap := h', toks := tk } := ⟨⟨fun a o e nw _ => hk a o nw e, fun a ha vs e tr => ⟨vs, by
        have : a ∉ wr := fun q => (R₁.bs.liveT ha).ne (hw a q) rfl
        exact hk a _ this e, tr, #[], by simp⟩⟩, rfl, rfl, id⟩
      obtain ⟨R5, K5⟩ := R'.turnY ok st (fun a h => List.mem_append_right _ (List.mem_append_left _ (List.mem_cons_of_mem _ h))) (fun a h => List.mem_append_left _ (List.mem_cons_of_mem _ h)) (lw _ _ hst1) (lentW wr hw)
      have ra5 := K5 _ _ ra
      have hD5 : h'.PlainList s₂.heap.objs.size ys := by obtain ⟨nn, e⟩ := hD'; exact ⟨nn, hk _ _ hDwr e⟩
      have hys5 := K5.all hys
      have stp := hstep s₃.heap.objs.size a (List.mem_of_getElem? hla)
      have fpK : ∀ {S'' s''}, Rel C (fa env ++ ((s₂.heap.objs.size :: wr) ++ Y)) { s' with heap := h', toks := tk } (fa (CEnv scope env s₃.heap.objs.size) ++ feet S₁.M) (CEnv scope env s₃.heap.objs.size) S'' s'' →
          St (i + 1) s''.heap ∧ s''.heap.PlainList s₂.heap.objs.size ys := fun R'' => by
        refine ⟨F.frame _ _ _ hst1 fun b hb o e => R''.st.heap.keep b o e (fpS b hb) (hfp b hb).2.1, ?_⟩
        obtain ⟨nn, e⟩ := hD5
        refine ⟨nn, R''.st.heap.keep _ _ e (fun q => ?_) (dT _ D2)⟩
        exact R5.dis s₂.heap.objs.size (List.mem_append_right _ (List.mem_append_left _ (List.mem_cons_self ..))) q
      have takes : (l.take (i + 1)).filterMap f = (l.take i).filterMap f ++ (match f a with | Option.none => [] | Option.some y => [y]) := by
        rw [List.take_add_one, hla, List.filterMap_append]
        cases hfa : f a <;> simp [hfa]
      have main : wpAny (model C.prog C.w) A (assign target (CEnv scope env s₃.heap.objs.size) v) (fun _ s₄ => wpAny (model C.prog C.w) A (forIn ifs true fun c r => if r = true then do let ok ← isTrue c (CEnv scope env s₃.heap.objs.size) (eval c (CEnv scope env s₃.heap.objs.size)); pure (ForInStep.yield ok) else pure (ForInStep.yield r)) (fun okb s₅ =>
            if okb = true then wpAny (model C.prog C.w) A (eval elt (CEnv scope env s₃.heap.objs.size)) (fun x s₆ =>
              wpAny (model C.prog C.w) A (call (.builtin "list.append") [.ref s₂.heap.objs.size, x]) (fun _ s₇ => ∃ m, m < l.length + 1 - i ∧ J m s₇) No s₆) No s₅
            else ∃ m, m < l.length + 1 - i ∧ J m s₅) No s₄) No { s' with heap := h', toks := tk } := by
        refine stp A _ _ _ _ v _ ha R5.rebase ra5 fun s₆ S₆ p₆ R₆ K₆ => p₆ A _ _ _ s₆ _ ha R₆ fun okb s₇ b S₇ p₇ R₇ K₇ eb => ?_
        have eb : okb = b := eb
        subst eb
        cases hfa : f a with
        | none =>
          rw [hfa] at p₇
          obtain ⟨e, le⟩ := p₇
          subst e
          obtain ⟨hs7, hd7⟩ := fpK R₇
          refine ⟨l.length + 1 - (i + 1), by lia, mk (i + 1) ys _ hlt ((R5.merge R₇).le le) ((((K'.trans K5).trans K₆).trans K₇).le le) hs7 hd7 ?_⟩
          rw [takes, hfa, List.append_nil]
          exact ((K₆.trans K₇).le le).all hys5
        | some y =>
          rw [hfa] at p₇
          obtain ⟨e, p₇⟩ := p₇
          subst e
          refine p₇ A _ _ _ s₇ _ ha R₇ fun x s₈ c S₈ p₈ R₈ K₈ r₈ => ?_
          obtain ⟨rfl, le⟩ := p₈
          obtain ⟨hs8, hd8⟩ := fpK R₈
          have K68 := ((K₆.trans K₇).trans K₈)
          have hys8 := (K68.le le).all hys5
          have hsz8 : ys.size ≤ sizeLine := by
            have e1 := hys5.length
            have e2 : ((l.take i).filterMap f).length ≤ i := Nat.le_trans (List.length_filterMap_le ..) (by simp [Nat.min_le_left])
            rw [Array.length_toList] at e1
            rw [e1]; unfold sizeLine; lia
          refine wpAny_list_append_plain hd8 (fun h9 hd9 hs9 => ?_) hsz8
          have R8 := (R5.merge R₈).le le
          have K8 := ((K'.trans K5).trans K68).le le
          have r8 : VR s₈.heap (Xo C (fa env ++ ((s₂.heap.objs.size :: wr) ++ Y)) (CEnv scope env s₃.heap.objs.size) ⟨μc, S₁.M⟩) x c := by
            have := r₈; unfold Xo at this ⊢; rw [le.1]; exact this
          have st9 : SStp C.T [s₂.heap.objs.size] s₈ { s₈ with heap := h9 } := ⟨.sameBut hs9 (dT _ D2), rfl, rfl, id⟩
          have sing : ∀ {a : Addr}, a ∈ [s₂.heap.objs.size] → a = s₂.heap.objs.size := fun h => List.mem_singleton.mp h
          obtain ⟨nn9, e9⟩ := id hd9
          obtain ⟨R9, K9⟩ := R8.turnY ok st9 (fun a h => sing h ▸ List.mem_append_right _ (List.mem_append_left _ (List.mem_cons_self ..))) (fun a h => sing h ▸ List.mem_append_left _ (List.mem_cons_self ..))
            (fun a h => sing h ▸ ⟨_, e9⟩) (lentW _ fun a h => sing h ▸ hW _ (List.mem_cons_self ..))
          refine ⟨l.length + 1 - (i + 1), by lia, mk (i + 1) (ys.push x) _ hlt R9 (K8.trans K9) ?_ hd9 ?_⟩
          · exact F.frame _ _ _ hs8 fun b hb o e => hs9.extBut b o (fun q => hDfp (q ▸ hb)) e
          · rw [takes, hfa, Array.toList_push]
            exact (K9.all hys8).append (VRs.one (K9 _ _ r8))
      exact F.go _ _ v _ hst1 main
    · have hin : i = l.length := by lia
      subst hin
      refine F.done _ hst' R' fun h' tk hk => ?_
      obtain ⟨Ro, Ko, Vo⟩ := R₂.leaveV (V := s₂.heap.objs.size :: wr) (Z := [s₃.heap.objs.size]) ok R' (fun a h => List.mem_append_left _ h) (fun a h => List.mem_append_left _ h)
        (fun y c k e q => R₁.freeW hW y c k e q) (fun a h => by rw [efa]; exact ⟨h, (List.mem_singleton.mp h).symm ▸ L3⟩)
      obtain ⟨m, hm, _⟩ := R'.fr.loc
      have hW' : ∀ b ∈ s₃.heap.objs.size :: s₂.heap.objs.size :: wr, s₁.heap.get? b = none := fun b hb => by
        rcases List.mem_cons.mp hb with e | h
        · subst e; exact x₃.dead L3 (R₂.deadNot L3).2.1
        · exact hW b h
      have st : SStp C.T wr s' { s' with heap := h', toks := tk } := ⟨⟨fun a o e nw _ => hk a o nw e, fun a ha vs e tr => ⟨vs, by
        have : a ∉ wr := fun q => (R₁.bs.liveT ha).ne (hw a q) rfl
        exact hk a _ this e, tr, #[], by simp⟩⟩, rfl, rfl, id⟩
      obtain ⟨nn, eD⟩ := hD'
      have eL : s₂.heap.objs.size ≠ s₃.heap.objs.size := fun q => by
        have := lW _ (List.mem_cons_self ..); exact this.ne (q ▸ L3 : s₃.heap.get? s₂.heap.objs.size = none) rfl
      have nwY : ∀ a ∈ [s₃.heap.objs.size] ++ Y, a ∉ wr := fun a ha q => by
        rcases List.mem_append.mp ha with h | h
        · have e : a = s₃.heap.objs.size := List.mem_singleton.mp h
          subst e
          exact (lW _ (List.mem_cons_of_mem _ q)).ne L3 rfl
        · exact (R₁.hi a (List.mem_append_right _ (List.mem_append_right _ h))).2.2.ne (hw a q) rfl
      obtain ⟨Rx, Vx⟩ := Rel.turnLess (V := wr) (Y' := [s₃.heap.objs.size] ++ Y) ok (Ro.moreD (D' := (s₃.heap.objs.size :: s₂.heap.objs.size :: wr) ++ (fa env ++ feet S₁.M)) fun a h => List.mem_cons_of_mem _ h) st (fun a h => by simp [h]) (fun a h => by simp [h]) (fun y c k e q => R₁.freeW hw y c k e q)
        (fun a h => by
          simp only [List.mem_append, List.mem_cons] at h ⊢
          rcases h with h | h
          · exact .inl h
          · exact .inr (.inr h)) nwY (fun x c k e => (R₁.free x c k e).imp (List.mem_append_right _) id)
      have eD2 : h'.get? s₂.heap.objs.size = some _ := hk _ _ hDwr eD
      have hys2 := VRs.imp (fun v av r => Vx _ _ (Vo _ _ r)) hys
      rw [List.take_length] at hys2
      have hmc : h'.Ns s₃.heap.objs.size m := hm.at' fun o e => hk _ o (fun q => (lW _ (List.mem_cons_of_mem _ q)).ne L3 rfl) e
      have rD : VR h' (Xo C ([s₃.heap.objs.size] ++ Y) env S₁) (.ref s₂.heap.objs.size) (.lst (l.filterMap f)) := by
        refine .lst eD2 (fun q => ?_) hys2
        rw [mem_Xo] at q
        rcases q with q | q | q
        · exact dT _ D2 q
        · exact Ro.dis s₂.heap.objs.size (List.mem_append_right _ (List.mem_append_left _ (List.mem_cons_self ..))) q
        · rcases List.mem_append.mp q with q | q
          · exact eL (List.mem_singleton.mp q)
          · exact (R₁.hi _ (List.mem_append_right _ (List.mem_append_right _ q))).2.2.ne (hW _ (List.mem_cons_self ..)) rfl
      exact exit x₃ hW' (List.mem_cons_self ..) Rx (fun v av r => Vx _ _ (Ko _ _ (K₂ _ _ r))) rD hmc
  exact codeAny_compStart_list loop (F.self _ _ _ hst4 loop)
theorem EV.comp {elt target iter : Expr} {ifs : List Expr} {scope : Scope} {pos : Pos} {l : List AV} {P : AV → St → Prop} (ht : Plain target) (μc : List (Str × AV)) (f : AV → Option AV)
    (hok : compOk scope env = true) (hcell : ∀ y ∈ scope.names, y.2 ≠ .cell) (hkind : scope.kind = .function) (hnames : ∀ y ∈ scope.names, y.2 = .local → scope.names.lookup y.1 = some .local)
    (hmore : ∀ y ∈ scope.names, y.2 = .free → (y.1 == ("__classdict__" : Str)) = false)
    (h : EV C n env S iter fun a S₁ => Iter C n env S₁ a l ∧ (∀ L, Cap env (CEnv scope env L) S₁ μc) ∧ (∀ L, ∀ x ∈ l, Step C n (CEnv scope env L) ⟨μc, S₁.M⟩ target ifs elt x (f x)) ∧ P (.lst (l.filterMap f)) S₁)
    (hz : l.length ≤ 1000000 := by decide)
    (hs : ∀ x, foldedSetIterable iter env x = pure x := by intro _; rfl) : EV C n env S (.ListComp elt [⟨target, iter, ifs, 0⟩] scope pos) P := by
  intro A Y s₀ D s Q ha R q
  show wpAny _ _ (eval (.ListComp elt [⟨target, iter, ifs, 0⟩] scope pos) env) _ _ _
  rw [eval_ListComp]
  refine wpAny_comprehension_free (use := none) rfl hs (closure_of hok) hkind hnames (h A Y s₀ D s _ ha R fun v s₁ a S₁ p R₁ K₁ r => p.1 A Y s₀ D s₁ v _ ha R₁ r fun I fp wr PI St s₂ x₂ W hst hfp hw lw hP go => comp_feed ok μc f hok hcell hkind hmore ha R₁ (Feed.of ht x₂ W hst hfp hw lw hP go) p.2.1 p.2.2.1 hz
    fun {L D' Wx s3 s' m} x₃ hW' hL Rx V rD hmc => ⟨m, hmc, fun h'' hs'' => ?_⟩)
  have hCT : L ∉ C.T := Rx.tn (List.mem_append_right _ (List.mem_append_right _ (by simp)))
  have st2 : SStp C.T [L] s' { s' with heap := h'' } := ⟨.sameBut hs'' hCT, rfl, rfl, id⟩
  obtain ⟨Rz, Vz⟩ := Rel.endY2 (V := [L]) (W := Wx) ok R₁ x₃ hW' (fun b hb => by rw [List.mem_singleton.mp hb]; exact hL) Rx st2
  exact q _ _ _ _ p.2.2.2 Rz (fun v av r => Vz _ _ (V _ _ (K₁ _ _ r))) (Vz _ _ rD)
theorem comp_use {y : Str} {py : Pos} {P : AF → St → Prop} {Q : Flow → Shared → Prop} {r : AV} (hky : env.kindOf y = some .local) {A : Around} {Y D : List Addr} {s₀ s₁ s : Shared} {S₁ : St} (R₁ : Rel C Y s₀ D env S₁ s₁) (K₁ : Kp C Y env S s S₁ s₁) (hp : P .next ⟨ins y r S₁.μ, S₁.M⟩)
    (q : ∀ f s' b S', P b S' → Rel C Y s₀ D env S' s' → Kp C Y env S s S' s' → FR s'.heap (Xo C Y env S') f b → Q f s') {L D' : Addr} {Wx : List Addr} {s3 s' : Shared} {m : Str → Option Value} (x₃ : SStp C.T [] s₁ s3) (hW' : ∀ b ∈ Wx, s₁.heap.get? b = none) (hL : L ∈ Wx)
    (Rx : Rel C ([L] ++ Y) s3 (Wx ++ (fa env ++ feet S₁.M)) env S₁ s') (V : ∀ v av, VR s₁.heap (Xo C Y env S₁) v av → VR s'.heap (Xo C ([L] ++ Y) env S₁) v av) (rD : VR s'.heap (Xo C ([L] ++ Y) env S₁) (.ref D') r) (hmc : s'.heap.Ns L m) :
    compPost (model C.prog C.w) A No (some (assign (.Name y py) env)) (fun _ s' => Q .next s') (.ref D') L (.ok .next) s' := by
  show wpAny _ A (assign (.Name y py) env (.ref D')) _ _ _
  refine wpAny_assign_Name (store ok _ (.inl hky) Rx.rebase rD fun s₅ R5 K5 => ?_)
  have hC5 : L ∉ fa env ++ feet S₁.M := Rx.dis _ (by simp)
  have hCT : L ∉ C.T := Rx.tn (List.mem_append_right _ (List.mem_append_right _ (by simp)))
  refine ⟨m, hmc.at' fun o e => R5.st.heap.keep _ o e hC5 hCT, fun h'' hs'' => ?_⟩
  have st2 : SStp C.T [L] s₅ { s₅ with heap := h'' } := ⟨.sameBut hs'' hCT, rfl, rfl, id⟩
  obtain ⟨Rz, Vz⟩ := Rel.endY2 (V := [L]) (W := Wx) ok R₁ x₃ hW' (fun b hb => by rw [List.mem_singleton.mp hb]; exact hL) (Rx.merge R5) st2
  exact q _ _ _ _ hp Rz (fun v av r => Vz _ _ (K5 _ _ (V _ _ (K₁ _ _ r)))) .next
theorem E1_compUse {y : Str} {py spos : Pos} {elt target iter : Expr} {ifs : List Expr} {scope : Scope} {pos : Pos} {l : List AV} {P : AF → St → Prop} (ht : Plain target) (μc : List (Str × AV)) (f : AV → Option AV)
    (hok : compOk scope env = true) (hcell : ∀ y ∈ scope.names, y.2 ≠ .cell) (hkind : scope.kind = .function) (hnames : ∀ y ∈ scope.names, y.2 = .local → scope.names.lookup y.1 = some .local)
    (hmore : ∀ y ∈ scope.names, y.2 = .free → (y.1 == ("__classdict__" : Str)) = false)
    (h : EV C n env S iter fun a S₁ => Iter C n env S₁ a l ∧ (∀ L, Cap env (CEnv scope env L) S₁ μc) ∧ (∀ L, ∀ x ∈ l, Step C n (CEnv scope env L) ⟨μc, S₁.M⟩ target ifs elt x (f x)) ∧ P .next ⟨ins y (.lst (l.filterMap f)) S₁.μ, S₁.M⟩)
    (hz : l.length ≤ 1000000 := by decide)
    (hky : env.kindOf y = some .local := by rfl)
    (hsw : swapsWith (.ListComp elt [⟨target, iter, ifs, 0⟩] scope pos) (some (.Name y py)) spos.line env = pure true := by rfl)
    (hs : ∀ x, foldedSetIterable iter env x = pure x := by intro _; rfl) : E1 C n env S (.Assign [.Name y py] (.ListComp elt [⟨target, iter, ifs, 0⟩] scope pos) spos) P := by
  intro A Y s₀ D s Q ha R q
  show wpAny _ _ (exec (.Assign [.Name y py] (.ListComp elt [⟨target, iter, ifs, 0⟩] scope pos) spos) env) _ _ _
  rw [exec_Assign_Name_used _ _ _ _ hsw]
  refine wpAny_bind (wpAny_standAt (wpAny_bind ?_))
  show wpAny _ A (do let _ ← comprehension (.ListComp elt [⟨target, iter, ifs, 0⟩] scope pos) scope env _ (newList []) false (eval iter env) (some (assign (.Name y py) env))) _ _ s
  refine wpAny_bind (wpAny_mono (wpAny_comprehension_free (use := some (assign (.Name y py) env)) (Q := fun _ s' => Q .next s') rfl hs (closure_of hok) hkind hnames
    (h A Y s₀ D s _ ha R fun v s₁ a S₁ p R₁ K₁ r => p.1 A Y s₀ D s₁ v _ ha R₁ r fun I fp wr PI St s₂ x₂ W hst hfp hw lw hP go => comp_feed ok μc f hok hcell hkind hmore ha R₁ (Feed.of ht x₂ W hst hfp hw lw hP go) p.2.1 p.2.2.1 hz ?_)) (fun _ s' hq => wpAny_pure (wpAny_pure hq)) fun _ _ e => e)
  exact comp_use ok hky R₁ K₁ p.2.2.2 q
end
end Mine
namespace Mine
noncomputable def dgA (c : Int) (n : Nat) : Nat := ((c.fdiv (64 ^ n)).fmod 8).toNat
noncomputable def dgB (c : Int) (n : Nat) : Nat := (((c.fdiv (64 ^ n)).fdiv 8).fmod 8).toNat
theorem dgA_eq (c : Int) (n : Nat) : (c.fdiv (64 ^ n)).fmod 8 = (dgA c n : Int) ∧ dgA c n < 8 := by
  obtain ⟨m, h1, h2⟩ := fmod_small (c.fdiv (64 ^ n)) 8 (by decide)
  have h2 : (c.fdiv (64 ^ n)).fmod 8 = (m : Int) := h2
  unfold dgA; rw [h2]; exact ⟨by lia, by lia⟩
theorem dgB_eq (c : Int) (n : Nat) : ((c.fdiv (64 ^ n)).fdiv 8).fmod 8 = (dgB c n : Int) ∧ dgB c n < 8 := by
  obtain ⟨m, h1, h2⟩ := fmod_small ((c.fdiv (64 ^ n)).fdiv 8) 8 (by decide)
  have h2 : ((c.fdiv (64 ^ n)).fdiv 8).fmod 8 = (m : Int) := h2
  unfold dgB; rw [h2]; exact ⟨by lia, by lia⟩
noncomputable def sgnAt (i : Nat) : Str := sgnL.getD i ""
noncomputable def tailF (c : Int) (n : Nat) : Str := sgnAt (dgA c n) ++ sgnAt (dgB c n)
noncomputable def tailG (c : Int) : AV → Option AV
  | .int n => some (.str (tailF c n.toNat))
  | _ => none
theorem sgnV_at {i : Nat} (h : i < 8) : sgnV[i]? = some (.str (sgnAt i)) ∧ (sgnAt i).length ≤ 1 := by
  have hi : i = 0 ∨ i = 1 ∨ i = 2 ∨ i = 3 ∨ i = 4 ∨ i = 5 ∨ i = 6 ∨ i = 7 := or8 _ (by first | assumption | lia)
  rcases hi with rfl | rfl | rfl | rfl | rfl | rfl | rfl | rfl <;> exact ⟨rfl, by decide⟩
noncomputable def tailV (c : Int) : List AV := (List.range 6).map fun n => .str (tailF c n)
theorem log64 : ∀ n : Nat, n < 6 → ((64 : Int) ^ n).natAbs.log2 < 9000 ∧ (64 : Int) ^ n ≠ 0 := by decide
section
variable {w : World} {mg mb : Str → Option Value} (g : GA w mg mb)
include g
theorem PE.cellAt {m : Nat} {env : Env} {S : St} {a : Addr} {c0 c1 c2 : Int} {p p1 p2 : Pos} {k0 : Nat} {j : Nat} {c : Int} (h : PE (CA w mg mb) m env S (.Name "cells" p) (.raw (.ref a))) (hM : (a, AO.list [.int c0, .int c1, .int c2]) ∈ S.M) (hj : [AV.int c0, .int c1, .int c2][j]? = some (.int c)) : PE (CA w mg mb) m env S (.Subscript (.Name "cells" p) (.Constant (.int (j : Nat)) k0 p1) p2) (.int c) := by
  have ok := okA g
  refine PE.sub h (PE.int ok) (O.sub_lstM ok (k := _) hM (by lia) (by rw [Int.toNat_natCast]; exact hj) ?_)
  have := (List.getElem?_eq_some_iff.mp hj).1
  simp at this; lia
theorem GA.law3 {n : Nat} {L : Addr} {sv : AV} {a : Addr} {c0 c1 c2 : Int} {P : AF → St → Prop} {U : AV}
    (k : EX (CA w mg mb) n (lawE w L) ⟨[("script", sv), ("cells", .raw (.ref a)), ("up", U), ("signs", .tup sgnV), ("tails", .lst (tailV c1))], [(a, .list [.int c0, .int c1, .int c2])]⟩ ((lawB w).drop 5) P) :
    EX (CA w mg mb) n (lawE w L) ⟨[("script", sv), ("cells", .raw (.ref a)), ("up", U), ("signs", .tup sgnV)], [(a, .list [.int c0, .int c1, .int c2])]⟩ ((lawB w).drop 4) P := by
  have ok := okA g
  refine EX.cons ?_
  refine E1.cell ok ?_
  refine EV.comp ok (l := upto 0 6) (.name _ _) [("cells", .raw (.ref a)), ("signs", .tup sgnV)] (tailG c1) rfl (by decide) rfl (by decide) (by decide) ?_
  refine PE.then (PE.callT1 (PE.built rfl (g.non _ rfl) ((g.mb _ (by decide)).trans rfl)) (PE.int ok) (O.range1 ok)) ?_
  refine ⟨Iter.rng ok rfl, fun L' => ?_, fun L' x hx => ?_, ?_⟩
  · refine Cap.cons rfl ?_ (.inl ?_) (.inl rfl) ?_
    · rfl
    · rfl
    refine Cap.cons rfl ?_ (.inl ?_) (.inl rfl) Cap.nil
    · rfl
    · rfl
  · obtain ⟨n, hn, rfl⟩ : ∃ n : Nat, n < 6 ∧ x = .int n := by
      unfold upto at hx
      obtain ⟨n, hn, e⟩ := List.mem_map.mp hx
      have := List.mem_range.mp hn
      exact ⟨n, by lia, by rw [← e]; congr 1; lia⟩
    obtain ⟨a1, a2⟩ := dgA_eq c1 n
    obtain ⟨b1, b2⟩ := dgB_eq c1 n
    obtain ⟨s1, s2⟩ := sgnV_at a2
    obtain ⟨t1, t2⟩ := sgnV_at b2
    obtain ⟨l1, l2⟩ := log64 n hn
    refine Step.some ?_
    refine TG.name ok (.inl rfl) ?_
    refine CT.nil ⟨rfl, ?_⟩
    have ep : ((n : Int)).toNat = n := Int.toNat_natCast n
    have len8 : sgnV.length = 8 := rfl
    refine PE.then (PE.bin (PE.sub (PE.name rfl) (PE.cast (PE.bin (PE.bin (PE.cellAt g (a := a) (c0 := c0) (c1 := c1) (c2 := c2) (j := 1) (PE.name rfl) (List.mem_cons_self ..) rfl) (PE.bin (PE.int ok) (PE.name rfl) (O.pow ok (by lia) (by lia) (by decide))) (O.fdivB ok ?_ ?_)) (PE.int ok) (O.fmod ok (by decide))) (congrArg AV.int (show (c1.fdiv (64 ^ ((n : Int)).toNat)).fmod 8 = (dgA c1 n : Int) by rw [ep]; exact a1))) (O.sub_tup ok (j := dgA c1 n) (c := .str (sgnAt (dgA c1 n))) ?_ s1 (by lia) (by lia)))
      (PE.sub (PE.name rfl) (PE.cast (PE.bin (PE.bin (PE.bin (PE.cellAt g (a := a) (c0 := c0) (c1 := c1) (c2 := c2) (j := 1) (PE.name rfl) (List.mem_cons_self ..) rfl) (PE.bin (PE.int ok) (PE.name rfl) (O.pow ok (by lia) (by lia) (by decide))) (O.fdivB ok ?_ ?_)) (PE.int ok) (O.fdiv ok (by decide) (by decide))) (PE.int ok) (O.fmod ok (by decide))) (congrArg AV.int (show ((c1.fdiv (64 ^ ((n : Int)).toNat)).fdiv 8).fmod 8 = (dgB c1 n : Int) by rw [ep]; exact b1))) (O.sub_tup ok (j := dgB c1 n) (c := .str (sgnAt (dgB c1 n))) ?_ t1 (by lia) (by lia))) (O.adds ok ?_)) ⟨rfl, Le.pre (ν := [("n", .int n)])⟩
    · rw [ep]; exact l2
    · rw [ep]; exact l1
    · rw [len8, seqIndex_of (by lia) (by lia)]; simp
    · rw [ep]; exact l2
    · rw [ep]; exact l1
    · rw [len8, seqIndex_of (by lia) (by lia)]; simp
    · have sl : sizeLine = 16777216 := by decide
      lia
  · exact k
end
end Mine
namespace Mine
noncomputable def grV (gr : Nat) : Str := grd (gr == 1)
section
variable {w : World} {mg mb : Str → Option Value} (g : GA w mg mb)
include g
theorem GA.law4 {n : Nat} {L : Addr} {sv : AV} {a : Addr} {c0 c1 c2 : Int} {P : AF → St → Prop} {U T : AV} {way head gr : Nat} (hway : way < 5) (hgr : gr < 2) (e1 : c2.fmod 5 = (way : Nat)) (e2 : (c2.fdiv 5).fmod 4 = (head : Nat)) (e3 : (c0.fdiv 120).fmod 2 = (gr : Nat))
    (k : ∀ x o b, EX (CA w mg mb) (n + 2) (lawE w L) ⟨[("script", sv), ("cells", .raw (.ref a)), ("up", U), ("signs", .tup sgnV), ("tails", T), ("way", .int way), ("head", .int head), ("hand", .raw (.ref (handF way))), ("refs", .raw (.ref b)), ("ground", .str (grV gr))],
      [(a, .list [.int c0, .int c1, .int c2]), (x, o), (b, .sdict (refsL way))]⟩ ((lawB w).drop 10) P) :
    EX (CA w mg mb) (n + 2) (lawE w L) ⟨[("script", sv), ("cells", .raw (.ref a)), ("up", U), ("signs", .tup sgnV), ("tails", T)], [(a, .list [.int c0, .int c1, .int c2])]⟩ ((lawB w).drop 5) P := by
  have ok := okA g
  have w5 : way = 0 ∨ way = 1 ∨ way = 2 ∨ way = 3 ∨ way = 4 := or5 _ (by first | assumption | lia)
  refine EX.cons ?_
  refine E1.loc ok ?_
  refine (PE.cast (PE.bin (PE.cellAt g (a := a) (c0 := c0) (c1 := c1) (c2 := c2) (j := 2) (PE.name rfl) (List.mem_cons_self ..) rfl) (PE.int ok) (O.fmod ok (by decide))) (congrArg AV.int e1)).then ?_
  refine EX.cons ?_
  refine E1.cell ok ?_
  refine (PE.cast (PE.bin (PE.bin (PE.cellAt g (a := a) (c0 := c0) (c1 := c1) (c2 := c2) (j := 2) (PE.name rfl) (List.mem_cons_self ..) rfl) (PE.int ok) (O.fdiv ok (by decide) (by decide))) (PE.int ok) (O.fmod ok (by decide))) (congrArg AV.int e2)).then ?_
  refine EX.cons ?_
  refine E1.loc ok ?_
  refine PE.then (PE.sub (PE.tuple ok (PL.cons (PE.glob rfl (g.glo _ _ rfl)) (PL.cons (PE.glob rfl (g.glo _ _ rfl)) (PL.cons (PE.glob rfl (g.glo _ _ rfl)) (PL.cons (PE.glob rfl (g.glo _ _ rfl)) (PL.cons (PE.glob rfl (g.glo _ _ rfl)) PL.nil))))) (by simp only [List.length_cons, List.length_nil]; decide)) (PE.name rfl) (O.sub_tup (j := way) (c := .raw (.ref (handF way))) ok ?_ ?_ (by lia) (by lia))) ?_
  · rw [seqIndex_of (by lia) (by simp; lia)]; simp
  · rcases w5 with rfl | rfl | rfl | rfl | rfl <;> rfl
  refine EX.cons ?_
  refine E1.cell ok ?_
  refine EV.callK (PE.glob rfl (g.glo _ _ rfl)) rfl (PL.then (PL.cons (PE.name rfl) PL.nil) ((((refs_fn g (n := n + 1) (M := [(a, .list [.int c0, .int c1, .int c2])]) hway).fn) _ _).mono fun av S₂ e => ?_))
  obtain ⟨e1, x, b, o, rfl, e3'⟩ := e
  rw [back_eq e1 e3']
  refine EX.cons ?_
  refine E1.loc ok ?_
  refine PE.then (PE.sub (PE.tuple ok (PL.cons (PE.str ok) (PL.cons (PE.str ok) PL.nil)) (by simp only [List.length_cons, List.length_nil]; decide)) (PE.cast (PE.bin (PE.bin (PE.cellAt g (a := a) (c0 := c0) (c1 := c1) (c2 := c2) (j := 0) (PE.name rfl) (List.mem_cons_self ..) rfl) (PE.int ok) (O.fdiv ok (by decide) (by decide))) (PE.int ok) (O.fmod ok (by decide))) (congrArg AV.int e3)) (O.sub_tup (j := gr) (c := .str (grV gr)) ok ?_ ?_ (by lia) (by lia))) ?_
  · rw [seqIndex_of (by lia) (by simp; lia)]; simp
  · have : gr = 0 ∨ gr = 1 := by lia
    rcases this with rfl | rfl <;> rfl
  exact k x o b
end
end Mine
namespace Mine
noncomputable def nmF (U : Nat → Nat) (t : Nat → Str) (b : Bool) : Nat → Nat → Str
  | 0, _ => ""
  | k + 1, j => if j = 0 then "a" ++ t 0 ++ "." ++ grd b else ltr j ++ t j ++ "." ++ nmF U t b k (U j)
theorem nmF_more {U : Nat → Nat} {t : Nat → Str} {b : Bool} (hup : ∀ j, 0 < j → j < 6 → U j < j) : ∀ (k k' j : Nat), j < k → j < k' → j < 6 → nmF U t b k j = nmF U t b k' j
  | 0, _, j, h, _, _ => by lia
  | k + 1, 0, j, _, h, _ => by lia
  | k + 1, k' + 1, j, h1, h2, h6 => by
    unfold nmF
    by_cases e : j = 0
    · rw [if_pos e, if_pos e]
    · have := hup j (by lia) h6
      rw [if_neg e, if_neg e, nmF_more hup k k' (U j) (by lia) (by lia) (by lia)]
noncomputable def nmN (U : Nat → Nat) (t : Nat → Str) (b : Bool) (j : Nat) : Str := nmF U t b 6 j
theorem nmN_zero (U : Nat → Nat) (t : Nat → Str) (b : Bool) : nmN U t b 0 = "a" ++ t 0 ++ "." ++ grd b := rfl
theorem nmN_succ {U : Nat → Nat} {t : Nat → Str} {b : Bool} (hup : ∀ j, 0 < j → j < 6 → U j < j) {j : Nat} (h0 : 0 < j) (h : j < 6) : nmN U t b j = ltr j ++ t j ++ "." ++ nmN U t b (U j) := by
  have := hup j h0 h
  unfold nmN
  conv => lhs; unfold nmF
  rw [if_neg (by lia), nmF_more hup 5 6 (U j) (by lia) (by lia) (by lia)]
noncomputable def abF (U : Nat → Nat) : Nat → Nat → List Nat
  | 0, _ => []
  | k + 1, j => if j = 0 then [] else abF U k (U j) ++ [U j]
theorem abF_more {U : Nat → Nat} (hup : ∀ j, 0 < j → j < 6 → U j < j) : ∀ (k k' j : Nat), j < k → j < k' → j < 6 → abF U k j = abF U k' j
  | 0, _, j, h, _, _ => by lia
  | k + 1, 0, j, _, h, _ => by lia
  | k + 1, k' + 1, j, h1, h2, h6 => by
    unfold abF
    by_cases e : j = 0
    · rw [if_pos e, if_pos e]
    · have := hup j (by lia) h6
      rw [if_neg e, if_neg e, abF_more hup k k' (U j) (by lia) (by lia) (by lia)]
noncomputable def abN (U : Nat → Nat) (j : Nat) : List Nat := abF U 6 j
theorem abN_succ {U : Nat → Nat} (hup : ∀ j, 0 < j → j < 6 → U j < j) {j : Nat} (h0 : 0 < j) (h : j < 6) : abN U j = abN U (U j) ++ [U j] := by
  have := hup j h0 h
  unfold abN
  conv => lhs; unfold abF
  rw [if_neg (by lia), abF_more hup 5 6 (U j) (by lia) (by lia) (by lia)]
theorem abN_len {U : Nat → Nat} (hup : ∀ j, 0 < j → j < 6 → U j < j) : ∀ k j, j ≤ k → j < 6 → (abN U j).length ≤ j
  | 0, j, h, _ => by have : j = 0 := by lia
                     subst this; exact Nat.le_refl _
  | k + 1, j, h, h6 => by
    by_cases e : j = 0
    · subst e; exact Nat.le_refl _
    · have h1 := hup j (by lia) h6
      have h2 := abN_len hup k (U j) (by lia) (by lia)
      rw [abN_succ hup (by lia) h6, List.length_append, List.length_singleton]; lia
theorem anc0 {U : Nat → Nat} {c : Nat} (h : Anc U c 0) : False := by
  generalize e : 0 = z at h
  cases h <;> lia
theorem abN_anc {U : Nat → Nat} (hup : ∀ j, 0 < j → j < 6 → U j < j) : ∀ k j, j ≤ k → j < 6 → ∀ c, c ∈ abN U j ↔ Anc U c j
  | 0, j, h, _, c => by
    have : j = 0 := by lia
    subst this
    exact ⟨fun h => (nomatch (show c ∈ ([] : List Nat) from h)), fun h => (anc0 h).elim⟩
  | k + 1, j, h, h6, c => by
    by_cases e : j = 0
    · subst e
      exact ⟨fun h => (nomatch (show c ∈ ([] : List Nat) from h)), fun h => (anc0 h).elim⟩
    · have h1 := hup j (by lia) h6
      rw [abN_succ hup (by lia) h6, List.mem_append, abN_anc hup k (U j) (by lia) (by lia) c, List.mem_singleton]
      constructor
      · rintro (q | rfl)
        · exact .step (by lia) q
        · exact .base (by lia)
      · intro q
        cases q with
        | base _ => exact .inr rfl
        | step _ q => exact .inl q
theorem ul_up {a b c d : Nat} (ha : a < 2) (hb : b < 3) (hc : c < 4) (hd : d < 5) : ∀ j, 0 < j → j < 6 → ul a b c d j < j := fun j h0 h6 => by
  have hj : j = 1 ∨ j = 2 ∨ j = 3 ∨ j = 4 ∨ j = 5 := by lia
  rcases hj with rfl | rfl | rfl | rfl | rfl
  · exact Nat.zero_lt_one
  · exact ha
  · exact hb
  · exact hc
  · exact hd
theorem upV_at {a b c d : Nat} {j : Nat} (h : j < 6) : (upV a b c d)[j]? = some (.int (ul a b c d j : Nat)) := by
  have hj : j = 0 ∨ j = 1 ∨ j = 2 ∨ j = 3 ∨ j = 4 ∨ j = 5 := or6 _ (by first | assumption | lia)
  rcases hj with rfl | rfl | rfl | rfl | rfl | rfl <;> rfl
theorem sgn_signs {i : Nat} (h : i < 8) : ∀ c ∈ (sgnAt i).cps.toList, isSign c = true := by
  have hi : i = 0 ∨ i = 1 ∨ i = 2 ∨ i = 3 ∨ i = 4 ∨ i = 5 ∨ i = 6 ∨ i = 7 := or8 _ (by first | assumption | lia)
  rcases hi with rfl | rfl | rfl | rfl | rfl | rfl | rfl | rfl <;> decide
theorem tail_len (c : Int) (n : Nat) : (tailF c n).length ≤ 2 := by
  unfold tailF
  have h1 := (sgnV_at (dgA_eq c n).2).2
  have h2 := (sgnV_at (dgB_eq c n).2).2
  rw [strLen_append]; lia
theorem tail_signs (c : Int) (n : Nat) : ∀ x ∈ (tailF c n).cps.toList, isSign x = true := fun x hx => by
  unfold tailF at hx
  rw [cps_append] at hx
  rcases List.mem_append.mp hx with hx | hx
  · exact sgn_signs (dgA_eq c n).2 x hx
  · exact sgn_signs (dgB_eq c n).2 x hx
theorem law_names {a b c d : Nat} (ha : a < 2) (hb : b < 3) (hc : c < 4) (hd : d < 5) (c1 : Int) (g : Bool) : Names (ul a b c d) (tailF c1) g (nmN (ul a b c d) (tailF c1) g) where
  up := ul_up ha hb hc hd
  len := fun j _ => tail_len c1 j
  sgn := fun j _ => tail_signs c1 j
  zero := nmN_zero ..
  succ := fun j h0 h => nmN_succ (ul_up ha hb hc hd) h0 h
theorem abc_at : ∀ j : Nat, j < 6 → Txt.item "abcdef" (j : Int) = ltr j := fun j h => by
  have hj : j = 0 ∨ j = 1 ∨ j = 2 ∨ j = 3 ∨ j = 4 ∨ j = 5 := or6 _ (by first | assumption | lia)
  rcases hj with rfl | rfl | rfl | rfl | rfl | rfl <;> rfl
end Mine
namespace Mine
noncomputable def lawM (sv : AV) (a : Addr) (U T : AV) (way head : Nat) (b : Addr) (gr : Str) : List (Str × AV) :=
  [("script", sv), ("cells", .raw (.ref a)), ("up", U), ("signs", .tup sgnV), ("tails", T), ("way", .int way), ("head", .int head), ("hand", .raw (.ref (handF way))), ("refs", .raw (.ref b)), ("ground", .str gr)]
noncomputable def nmV (nm : Nat → Str) (k : Nat) : List AV := (List.range k).map fun j => .str (nm j)
noncomputable def abV (U : Nat → Nat) (k : Nat) : List AV := (List.range k).map fun j => .lst ((abN U j).map fun i => .int (i : Nat))
theorem nmV_at {nm : Nat → Str} {k j : Nat} (h : j < k) : (nmV nm k)[j]? = some (.str (nm j)) := by
  unfold nmV; rw [List.getElem?_map, List.getElem?_range h]; rfl
theorem abV_at {U : Nat → Nat} {k j : Nat} (h : j < k) : (abV U k)[j]? = some (.lst ((abN U j).map fun i => .int (i : Nat))) := by
  unfold abV; rw [List.getElem?_map, List.getElem?_range h]; rfl
theorem nmV_succ (nm : Nat → Str) (k : Nat) : nmV nm (k + 1) = nmV nm k ++ [.str (nm k)] := by simp [nmV, List.range_succ]
theorem abV_succ (U : Nat → Nat) (k : Nat) : abV U (k + 1) = abV U k ++ [.lst ((abN U k).map fun i => .int (i : Nat))] := by simp [abV, List.range_succ]
theorem tailV_at {c : Int} {j : Nat} (h : j < 6) : (tailV c)[j]? = some (.str (tailF c j)) := by
  unfold tailV; rw [List.getElem?_map, List.getElem?_range h]; rfl
theorem upto_at {a b : Int} {i : Nat} {x : AV} (h : (upto a b)[i]? = some x) : x = .int (a + i) ∧ i < (b - a).toNat := by
  unfold upto at h
  rw [List.getElem?_map] at h
  obtain ⟨j, hj, rfl⟩ := Option.map_eq_some_iff.mp h
  obtain ⟨h1, h2⟩ := List.getElem?_eq_some_iff.mp hj
  simp at h1 h2
  subst h2
  exact ⟨rfl, by lia⟩
section
variable {w : World} {mg mb : Str → Option Value} (g : GA w mg mb)
include g
theorem GA.law6 {n : Nat} {L : Addr} {sv : AV} {a b : Addr} {P : AF → St → Prop} {way head : Nat} {gr : Str} {ua ub uc ud : Nat} {c1 : Int} {M0 : List (Addr × AO)} {bg : Bool} (hgr : gr = grd bg) (ha : ua < 2) (hb : ub < 3) (hc : uc < 4) (hd : ud < 5)
    (k : ∀ p q, EX (CA w mg mb) n (lawE w L) ⟨lawM sv a (.tup (upV ua ub uc ud)) (.lst (tailV c1)) way head b gr ++ ([("names", .raw (.ref p)), ("above", .raw (.ref q))] : List (Str × AV)),
      M0 ++ [(p, .list (nmV (nmN (ul ua ub uc ud) (tailF c1) bg) 6)), (q, .list (abV (ul ua ub uc ud) 6))]⟩ ((lawB w).drop 13) P) :
    EX (CA w mg mb) n (lawE w L) ⟨lawM sv a (.tup (upV ua ub uc ud)) (.lst (tailV c1)) way head b gr, M0⟩ ((lawB w).drop 10) P := by
  have ok := okA g
  have sl : sizeLine = 16777216 := by decide
  subst hgr
  have N := law_names ha hb hc hd c1 bg
  generalize hU : ul ua ub uc ud = U at *
  generalize hnm : nmN U (tailF c1) bg = nm at *
  have hup := N.up
  have tl : ∀ j, (tailF c1 j).length ≤ 2 := tail_len c1
  have gl : (grd bg).length = 5 := by cases bg <;> decide
  have l1 : ("a" : Str).length = 1 := rfl
  have l2 : ("." : Str).length = 1 := rfl
  have t0 := tl 0
  refine EX.cons ?_
  refine E1.loc ok ?_
  refine EV.listM ok (PL.then (PL.cons (PE.bin (PE.bin (PE.bin (PE.str ok) (PE.sub (PE.name rfl) (PE.int ok) (O.sub_lst ok (k := ((0 : Nat) : Int)) (c := .str (tailF c1 0)) (by decide) (tailV_at (by lia)))) (O.adds ok ?_)) (PE.str ok) (O.adds ok ?_)) (PE.name rfl) (O.adds ok ?_)) PL.nil) ⟨by simp only [List.length_cons, List.length_nil]; decide, fun p => ?_⟩)
  · lia
  · rw [strLen_append]; lia
  · rw [strLen_append, strLen_append]; lia
  rw [← N.zero]
  refine EX.cons ?_
  refine E1.loc ok ?_
  refine EV.listM ok (PL.then (PL.cons (PE.list ok PL.nil (by decide)) PL.nil) ⟨by simp only [List.length_cons, List.length_nil]; decide, fun q => ?_⟩)
  refine EX.cons ?_
  refine E1_forT ok (l := upto 1 6) (fun i S => S = ⟨lawM sv a (.tup (upV ua ub uc ud)) (.lst (tailV c1)) way head b (grd bg) ++ ([("names", .raw (.ref p)), ("above", .raw (.ref q))] : List (Str × AV)), M0 ++ [(p, .list (nmV nm (i + 1))), (q, .list (abV U (i + 1)))]⟩) (.name _ _) ?_ ?_ ?_
  · exact PE.then (PE.callTN (PE.built rfl (g.non _ rfl) ((g.mb _ (by decide)).trans rfl)) (PL.cons (PE.int ok) (PL.cons (PE.int ok) PL.nil)) (O.range2 ok)) ⟨Iter.rng ok rfl, congr (congrArg St.mk rfl) (List.append_assoc ..)⟩
  · rintro i S₁ x Tn hTn hx rfl
    obtain ⟨rfl, hi⟩ := upto_at hx
    have hi : i < 5 := by lia
    have ej : (1 : Int) + (i : Int) = ((i + 1 : Nat) : Int) := by lia
    rw [ej]
    refine TG.cell ok ?_
    have hj6 : i + 1 < 6 := by lia
    have hu := hup (i + 1) (by lia) hj6
    have hupV := upV_at (a := ua) (b := ub) (c := uc) (d := ud) hj6
    rw [hU] at hupV
    generalize hj : i + 1 = j at *
    have nl := N.nlen (U j) (by lia)
    refine EX.cons ?_
    refine E1.expr ?_
    have abl : ("abcdef" : Str).length = 6 := rfl
    have hll : (ltr j).length = 1 := rfl
    have tj := tl j
    refine EV.bmeth PySem.F.slot_list_append PySem.F.plainAttrs_list PySem.F.type_list_append ((PE.name rfl).then ⟨p, rfl, listOb (List.mem_append_right _ (List.mem_cons_self ..)), PL.then (PL.cons (PE.bin (PE.bin (PE.bin (PE.cast (PE.sub (PE.str ok) (PE.name rfl) (O.sub_str ok ?_ (by lia) (by lia))) (congrArg AV.str (abc_at j hj6))) (PE.sub (PE.name rfl) (PE.name rfl) (O.sub_lst ok (k := (j : Int)) (c := .str (tailF c1 j)) (by lia) (by rw [Int.toNat_natCast]; exact tailV_at hj6) (by lia))) (O.adds ok ?_)) (PE.str ok) (O.adds ok ?_)) (PE.sub (PE.name rfl) (PE.sub (PE.name rfl) (PE.name rfl) (O.sub_tup ok (j := j) (c := .int (U j : Nat)) ?_ hupV (by lia) (by lia))) (O.sub_lstM ok (k := ((U j : Nat) : Int)) (c := .str (nm (U j))) (List.mem_append_right _ (List.mem_cons_self ..)) (by lia) (by rw [Int.toNat_natCast]; exact nmV_at hu) (by lia))) (O.adds ok ?_)) PL.nil) (O.append ok (i := M0.length) (p := p) (l := nmV nm j) (by simp) ?_ ?_)⟩)
    · unfold fitsSsize; simp; lia
    · lia
    · rw [strLen_append]; lia
    · rw [show (upV ua ub uc ud).length = 6 from rfl, seqIndex_of (by lia) (by lia)]; simp
    · rw [strLen_append, strLen_append]; lia
    · rw [sl]; simp [nmV]; lia
    rw [← N.succ j (by lia) hj6, ← nmV_succ]
    have eM : (M0 ++ [(p, AO.list (nmV nm j)), (q, AO.list (abV U j))]).set M0.length (p, AO.list (nmV nm (j + 1))) = M0 ++ [(p, AO.list (nmV nm (j + 1))), (q, AO.list (abV U j))] := by simp
    rw [eM]
    have eM2 : (M0 ++ [(p, AO.list (nmV nm (j + 1))), (q, AO.list (abV U j))]).set (M0.length + 1) (q, AO.list (abV U (j + 1))) = M0 ++ [(p, AO.list (nmV nm (j + 1))), (q, AO.list (abV U (j + 1)))] := by simp
    have al := abN_len hup 6 (U j) (by lia) (by lia)
    refine EX.cons ?_
    refine E1.expr ?_
    refine EV.bmeth PySem.F.slot_list_append PySem.F.plainAttrs_list PySem.F.type_list_append ((PE.name rfl).then ⟨q, rfl, listOb (List.mem_append_right _ (List.mem_cons_of_mem _ (List.mem_cons_self ..))), PL.then (PL.cons (PE.bin (PE.sub (PE.name rfl) (PE.sub (PE.name rfl) (PE.name rfl) (O.sub_tup ok (j := j) (c := .int (U j : Nat)) ?_ hupV (by lia) (by lia))) (O.sub_lstM ok (k := ((U j : Nat) : Int)) (c := .lst ((abN U (U j)).map fun i => .int (i : Nat))) (List.mem_append_right _ (List.mem_cons_of_mem _ (List.mem_cons_self ..))) (by lia) (by rw [Int.toNat_natCast]; exact abV_at hu) (by lia))) (PE.list ok (PL.cons (PE.sub (PE.name rfl) (PE.name rfl) (O.sub_tup ok (j := j) (c := .int (U j : Nat)) ?_ hupV (by lia) (by lia))) PL.nil) (by simp only [List.length_cons, List.length_nil]; decide)) (O.addl ok ?_)) PL.nil) (O.append ok (i := M0.length + 1) (p := q) (l := abV U j) (by simp) ?_ ?_)⟩)
    · rw [show (upV ua ub uc ud).length = 6 from rfl, seqIndex_of (by lia) (by lia)]; simp
    · rw [show (upV ua ub uc ud).length = 6 from rfl, seqIndex_of (by lia) (by lia)]; simp
    · rw [List.length_map, List.length_singleton]; lia
    · rw [sl]; simp [abV]; lia
    have ea : (abN U (U j)).map (fun i => AV.int (i : Nat)) ++ [AV.int (U j : Nat)] = (abN U j).map fun i => .int (i : Nat) := by
      rw [abN_succ hup (by lia) hj6]; simp
    rw [ea, ← abV_succ, eM2]
    refine EX.nil (hTn .next _ ⟨⟨(lawM sv a (.tup (upV ua ub uc ud)) (.lst (tailV c1)) way head b (grd bg) ++ ([("names", .raw (.ref p)), ("above", .raw (.ref q))] : List (Str × AV))), _⟩, Le.pre (μ := (lawM sv a (.tup (upV ua ub uc ud)) (.lst (tailV c1)) way head b (grd bg) ++ ([("names", .raw (.ref p)), ("above", .raw (.ref q))] : List (Str × AV)))) (ν := [("n", .int (j : Nat))]), ?_⟩)
    rfl
  · rintro S₁ rfl
    have e5 : (upto 1 6).length = 5 := rfl
    rw [e5]
    exact k p q
end
end Mine
namespace Mine
noncomputable def lawM2 (sv : AV) (a : Addr) (U T : AV) (way head : Nat) (b : Addr) (gr : Str) (p q : Addr) : List (Str × AV) :=
  [("script", sv), ("cells", .raw (.ref a)), ("up", U), ("signs", .tup sgnV), ("tails", T), ("way", .int way), ("head", .int head), ("hand", .raw (.ref (handF way))), ("refs", .raw (.ref b)), ("ground", .str gr), ("names", .raw (.ref p)), ("above", .raw (.ref q))]
noncomputable def reachL (x g : Str) : List AV := [.tup [.str x, .str ("." ++ g)], .tup [.str "local", .str "local"], .tup [.str "b.com", .str "b.com"], .tup [.str (x ++ "."), .str (x ++ ".")]]
theorem reachL_at {U : Nat → Nat} {t : Nat → Str} {b : Bool} {nm : Nat → Str} (N : Names U t b nm) {i : Nat} {c : AV} (h : (reachL (nm 0) (grd b))[i]? = some c) : ∃ x, c = .tup [.str x, .str (reachF x)] ∧ noDigit x ∧ x.length ≤ 1000 := by
  have nl := N.nlen 0 (by lia)
  have l2 : ("." : Str).length = 1 := rfl
  match i, h with
  | 0, h => cases h; exact ⟨nm 0, by rw [N.reach0], fine_noDigit (N.fine 0 (by lia)), by lia⟩
  | 1, h =>
    cases h
    have f : FineS "local" := by unfold FineS; decide
    refine ⟨"local", ?_, fine_noDigit f, by decide⟩
    have : reachF "local" = "local" := by
      unfold reachF
      rw [find_no (x := "local") (by decide)]; rfl
    rw [this]
  | 2, h =>
    cases h
    have f : FineS "b.com" := by unfold FineS; decide
    refine ⟨"b.com", ?_, fine_noDigit f, by decide⟩
    have : reachF "b.com" = "b.com" := by
      have hf := find_at (x := "b.com") (A := [98]) (B := [99, 111, 109]) (by decide) (by decide)
      unfold reachF
      have hs : Txt.slice "b.com" (some (Txt.find "b.com" "." + 1)) none = "com" := by
        rw [hf]; decide
      rw [hs, if_pos (by rw [hf]; decide), find_no (x := "com") (by decide)]
      rfl
    rw [this]
  | 3, h =>
    cases h
    refine ⟨nm 0 ++ ".", by rw [N.reachZ], fine_noDigit fun x hx => ?_, by rw [strLen_append]; lia⟩
    rw [cps_append] at hx
    rcases List.mem_append.mp hx with hx | hx
    · exact N.fine 0 (by lia) x hx
    · have : x = 46 := by simpa [show ("." : Str).cps.toList = [46] from rfl] using hx
      subst this; decide
  | i + 4, h => cases h
section
variable {w : World} {mg mb : Str → Option Value} (g : GA w mg mb)
include g
theorem GA.law7 {n : Nat} {L : Addr} {sv : AV} {a b p q : Addr} {P : AF → St → Prop} {way head : Nat} {bg : Bool} {Uv Tv : AV} {U : Nat → Nat} {t nm : Nat → Str} {M : List (Addr × AO)} (N : Names U t bg nm) (hM : (p, AO.list (nmV nm 6)) ∈ M)
    (k : EX (CA w mg mb) (n + 2) (lawE w L) ⟨lawM2 sv a Uv Tv way head b (grd bg) p q, M⟩ ((lawB w).drop 14) P) :
    EX (CA w mg mb) (n + 2) (lawE w L) ⟨lawM2 sv a Uv Tv way head b (grd bg) p q, M⟩ ((lawB w).drop 13) P := by
  have ok := okA g
  have sl : sizeLine = 16777216 := by decide
  have nl := N.nlen 0 (by lia)
  have gl : (grd bg).length = 5 := by cases bg <;> decide
  have l2 : ("." : Str).length = 1 := rfl
  refine EX.cons ?_
  refine E1_for ok (l := reachL (nm 0) (grd bg)) (fun i S => S = ⟨lawM2 sv a Uv Tv way head b (grd bg) p q, M⟩) (.tuple _ _ _) ?_ ?_ ?_
  · have n0 : ∀ {p1 p2 p3 : Pos} {k0 : Nat}, PE (CA w mg mb) (n + 2) (lawE w L) ⟨lawM2 sv a Uv Tv way head b (grd bg) p q, M⟩ (.Subscript (.Name "names" p1) (.Constant (.int 0) k0 p2) p3) (.str (nm 0)) := PE.sub (PE.name rfl) (PE.int ok) (O.sub_lstM ok (k := ((0 : Nat) : Int)) (c := .str (nm 0)) hM (by decide) (nmV_at (by lia)) (by decide))
    refine PE.then (PE.tuple ok (l := reachL (nm 0) (grd bg)) (PL.cons (PE.tuple ok (PL.cons n0 (PL.cons (PE.bin (PE.str ok) (PE.name rfl) (O.adds ok ?_)) PL.nil)) (by simp only [List.length_cons, List.length_nil]; decide)) (PL.cons (PE.tuple ok (PL.cons (PE.str ok) (PL.cons (PE.str ok) PL.nil)) (by decide)) (PL.cons (PE.tuple ok (PL.cons (PE.str ok) (PL.cons (PE.str ok) PL.nil)) (by decide)) (PL.cons (PE.tuple ok (PL.cons (PE.bin n0 (PE.str ok) (O.adds ok ?_)) (PL.cons (PE.bin n0 (PE.str ok) (O.adds ok ?_)) PL.nil)) (by simp only [List.length_cons, List.length_nil]; decide)) PL.nil)))) (by unfold reachL; simp only [List.length_cons, List.length_nil]; decide)) ⟨Iter.tup ok, rfl⟩
    · lia
    · lia
    · lia
  · rintro i S₁ c hc rfl
    obtain ⟨x, rfl, hx, hz⟩ := reachL_at N hc
    refine TG.pair ok (.inl rfl) (.inl rfl) ?_
    refine EX.cons ?_
    refine E1.ite ?_
    refine (PT.cmp (PE.reach g (n := n) rfl hx hz (PE.name rfl)) (PE.name rfl) (O.nes ok)).then ?_
    rw [if_neg (by simp)]
    refine EX.nil (EX.nil ⟨⟨lawM2 sv a Uv Tv way head b (grd bg) p q, M⟩, Le.pre (μ := lawM2 sv a Uv Tv way head b (grd bg) p q) (ν := [("text", .str x), ("due", .str (reachF x))]), rfl⟩)
  · rintro S₁ rfl
    exact k
end
end Mine
namespace Mine
noncomputable def spanG : AV → Option AV
  | .str x => some (.int (1 + (x.length : Int)))
  | _ => none
noncomputable def spanV (t : Nat → Str) : List AV := (List.range 6).map fun n => .int (1 + ((t n).length : Int))
section
variable {w : World} {mg mb : Str → Option Value} (g : GA w mg mb)
include g
theorem GA.law8 {n : Nat} {L : Addr} {sv : AV} {a b p q : Addr} {P : AF → St → Prop} {way head : Nat} {gr : Str} {Uv : AV} {c1 : Int} {M : List (Addr × AO)}
    (k : EX (CA w mg mb) (n + 2) (lawE w L) ⟨lawM2 sv a Uv (.lst (tailV c1)) way head b gr p q ++ ([("span", .lst (spanV (tailF c1)))] : List (Str × AV)), M⟩ ((lawB w).drop 15) P) :
    EX (CA w mg mb) (n + 2) (lawE w L) ⟨lawM2 sv a Uv (.lst (tailV c1)) way head b gr p q, M⟩ ((lawB w).drop 14) P := by
  have ok := okA g
  have sl : sizeLine = 16777216 := by decide
  refine EX.cons ?_
  refine E1_compUse ok (l := tailV c1) (.name _ _) [] spanG rfl (by decide) rfl (by decide) (by decide) ?_ (by simp [tailV])
  refine PE.then (PE.name rfl) ?_
  refine ⟨Iter.lst ok, fun L' => Cap.nil, fun L' x hx => ?_, ?_⟩
  · obtain ⟨j, hj, rfl⟩ := List.mem_map.mp hx
    refine Step.some ?_
    refine TG.name ok (.inl rfl) ?_
    refine CT.nil ⟨rfl, ?_⟩
    exact PE.then (PE.bin (PE.int ok) (PE.callB (PE.built rfl (g.non _ rfl) ((g.mb _ (by decide)).trans rfl)) (PL.cons (PE.name rfl) PL.nil) (O.len_str ok (by have := tail_len c1 j; lia))) (O.add ok)) ⟨rfl, Le.pre (ν := [("tail", .str (tailF c1 j))])⟩
  · exact k
end
end Mine
namespace Mine
noncomputable def spell (way : Nat) (x : Str) : Str := (⟨(x.cps.toList.flatMap (tabl (handT way))).toArray⟩ : Str)
noncomputable def signG (way : Nat) : AV → Option AV
  | .str x => some (.int (((spell way x).length : Int) - 1))
  | _ => none
noncomputable def priceI (way : Nat) (x : Str) : Int := (x.cps.toList.map fun d => ((tabl (handT way) d).length : Int) - 1).sum
noncomputable def priceG (way : Nat) : AV → Option AV
  | .str x => some (.int (priceI way x))
  | _ => none
theorem priceI_ex (way : Nat) (x : Str) : priceI way x = (ex way x : Int) := by
  unfold priceI ex exL
  generalize x.cps.toList = l
  induction l with
  | nil => rfl
  | cons d l ih =>
    have := (tabl_len way d).1
    rw [List.map_cons, List.sum_cons, ih, List.map_cons, List.sum_cons]; lia
theorem chars_price (way : Nat) (x : Str) : (chars x).filterMap (signG way) = (x.cps.toList.map fun d => ((tabl (handT way) d).length : Int) - 1).map AV.int := by
  unfold chars
  rw [List.filterMap_map, List.map_map]
  generalize x.cps.toList = l
  induction l with
  | nil => rfl
  | cons d l ih =>
    rw [List.filterMap_cons]
    have : (signG way ∘ fun c => AV.str ⟨#[c]⟩) d = some (.int (((tabl (handT way) d).length : Int) - 1)) := by
      show signG way (.str ⟨#[d]⟩) = _
      unfold signG spell
      simp [Str.length]
    rw [this, ih]; rfl
theorem refs_look {way : Nat} (hw : way < 5) {c : Nat} (hc : isSign c = true) : (aget (refsL way) (⟨#[c]⟩ : Str)).getD (.str ⟨#[c]⟩) = .str (spell way ⟨#[c]⟩) := by
  have w5 : way = 0 ∨ way = 1 ∨ way = 2 ∨ way = 3 ∨ way = 4 := or5 _ (by first | assumption | lia)
  unfold isSign at hc
  simp at hc
  rcases w5 with rfl | rfl | rfl | rfl | rfl <;> rcases hc with ((((((rfl | rfl) | rfl) | rfl) | rfl) | rfl) | rfl) <;> rfl
end Mine
namespace Mine
noncomputable def priceV (way : Nat) (t : Nat → Str) : List AV := (List.range 6).map fun n => .int (priceI way (t n))
theorem spell_len (way c : Nat) : (spell way ⟨#[c]⟩).length ≤ 6 := by
  have := (tabl_len way c).2
  unfold spell; simp [Str.length]; exact this
section
variable {w : World} {mg mb : Str → Option Value} (g : GA w mg mb)
include g
theorem GA.law10 {n : Nat} {L : Addr} {sv : AV} {a b p q : Addr} {P : AF → St → Prop} {way head : Nat} {gr : Str} {Uv sp : AV} {c1 : Int} {M : List (Addr × AO)} (hw : way < 5) (hM : (b, AO.sdict (refsL way)) ∈ M)
    (k : EX (CA w mg mb) (n + 2) (lawE w L) ⟨lawM2 sv a Uv (.lst (tailV c1)) way head b gr p q ++ ([("span", sp), ("price", .lst (priceV way (tailF c1)))] : List (Str × AV)), M⟩ ((lawB w).drop 16) P) :
    EX (CA w mg mb) (n + 2) (lawE w L) ⟨lawM2 sv a Uv (.lst (tailV c1)) way head b gr p q ++ ([("span", sp)] : List (Str × AV)), M⟩ ((lawB w).drop 15) P := by
  have ok := okA g
  have sl : sizeLine = 16777216 := by decide
  refine EX.cons ?_
  refine E1.cell ok ?_
  refine EV.comp ok (l := tailV c1) (.name _ _) [("refs", .raw (.ref b))] (priceG way) rfl (by decide) rfl (by decide) (by decide) ?_ (by simp [tailV])
  refine PE.then (PE.name rfl) ?_
  refine ⟨Iter.lst ok, fun L' => Cap.cons rfl rfl (.inl rfl) (.inl rfl) Cap.nil, fun L' x hx => ?_, ?_⟩
  · obtain ⟨j, hj, rfl⟩ := List.mem_map.mp hx
    have hl := tail_len c1 j
    have hs := tail_signs c1 j
    generalize tailF c1 j = x at *
    refine Step.some ?_
    refine TG.name ok (.inl rfl) ?_
    refine CT.nil ⟨rfl, ?_⟩
    refine EV.callB (PE.built rfl (g.non _ rfl) ((g.mb _ (by decide)).trans rfl)) (EL.cons ?_)
    refine EV.comp ok (l := chars x) (.name _ _) [("refs", .raw (.ref b))] (signG way) rfl (by decide) rfl (by decide) (by decide) ?_ (by rw [len_eq] at hl; simp only [chars, List.length_map]; lia)
    refine PE.then (PE.name rfl) ?_
    refine ⟨Iter.str ok, fun L2 => Cap.cons rfl rfl (.inl rfl) (.inl rfl) Cap.nil, fun L2 y hy => ?_, ?_⟩
    · obtain ⟨c, hc, rfl⟩ := List.mem_map.mp hy
      have hcs := hs c hc
      have h6 := spell_len way c
      refine Step.some ?_
      refine TG.name ok (.inl rfl) ?_
      refine CT.nil ⟨rfl, ?_⟩
      refine PE.then (PE.bin (PE.callB (PE.built rfl (g.non _ rfl) ((g.mb _ (by decide)).trans rfl)) (PL.cons (a := .str (spell way ⟨#[c]⟩)) ?_ PL.nil) (O.len_str ok (by lia))) (PE.int ok) (O.sub ok)) ⟨rfl, Le.pre (ν := [("sign", .str ⟨#[c]⟩)])⟩
      refine EV.bmeth PySem.F.slot_dict_get PySem.F.plainAttrs_dict PySem.F.type_dict_get ((PE.name rfl).then ⟨b, rfl, dictOb hM, PL.then (PL.cons (PE.name rfl) (PL.cons (PE.name rfl) PL.nil)) ((O.dget ok (sK _) (x := (⟨#[c]⟩ : Str)) (.inl ⟨_, rfl⟩) hM).mono fun av S' e => ?_)⟩)
      obtain ⟨rfl, rfl⟩ := e
      exact ⟨refs_look hw hcs, rfl⟩
    · refine EL.nil ?_
      rw [chars_price]
      refine ((O.sum_lst ok).mono fun av S' e => ?_)
      obtain ⟨rfl, rfl⟩ := e
      exact ⟨rfl, Le.pre (ν := [("tail", .str x)])⟩
  · have e : (tailV c1).filterMap (priceG way) = priceV way (tailF c1) := rfl
    rw [e]
    exact k
end
end Mine
namespace Mine
theorem bit_int (m u : Nat) : (Builtin.bitAnd (((m : Nat) : Int).fdiv (2 ^ u)) 1 != 0) = bit m u := by
  have e1 : ((m : Int)).fdiv (2 ^ u) = ((m / 2 ^ u : Nat) : Int) := by
    rw [show (2 : Int) ^ u = ((2 ^ u : Nat) : Int) by simp, fdiv_nat]
  rw [e1, bitAnd_pp (Int.natCast_nonneg _) (by lia), Int.toNat_natCast, show ((1 : Int)).toNat = 1 from rfl, Nat.and_one_is_mod]
  unfold bit
  have h : m / 2 ^ u % 2 = 0 ∨ m / 2 ^ u % 2 = 1 := by lia
  rcases h with h | h <;> rw [h] <;> rfl
noncomputable def intV (l : List Nat) : List AV := l.map fun m => .int (m : Nat)
noncomputable def cloI (U : Nat → Nat) (i : Nat) : List Nat := (List.range i).foldl (cstep U) [0]
theorem cloI_succ (U : Nat → Nat) (i : Nat) : cloI U (i + 1) = cstep U (cloI U i) i := by unfold cloI; rw [List.range_succ, List.foldl_append]; rfl
theorem cloI_len (U : Nat → Nat) : ∀ i, (cloI U i).length ≤ 2 ^ i
  | 0 => by simp [cloI]
  | i + 1 => by
    have ih := cloI_len U i
    rw [cloI_succ]; unfold cstep
    rw [List.length_append, List.length_map, Nat.pow_succ]
    have := List.length_filter_le (fun m => i == 0 || bit m (U i)) (cloI U i)
    lia
noncomputable def cloG (U : Nat → Nat) (n : Nat) : AV → Option AV
  | .int m => if (n == 0 || bit m.toNat (U n)) = true then some (.int ((m.toNat + 2 ^ n : Nat))) else none
  | _ => none
theorem cloG_some {U : Nat → Nat} {n m : Nat} (h : (n == 0 || bit m (U n)) = true) : cloG U n (.int (m : Nat)) = some (.int ((m + 2 ^ n : Nat))) := by
  show (if (n == 0 || bit (m : Int).toNat (U n)) = true then some (AV.int (((m : Int).toNat + 2 ^ n : Nat))) else none) = _
  rw [Int.toNat_natCast, if_pos h]
theorem cloG_none {U : Nat → Nat} {n m : Nat} (h : ¬(n == 0 || bit m (U n)) = true) : cloG U n (.int (m : Nat)) = none := by
  show (if (n == 0 || bit (m : Int).toNat (U n)) = true then some (AV.int (((m : Int).toNat + 2 ^ n : Nat))) else none) = _
  rw [Int.toNat_natCast, if_neg h]
theorem cloG_map (U : Nat → Nat) (n : Nat) (l : List Nat) : (intV l).filterMap (cloG U n) = intV ((l.filter fun m => n == 0 || bit m (U n)).map (· + 2 ^ n)) := by
  unfold intV
  induction l with
  | nil => rfl
  | cons m l ih =>
    rw [List.map_cons, List.filterMap_cons, List.filter_cons]
    by_cases h : (n == 0 || bit m (U n)) = true
    · rw [cloG_some h, if_pos h, List.map_cons, List.map_cons, ← ih]
    · rw [cloG_none h, if_neg h]
      exact ih
section
variable {w : World} {mg mb : Str → Option Value} (g : GA w mg mb)
include g
theorem GA.law11 {n : Nat} {L : Addr} {sv : AV} {a b p q : Addr} {P : AF → St → Prop} {way head : Nat} {gr : Str} {T sp pr : AV} {M : List (Addr × AO)} {ua ub uc ud : Nat} (hup : ∀ j, 0 < j → j < 6 → ul ua ub uc ud j < j)
    (k : EX (CA w mg mb) (n + 2) (lawE w L) ⟨lawM2 sv a (.tup (upV ua ub uc ud)) T way head b gr p q ++ ([("span", sp), ("price", pr), ("closed", .lst (intV (clo (ul ua ub uc ud))))] : List (Str × AV)), M⟩ ((lawB w).drop 18) P) :
    EX (CA w mg mb) (n + 2) (lawE w L) ⟨lawM2 sv a (.tup (upV ua ub uc ud)) T way head b gr p q ++ ([("span", sp), ("price", pr)] : List (Str × AV)), M⟩ ((lawB w).drop 16) P := by
  have ok := okA g
  have sl : sizeLine = 16777216 := by decide
  generalize hU : ul ua ub uc ud = U at *
  refine EX.cons ?_
  refine E1.loc ok ?_
  refine PE.then (PE.list ok (PL.cons (PE.int ok) PL.nil) (by simp only [List.length_cons, List.length_nil]; decide)) ?_
  refine EX.cons ?_
  refine E1_for ok (l := upto 0 6) (fun i S => S = ⟨lawM2 sv a (.tup (upV ua ub uc ud)) T way head b gr p q ++ ([("span", sp), ("price", pr), ("closed", .lst (intV (cloI U i)))] : List (Str × AV)), M⟩) (.name _ _) ?_ ?_ ?_
  · exact PE.then (PE.callT1 (PE.built rfl (g.non _ rfl) ((g.mb _ (by decide)).trans rfl)) (PE.int ok) (O.range1 ok)) ⟨Iter.rng ok rfl, rfl⟩
  · rintro i S₁ x hx rfl
    obtain ⟨rfl, hi⟩ := upto_at hx
    have hi : i < 6 := by lia
    have ei : (0 : Int) + (i : Int) = (i : Int) := by lia
    rw [ei]
    have hl := cloI_len U i
    have hp6 : 2 ^ i ≤ 32 := by
      have : i = 0 ∨ i = 1 ∨ i = 2 ∨ i = 3 ∨ i = 4 ∨ i = 5 := or6 _ (by first | assumption | lia)
      rcases this with rfl | rfl | rfl | rfl | rfl | rfl <;> decide
    have hupV := upV_at (a := ua) (b := ub) (c := uc) (d := ud) hi
    rw [hU] at hupV
    refine TG.cell ok ?_
    refine EX.cons ?_
    refine E1.loc ok ?_
    refine EV.bin ?_
    refine PE.then (PE.name rfl) ?_
    refine EV.comp ok (l := intV (cloI U i)) (.name _ _) [("n", .int (i : Nat)), ("up", .tup (upV ua ub uc ud))] (cloG U i) rfl (by decide) rfl (by decide) (by decide) ?_ (by simp only [intV, List.length_map]; lia)
    refine PE.then (PE.name rfl) ?_
    refine ⟨Iter.lst ok, fun L' => Cap.cons rfl rfl (.inl rfl) (.inl rfl) (Cap.cons rfl rfl (.inl rfl) (.inl rfl) Cap.nil), fun L' y hy => ?_, ?_⟩
    · obtain ⟨m, hm, rfl⟩ := List.mem_map.mp hy
      have hb : (((i : Int) == 0) || (Builtin.bitAnd (((m : Nat) : Int).fdiv (2 ^ ((U i : Nat) : Int).toNat)) 1 != 0)) = (i == 0 || bit m (U i)) := by
        rw [Int.toNat_natCast, bit_int]
        congr 1
        by_cases e : i = 0
        · subst e; rfl
        · rw [beq_eq_false_iff_ne.mpr e, beq_eq_false_iff_ne]; lia
      unfold Step
      refine TG.name ok (.inl rfl) ?_
      refine CT.one ((PT.cast (PT.or2 (PT.cmp (PE.name rfl) (PE.int ok) (O.eq ok)) (fun _ => PT.val (PE.bin (PE.bin (PE.name rfl) (PE.sub (PE.name rfl) (PE.name rfl) (O.sub_tup ok (j := i) (c := .int (U i : Nat)) ?_ hupV (by lia) (by lia))) (O.shr ok (by lia))) (PE.int ok) (O.and ok)) (T1.int ok))) hb).then ?_)
      · rw [show (upV ua ub uc ud).length = 6 from rfl, seqIndex_of (by lia) (by lia)]; simp
      by_cases h : (i == 0 || bit m (U i)) = true
      · rw [cloG_some h]
        refine ⟨h, ?_⟩
        refine PE.then (PE.cast (PE.bin (PE.name rfl) (PE.bin (PE.int ok) (PE.name rfl) (O.shl ok (by lia) (by lia) (by decide))) (O.add ok)) ?_) ⟨rfl, Le.pre (ν := [("mask", .int (m : Nat))])⟩
        · rw [Int.toNat_natCast]; congr 1; simp
      · rw [cloG_none h]
        exact ⟨by simpa using h, Le.pre (ν := [("mask", .int (m : Nat))])⟩
    · rw [cloG_map]
      have hlf := List.length_filter_le (fun m => i == 0 || bit m (U i)) (cloI U i)
      refine G2.mono (O.addl ok (by simp only [intV, List.length_map]; lia)) ?_
      rintro av S' ⟨rfl, rfl⟩
      have e : intV (cloI U i) ++ intV (((cloI U i).filter fun m => i == 0 || bit m (U i)).map (· + 2 ^ i)) = intV (cloI U (i + 1)) := by
        rw [cloI_succ]; unfold intV cstep; rw [List.map_append]
      rw [e]
      refine EX.nil ⟨⟨lawM2 sv a (.tup (upV ua ub uc ud)) T way head b gr p q ++ ([("span", sp), ("price", pr), ("closed", .lst (intV (cloI U (i + 1))))] : List (Str × AV)), M⟩, Le.pre (μ := lawM2 sv a (.tup (upV ua ub uc ud)) T way head b gr p q ++ ([("span", sp), ("price", pr), ("closed", .lst (intV (cloI U (i + 1))))] : List (Str × AV))) (ν := [("n", .int (i : Nat))]), rfl⟩
  · rintro S₁ rfl
    exact k
end
end Mine
end
section
open PySem PySem.W PySem.Calls PyProof.Rows
namespace Mine
section
variable {C : Cx} (ok : C.Ok) {n : Nat} {env : Env} {S : St}
include ok
theorem O.min_lst {ns : List Int} {v : Int} (hv : v ∈ ns) (hm : ∀ x ∈ ns, v ≤ x) : PN C n env S (fun vs => call (.builtin "min") vs) [.lst (ns.map .int)] (.int v) := .of ok fun A X s vs Q ha _ r lt _ q => by
  refine VRs.el_cons r fun _ _ r rs => ?_
  ·
    refine VRs.el_nil rs ?_
    refine VR.el_lst r fun _ _ _ e nx rs => ?_
    ·
      rename_i b ws kk
      obtain ⟨ps, rfl, e2⟩ := VRs_ints rs
      have hl : s.heap.IsList b (intItems ps.toArray) := by
        have := isList_of e
        rw [show intItems ps.toArray = (ps.map fun p => Value.int p.1 p.2).toArray by simp [intItems]]; exact this
      have hne : 0 < ps.toArray.size := by
        have := List.length_pos_of_mem hv
        rw [← e2] at this; simpa using this
      refine min_intList ha.handled hl hne fun u h' tk hu hk => ?_
      obtain ⟨t, rfl⟩ := intItems_at hu
      obtain ⟨h1, h2⟩ := argBest_lt (numAt ps.toArray) (ps.toArray.size - 1)
      have g1 : numAt ps.toArray (argBest (fun i j => decide (numAt ps.toArray i < numAt ps.toArray j)) (ps.toArray.size - 1)) ∈ ns := by
        rw [← e2, numAt_eq]; exact getD_mem (by have h3 : ps.toArray.size = ps.length := by simp
                                                rw [List.length_map]; lia)
      have g2 : ∀ a ∈ ns, numAt ps.toArray (argBest (fun i j => decide (numAt ps.toArray i < numAt ps.toArray j)) (ps.toArray.size - 1)) ≤ a := fun a ha => by
        rw [← e2] at ha
        obtain ⟨j, hj, rfl⟩ := mem_getD ha
        rw [List.length_map] at hj
        have h3 := h2 j (by simp; lia)
        have h4 : numAt ps.toArray j = (ps.map (·.1)).getD j 0 := by rw [numAt_eq]
        lia
      have ev : numAt ps.toArray (argBest (fun i j => decide (numAt ps.toArray i < numAt ps.toArray j)) (ps.toArray.size - 1)) = v := Int.le_antisymm (g2 v hv) (hm _ g1)
      rw [ev]
      exact q _ _ ⟨.of_keeps hk, rfl, rfl, id⟩ (.int ..)
end
end Mine
end
section
open PySem PySem.W PySem.Calls PyProof.Rows
set_option tactic.hygienic false
namespace Mine
section
variable {C : Cx} (ok : C.Ok) {n : Nat} {env : Env} {S : St}
include ok
theorem EV.dict1 {i j : Int} {k0 k1 : Nat} {p0 p1 pos : Pos} {P : AV → St → Prop} (h : ∀ a, P (.raw (.ref a)) ⟨S.μ, S.M ++ [(a, .idict [(i, .int j)])]⟩) : EV C n env S (.Dict [some (.Constant (.int i) k0 p0)] [.Constant (.int j) k1 p1] pos) P := fun A Y s₀ D s Q ha R q => by
  refine wpAny_Dict_pairs (knd := PySem.intKind C.prog C.w) (pairs := [(eval (.Constant (.int i) k0 p0) env, do let x ← eval (.Constant (.int j) k1 p1) env; standAt pos; pure x)]) rfl (by simp) (by simp) ?_
  refine evalPairs_cons (wpAny_Constant_int (wpAny_bind (wpAny_Constant_int (wpAny_bind (wpAny_standAt (wpAny_pure (evalPairs_nil ?_)))))))
  refine ⟨[(i, .int j (s.toks + 1))], ⟨intKind_is _ _ _ _, rfl, trivial⟩, Heap.DictOf.new s.heap, fun h' e hb => ?_⟩
  have st : SStp C.T [] s { s with heap := h', toks := s.toks + 1 + 1 + 1 } := ⟨.of_keeps fun a o e => hb.extBut a o (Nat.ne_of_lt (Heap.lt_size e)) (Heap.get?_push_of_some _ e), rfl, rfl, id⟩
  have hr : PRs s.heap (Xo C Y env S) [(i, Value.int j (s.toks + 1))] [(i, AV.int j)] := .cons (.int ..) .nil
  obtain ⟨R', K'⟩ := Rel.newDict ok (iK C) R (a := s.heap.objs.size) (new_none _) (s' := { s with heap := h', toks := s.toks + 1 + 1 + 1 }) e st hr
  exact q _ _ _ _ (h _) R' K' (.raw _)
end
end Mine
namespace Mine
section
variable {w : World} {mg mb : Str → Option Value} (g : GA w mg mb)
include g
theorem GA.law12 {n : Nat} {L : Addr} {sv : AV} {a b p q : Addr} {P : AF → St → Prop} {way head : Nat} {gr : Str} {U T sp pr cl : AV} {M : List (Addr × AO)}
    (k : ∀ zs zb, EX (CA w mg mb) (n + 2) (lawE w L) ⟨lawM2 sv a U T way head b gr p q ++ ([("span", sp), ("price", pr), ("closed", cl), ("size", .raw (.ref zs)), ("best", .raw (.ref zb))] : List (Str × AV)), M ++ [(zs, .idict [(0, .int 0)]), (zb, .idict [(0, .int 0)])]⟩ ((lawB w).drop 20) P) :
    EX (CA w mg mb) (n + 2) (lawE w L) ⟨lawM2 sv a U T way head b gr p q ++ ([("span", sp), ("price", pr), ("closed", cl)] : List (Str × AV)), M⟩ ((lawB w).drop 18) P := by
  have ok := okA g
  refine EX.cons ?_
  refine E1.cell ok ?_ (hs := by kernel_rfl)
  refine EV.dict1 ok ?_
  intro zs
  refine EX.cons ?_
  refine E1.cell ok ?_ (hs := by kernel_rfl)
  refine EV.dict1 ok ?_
  intro zb
  have e : (M ++ [(zs, AO.idict [(0, .int 0)])]) ++ [(zb, AO.idict [(0, .int 0)])] = M ++ [(zs, .idict [(0, .int 0)]), (zb, .idict [(0, .int 0)])] := by simp
  rw [e]
  exact k zs zb
end
end Mine
end
section
open PySem PySem.W PySem.Calls PyProof.Rows
namespace Mine
section
variable {C : Cx} (ok : C.Ok) {n : Nat} {env : Env} {S : St}
include ok
theorem PE.lslice {o lo : Expr} {l : List AV} {i : Nat} {ps pos : Pos} (ho : PE C n env S o (.lst l)) (hi : PE C n env S lo (.int i)) (hil : i ≤ l.length) (hz : l.length ≤ 1000)
    (hs : ∀ t u, subscripted (.Slice (some lo) none none ps) false (.ref t) u = operate [u, .ref t] (getItem (.ref t) u) := by intros; with_unfolding_all rfl) :
    PE C n env S (.Subscript o (.Slice (some lo) none none ps) pos) (.lst (l.drop i)) := fun A Y s₀ D s Q ha R q => by
  have sl : sizeLine = 16777216 := by decide
  refine Subscript_ (ho A Y s₀ D s _ ha R fun v s₁ a₁ S₁ p₁ R₁ K₁ r₁ => ?_)
  obtain ⟨rfl, rfl⟩ := p₁
  refine wpAny_Slice ?_
  rw [evalPart_some]
  refine hi A Y s₀ D s₁ _ ha R₁ fun v s₂ a₂ S₂ p₂ R₂ K₂ r₂ => ?_
  obtain ⟨rfl, rfl⟩ := p₂
  refine VR.el_int r₂ fun u => ?_
  ·
    rw [evalPart_none]
    refine wpAny_pure (wpAny_pure ?_)
    have st := SStp.alloc C.T s₂ { cls := .type "slice", data := .fields #[.int i u, .none, .none] }
    have R₃ := R₂.go ok st
    have r₃ := (K₂.trans (Kp.go R₂ st)) _ _ r₁
    refine VR.el_lst r₃ fun _ _ _ e nx rs => ?_
    ·
      rename_i b vs kk
      have hlen : vs.length = l.length := rs.length
      refine tail_any (isList_of e).typeIs slot_list_getitem.lookup (wpAny_getItem_list_slice (isList_of e) (Heap.IsSliceOf.new ..) (.int _ _) .none .none (by simp) ?_ (by rw [List.size_toArray]; lia)) (hs _ _)
      rw [slicePick_from _ i (by rw [List.size_toArray]; lia)]
      have x := SStp.alloc C.T { s₂ with heap := s₂.heap.push { cls := .type "slice", data := .fields #[.int i u, .none, .none] } } { cls := .type "list", data := .seq (vs.drop i).toArray }
      refine q _ _ _ S₂ ⟨rfl, rfl⟩ (R₃.go ok x) ((K₁.trans K₂).trans (Kp.go R₂ (st.trans0 x))) (.lst (Heap.get?_push_size _ rfl) (fun h => (R₃.live h).ne (new_none _) rfl) ?_)
      exact VRs.stp (Stp.push C.T ..) (fun _ h => nomatch h) R₃.hT (VRs.drop i rs)
end
end Mine
end
section
open PySem PySem.W PySem.Calls PyProof.Rows
set_option tactic.hygienic false
namespace Mine
noncomputable def dtab (E : List Nat) (f : Nat → Nat) : List (Int × AV) := E.map fun m : Nat => ((m : Int), .int ((f m : Nat) : Int))
theorem dtab_get {E : List Nat} {f : Nat → Nat} {m : Nat} (h : m ∈ E) : aget (dtab E f) (m : Int) = some (.int ((f m : Nat) : Int)) := by
  unfold aget dtab
  induction E with
  | nil => cases h
  | cons x E ih =>
    rw [List.map_cons, List.find?_cons]
    by_cases e : x = m
    · subst e; simp
    · have hm : m ∈ E := by rcases List.mem_cons.mp h with q | q; exact absurd q.symm e; exact q
      have : decide (((x : Nat) : Int) = (m : Int)) = false := decide_eq_false (by lia)
      rw [show (decide ((((x : Int)), AV.int ((f x : Nat) : Int)).1 = (m : Int))) = false from this]
      exact ih hm
theorem dtab_none {E : List Nat} {f : Nat → Nat} {m : Nat} (h : m ∉ E) : aget (dtab E f) (m : Int) = none := by
  unfold aget dtab
  induction E with
  | nil => rfl
  | cons x E ih =>
    rw [List.map_cons, List.find?_cons]
    have e : ¬ x = m := fun e => h (by rw [e]; exact List.mem_cons_self ..)
    have : decide (((x : Nat) : Int) = (m : Int)) = false := decide_eq_false (by lia)
    rw [show (decide ((((x : Int)), AV.int ((f x : Nat) : Int)).1 = (m : Int))) = false from this]
    exact ih fun q => h (List.mem_cons_of_mem _ q)
theorem dtab_has {E : List Nat} {f : Nat → Nat} {m : Nat} : (aget (dtab E f) (m : Int)).isSome = decide (m ∈ E) := by
  by_cases h : m ∈ E
  · rw [dtab_get h, decide_eq_true h]; rfl
  · rw [dtab_none h, decide_eq_false h]; rfl
theorem dtab_set {E : List Nat} {f f' : Nat → Nat} {m v : Nat} (h : m ∉ E) (h1 : ∀ x ∈ E, f' x = f x) (h2 : f' m = v) : aset (dtab E f) (m : Int) (.int (v : Nat)) = dtab (E ++ [m]) f' := by
  have e1 : ((dtab E f).any fun kv => decide (kv.1 = (m : Int))) = false := by
    rw [Bool.eq_false_iff]
    intro q
    obtain ⟨x, hx, e⟩ := List.any_eq_true.mp q
    obtain ⟨y, hy, rfl⟩ := List.mem_map.mp hx
    have e : ((y : Nat) : Int) = (m : Int) := of_decide_eq_true e
    have : y = m := by lia
    exact h (this ▸ hy)
  unfold aset
  rw [e1, if_neg (by simp)]
  unfold dtab
  rw [List.map_append, List.map_cons, List.map_nil, h2]
  congr 1
  exact List.map_congr_left fun x hx => by rw [h1 x hx]
noncomputable def lastG (E : List Nat) (m : Nat) : AV → Option AV
  | .int n => if (bit m n.toNat && decide (m - 2 ^ n.toNat ∈ E)) = true then some (.int (n.toNat : Nat)) else none
  | _ => none
theorem lastG_at (E : List Nat) (m n : Nat) : lastG E m (.int (n : Nat)) = if (bit m n && decide (m - 2 ^ n ∈ E)) = true then some (.int (n : Nat)) else none := by
  show (if (bit m (n : Int).toNat && decide (m - 2 ^ (n : Int).toNat ∈ E)) = true then some (AV.int (((n : Int).toNat : Nat))) else none) = _
  rw [Int.toNat_natCast]
theorem upto6 : upto 0 6 = intV (List.range 6) := rfl
theorem lastG_map (E : List Nat) (m : Nat) : (upto 0 6).filterMap (lastG E m) = intV (lasts E m) := by
  rw [upto6]
  unfold intV lasts
  generalize List.range 6 = l
  induction l with
  | nil => rfl
  | cons n l ih =>
    rw [List.map_cons, List.filterMap_cons, List.filter_cons, lastG_at]
    by_cases h : (bit m n && decide (m - 2 ^ n ∈ E)) = true
    · rw [if_pos h, if_pos h, List.map_cons, ← ih]
    · rw [if_neg h, if_neg h]; exact ih
noncomputable def bestG (B pr : Nat → Nat) (m hs : Nat) : AV → Option AV
  | .int n => some (.int ((B (m - 2 ^ n.toNat) + pr n.toNat * hs : Nat)))
  | _ => none
theorem bestG_at (B pr : Nat → Nat) (m hs n : Nat) : bestG B pr m hs (.int (n : Nat)) = some (.int ((B (m - 2 ^ n) + pr n * hs : Nat))) := by
  show some (AV.int ((B (m - 2 ^ (n : Int).toNat) + pr (n : Int).toNat * hs : Nat))) = _
  rw [Int.toNat_natCast]
theorem bestG_map (B pr : Nat → Nat) (m hs : Nat) (l : List Nat) : (intV l).filterMap (bestG B pr m hs) = (l.map fun n => (((B (m - 2 ^ n) + pr n * hs : Nat)) : Int)).map AV.int := by
  unfold intV
  induction l with
  | nil => rfl
  | cons n l ih =>
    rw [List.map_cons, List.filterMap_cons, List.map_cons, List.map_cons, ← ih, bestG_at]
theorem least_of (f : Nat → Nat) : ∀ l : List Nat, l ≠ [] → ∃ n ∈ l, ∀ k ∈ l, f n ≤ f k
  | [], h => absurd rfl h
  | [n], _ => ⟨n, by simp, fun k hk => by rw [List.mem_singleton.mp hk]; exact Nat.le_refl _⟩
  | n :: k :: l, _ => by
    obtain ⟨i, hi, h⟩ := least_of f (k :: l) (by simp)
    by_cases e : f n ≤ f i
    · refine ⟨n, by simp, fun x hx => ?_⟩
      rcases List.mem_cons.mp hx with rfl | hx
      · exact Nat.le_refl _
      · exact Nat.le_trans e (h x hx)
    · refine ⟨i, List.mem_cons_of_mem _ hi, fun x hx => ?_⟩
      rcases List.mem_cons.mp hx with rfl | hx
      · lia
      · exact h x hx
theorem Clo.new {U : Nat → Nat} {C : List Nat} (c : Clo U C) {k m : Nat} (hk : C[k]? = some m) : m ∉ C.take k := fun h => by
  have nd := c.nd.sublist (List.take_sublist (k + 1) C)
  rw [show C.take (k + 1) = C.take k ++ [m] by rw [List.take_add_one, hk]; rfl] at nd
  exact (List.nodup_append.mp nd).2.2 m h m (by simp) rfl
theorem clo_len (U : Nat → Nat) : (clo U).length ≤ 64 := cloI_len U 6
theorem sub_pow {m n : Nat} (h : 2 ^ n ≤ m) : ((m : Int) - 1 * 2 ^ ((n : Nat) : Int).toNat) = ((m - 2 ^ n : Nat) : Int) := by
  rw [Int.toNat_natCast, Int.one_mul, Int.natCast_sub h]; simp
noncomputable def spanN (t : Nat → Str) (n : Nat) : Nat := 1 + (t n).length
theorem spanV_at {t : Nat → Str} {j : Nat} (h : j < 6) : (spanV t)[j]? = some (.int ((spanN t j : Nat) : Int)) := by
  unfold spanV; rw [List.getElem?_map, List.getElem?_range h]
  show some (AV.int (1 + ((t j).length : Int))) = _
  unfold spanN; simp
noncomputable def priceN (way : Nat) (t : Nat → Str) (n : Nat) : Nat := ex way (t n)
theorem priceV_at {way : Nat} {t : Nat → Str} {j : Nat} (h : j < 6) : (priceV way t)[j]? = some (.int ((priceN way t j : Nat) : Int)) := by
  unfold priceV; rw [List.getElem?_map, List.getElem?_range h]
  show some (AV.int (priceI way (t j))) = _
  rw [priceI_ex]; rfl
section
variable {w : World} {mg mb : Str → Option Value} (g : GA w mg mb)
include g
theorem GA.law13 {n : Nat} {L : Addr} {sv : AV} {a b p q zs zb : Addr} {P : AF → St → Prop} {way head : Nat} {gr : Str} {Uv : AV} {c1 : Int} {U : Nat → Nat} {M : List (Addr × AO)} (hh : head < 4) (cl : Clo U (clo U)) (hup : ∀ j, 0 < j → j < 6 → U j < j)
    (k : ∀ B, DP (spanN (tailF c1)) (priceN way (tailF c1)) U head (clo U) B → EX (CA w mg mb) (n + 2) (lawE w L) ⟨lawM2 sv a Uv (.lst (tailV c1)) way head b gr p q ++ ([("span", .lst (spanV (tailF c1))), ("price", .lst (priceV way (tailF c1))), ("closed", .lst (intV (clo U))), ("size", .raw (.ref zs)), ("best", .raw (.ref zb))] : List (Str × AV)), M ++ [(zs, .idict (dtab (clo U) (sizeF (spanN (tailF c1))))), (zb, .idict (dtab (clo U) B))]⟩ ((lawB w).drop 21) P) :
    EX (CA w mg mb) (n + 2) (lawE w L) ⟨lawM2 sv a Uv (.lst (tailV c1)) way head b gr p q ++ ([("span", .lst (spanV (tailF c1))), ("price", .lst (priceV way (tailF c1))), ("closed", .lst (intV (clo U))), ("size", .raw (.ref zs)), ("best", .raw (.ref zb))] : List (Str × AV)), M ++ [(zs, .idict [(0, .int 0)]), (zb, .idict [(0, .int 0)])]⟩ ((lawB w).drop 20) P := by
  have ok := okA g
  have sl : sizeLine = 16777216 := by decide
  have cll := clo_len U
  have tl : ∀ j, (tailF c1 j).length ≤ 2 := tail_len c1
  have prl : ∀ j, priceN way (tailF c1) j ≤ 10 := fun j => by have := ex_le way (tailF c1 j); have := tl j; unfold priceN; lia
  generalize hC : clo U = C at *
  have spv : ∀ {j}, j < 6 → (spanV (tailF c1))[j]? = some (.int ((spanN (tailF c1) j : Nat) : Int)) := fun h => spanV_at h
  have prv : ∀ {j}, j < 6 → (priceV way (tailF c1))[j]? = some (.int ((priceN way (tailF c1) j : Nat) : Int)) := fun h => priceV_at h
  generalize spanV (tailF c1) = sv1 at *
  generalize priceV way (tailF c1) = pv1 at *
  generalize spanN (tailF c1) = sp at *
  generalize priceN way (tailF c1) = pr at *
  have hc0 : C.take 1 = [0] := by
    have h := cl.zero
    cases C with
    | nil => cases h
    | cons x C => simp at h; simp [h]
  have get0 : ∀ x y : Addr × AO, (M ++ [x, y])[M.length]? = some x := fun x y => by simp
  have get1 : ∀ x y : Addr × AO, (M ++ [x, y])[M.length + 1]? = some y := fun x y => by simp
  have set0 : ∀ x y z : Addr × AO, (M ++ [x, y]).set M.length z = M ++ [z, y] := fun x y z => by simp
  have set1 : ∀ x y z : Addr × AO, (M ++ [x, y]).set (M.length + 1) z = M ++ [x, z] := fun x y z => by simp
  generalize hμ : lawM2 sv a Uv (.lst (tailV c1)) way head b gr p q ++ ([("span", .lst sv1), ("price", .lst pv1), ("closed", .lst (intV C)), ("size", .raw (.ref zs)), ("best", .raw (.ref zb))] : List (Str × AV)) = μ0 at *
  refine EX.cons ?_
  refine E1_for ok (l := (intV C).drop 1) (fun k S => ∃ B, DP sp pr U head (C.take (k + 1)) B ∧ S = ⟨μ0, M ++ [(zs, .idict (dtab (C.take (k + 1)) (sizeF sp))), (zb, .idict (dtab (C.take (k + 1)) B))]⟩) (.name _ _) ?_ ?_ ?_
  · refine PE.then (PE.lslice ok (l := intV C) (i := 1) (PE.name (by subst hμ; rfl)) (PE.int ok) ?_ ?_) ⟨Iter.lst ok, fun _ => 0, ?_, ?_⟩
    · have := congrArg List.length hc0; simp only [List.length_take, List.length_cons, List.length_nil] at this; simp only [intV, List.length_map]; lia
    · simp only [intV, List.length_map]; lia
    · rw [hc0]; exact DP.init
    · rw [hc0]
      have e0 : sizeF sp 0 = 0 := by unfold sizeF bit; simp; rfl
      unfold dtab; rw [List.map_cons, List.map_cons, e0]; rfl
  · rintro i S₁ x hx ⟨B, d, rfl⟩
    rw [List.getElem?_drop] at hx
    obtain ⟨m, hm, rfl⟩ : ∃ m : Nat, C[1 + i]? = some m ∧ x = .int (m : Nat) := by
      unfold intV at hx
      rw [List.getElem?_map] at hx
      obtain ⟨m, h1, h2⟩ := Option.map_eq_some_iff.mp hx
      exact ⟨m, h1, h2.symm⟩
    rw [Nat.add_comm 1 i] at hm
    have m64 := cl.lt m (List.mem_of_getElem? hm)
    have hel := cl.new hm
    have lne := lasts_ne cl hm (by lia)
    have dst := fun v => DP.step (v := v) cl hup d hm (by lia)
    have hE : (C.take (i + 1)).length ≤ 64 := by rw [List.length_take]; lia
    have hEs : C.take (i + 1 + 1) = C.take (i + 1) ++ [m] := by rw [List.take_add_one, hm]; rfl
    rw [hEs] at dst ⊢
    generalize C.take (i + 1) = E at *
    have lmem : ∀ {j}, j ∈ lasts E m → j < 6 ∧ bit m j = true ∧ m - 2 ^ j ∈ E ∧ 2 ^ j ≤ m := fun {j} h => by
      obtain ⟨h1, h2⟩ := List.mem_filter.mp h
      rw [Bool.and_eq_true, decide_eq_true_eq] at h2
      exact ⟨List.mem_range.mp h1, h2.1, h2.2, (bit_sub m m64 j (List.mem_range.mp h1) h2.1).1⟩
    have lname : ∀ {x : Str} {v : AV}, μ0.lookup x = some v → x ≠ "mask" → x ≠ "lasts" → ∀ y, (ins "lasts" y (ins "mask" (.int (m : Nat)) μ0)).lookup x = some v := fun h h1 h2 y => by
      rw [lookup_ins, if_neg h2, lookup_ins, if_neg h1]; exact h
    have lmask : ∀ y, (ins "lasts" y (ins "mask" (.int (m : Nat)) μ0)).lookup ("mask" : Str) = some (.int (m : Nat)) := fun y => by
      rw [lookup_ins, if_neg (by decide), lookup_ins, if_pos rfl]
    have llast : ∀ y, (ins "lasts" y (ins "mask" (.int (m : Nat)) μ0)).lookup ("lasts" : Str) = some y := fun y => by
      rw [lookup_ins, if_pos rfl]
    have nbest : μ0.lookup ("best" : Str) = some (.raw (.ref zb)) := by subst hμ; rfl
    have nsize : μ0.lookup ("size" : Str) = some (.raw (.ref zs)) := by subst hμ; rfl
    have nspan : μ0.lookup ("span" : Str) = some (.lst sv1) := by subst hμ; rfl
    have nprice : μ0.lookup ("price" : Str) = some (.lst pv1) := by subst hμ; rfl
    have nhead : μ0.lookup ("head" : Str) = some (.int head) := by subst hμ; rfl
    refine TG.cell ok ?_
    refine EX.cons ?_
    refine E1_compUse ok (l := upto 0 6) (.name _ _) [("best", .raw (.ref zb)), ("mask", .int (m : Nat))] (lastG E m) rfl (by decide) rfl (by decide) (by decide) ?_ (by decide)
    refine PE.then (PE.callT1 (PE.built rfl (g.non _ rfl) ((g.mb _ (by decide)).trans rfl)) (PE.int ok) (O.range1 ok)) ?_
    refine ⟨Iter.rng ok rfl, fun L' => Cap.cons (by show (ins "mask" (.int (m : Nat)) μ0).lookup ("best" : Str) = _; rw [lookup_ins, if_neg (by decide)]; exact nbest) rfl (.inl rfl) (.inl rfl) (Cap.cons (by show (ins "mask" (.int (m : Nat)) μ0).lookup ("mask" : Str) = _; rw [lookup_ins, if_pos rfl]) rfl (.inl rfl) (.inl rfl) Cap.nil), fun L' y hy => ?_, ?_⟩
    · rw [upto6] at hy
      obtain ⟨j, hj, rfl⟩ := List.mem_map.mp hy
      have hj6 := List.mem_range.mp hj
      have hb : (Builtin.bitAnd (((m : Nat) : Int).fdiv (2 ^ ((j : Nat) : Int).toNat)) 1 != 0) = bit m j := by
        rw [Int.toNat_natCast, bit_int]
      unfold Step
      refine TG.name ok (.inl rfl) ?_
      refine CT.one ((PT.and2 (a := bit m j) (b := decide (m - 2 ^ j ∈ E)) (PT.cast (PT.val (PE.bin (PE.bin (PE.name rfl) (PE.name rfl) (O.shr ok (by lia))) (PE.int ok) (O.and ok)) (T1.int ok)) hb) (fun hbit => PT.cast (PT.cmp (PE.cast (PE.bin (PE.name rfl) (PE.bin (PE.int ok) (PE.name rfl) (O.shl ok (by lia) (by lia) (by decide))) (O.sub ok)) (congrArg AV.int (sub_pow (bit_sub m m64 j hj6 hbit).1))) (PE.name rfl) (O.din ok (iK _) (l := dtab E B) (.inl ⟨_, rfl⟩) (by simp [iK]))) dtab_has)).then ?_)
      rw [lastG_at]
      by_cases h : (bit m j && decide (m - 2 ^ j ∈ E)) = true
      · rw [if_pos h]
        refine ⟨h, ?_⟩
        exact PE.then (PE.name rfl) ⟨rfl, Le.pre (ν := [("n", .int (j : Nat))])⟩
      · rw [if_neg h]
        exact ⟨by simpa using h, Le.pre (ν := [("n", .int (j : Nat))])⟩
    rw [lastG_map]
    obtain ⟨n0, r, hl⟩ := List.exists_cons_of_ne_nil lne
    obtain ⟨h6, hb0, hE0, hle⟩ := lmem (j := n0) (by rw [hl]; exact List.mem_cons_self ..)
    have hl0 : (intV (lasts E m))[((0 : Nat) : Int).toNat]? = some (.int (n0 : Nat)) := by rw [hl]; rfl
    have hls : (intV (lasts E m)).length ≤ 6 := by unfold intV lasts; rw [List.length_map]; exact Nat.le_trans (List.length_filter_le ..) (by simp)
    have eqs := sizeF_sub (span := sp) m64 h6 hb0
    generalize hμ1 : ins "lasts" (.lst (intV (lasts E m))) (ins "mask" (.int (m : Nat)) μ0) = μ1 at *
    have n1 : ∀ {x : Str} {v : AV}, μ0.lookup x = some v → x ≠ "mask" → x ≠ "lasts" → μ1.lookup x = some v := fun h h1 h2 => by subst hμ1; exact lname h h1 h2 _
    have n1m : μ1.lookup ("mask" : Str) = some (.int (m : Nat)) := by subst hμ1; exact lmask _
    have n1l : μ1.lookup ("lasts" : Str) = some (.lst (intV (lasts E m))) := by subst hμ1; exact llast _
    have dl : ∀ f : Nat → Nat, (dtab E f).length ≤ 1000 := fun f => by unfold dtab; rw [List.length_map]; lia
    refine EX.cons ?_
    refine E1_dset ok (iK _) ?_
    refine PE.then (PE.bin (PE.sub (PE.name (n1 nsize (by decide) (by decide))) (PE.cast (PE.bin (PE.name n1m) (PE.bin (PE.int ok) (PE.sub (PE.name n1l) (PE.int ok) (O.sub_lst ok (k := ((0 : Nat) : Int)) (c := .int (n0 : Nat)) (by decide) hl0)) (O.shl ok (by lia) (by lia) (by decide))) (O.sub ok)) (congrArg AV.int (sub_pow hle))) (O.sub_idict ok (l := dtab E (sizeF sp)) (a := zs) (by simp) (dtab_get hE0))) (PE.sub (PE.name (n1 nspan (by decide) (by decide))) (PE.sub (PE.name n1l) (PE.int ok) (O.sub_lst ok (k := ((0 : Nat) : Int)) (c := .int (n0 : Nat)) (by decide) hl0)) (O.sub_lst ok (k := ((n0 : Nat) : Int)) (by lia) (by rw [Int.toNat_natCast]; exact spv h6) (by lia))) (O.add ok)) ?_
    refine ⟨M.length, zs, dtab E (sizeF sp), (m : Int), get0 _ _, dl _, PE.name (n1 nsize (by decide) (by decide)), PE.name n1m, ?_⟩
    have es : ((sizeF sp (m - 2 ^ n0) : Nat) : Int) + ((sp n0 : Nat) : Int) = ((sizeF sp m : Nat) : Int) := by lia
    rw [es, dtab_set (f' := sizeF sp) hel (fun _ _ => rfl) rfl, set0]
    refine EX.cons ?_
    refine E1_dset ok (iK _) ?_
    refine EV.callB (PE.built rfl (g.non _ rfl) ((g.mb _ (by decide)).trans rfl)) (EL.cons ?_)
    refine EV.comp ok (l := intV (lasts E m)) (.name _ _) [("best", .raw (.ref zb)), ("head", .int head), ("mask", .int (m : Nat)), ("price", .lst pv1), ("size", .raw (.ref zs))] (bestG B pr m (head + sizeF sp m)) rfl (by decide) rfl (by decide) (by decide) ?_ (by lia)
    refine PE.then (PE.name n1l) ?_
    refine ⟨Iter.lst ok, fun L' => Cap.cons (n1 nbest (by decide) (by decide)) rfl (.inl rfl) (.inl rfl) (Cap.cons (n1 nhead (by decide) (by decide)) rfl (.inl rfl) (.inl rfl) (Cap.cons n1m rfl (.inl rfl) (.inl rfl) (Cap.cons (n1 nprice (by decide) (by decide)) rfl (.inl rfl) (.inl rfl) (Cap.cons (n1 nsize (by decide) (by decide)) rfl (.inl rfl) (.inl rfl) Cap.nil)))), fun L' y hy => ?_, ?_⟩
    · obtain ⟨j, hj, rfl⟩ := List.mem_map.mp hy
      obtain ⟨j6, jb, jE, jl⟩ := lmem hj
      have hp10 := prl j
      rw [bestG_at]
      refine Step.some ?_
      refine TG.name ok (.inl rfl) ?_
      refine CT.nil ⟨rfl, ?_⟩
      refine PE.then (PE.cast (PE.bin (PE.sub (PE.name rfl) (PE.cast (PE.bin (PE.name rfl) (PE.bin (PE.int ok) (PE.name rfl) (O.shl ok (by lia) (by lia) (by decide))) (O.sub ok)) (congrArg AV.int (sub_pow jl))) (O.sub_idict ok (l := dtab E B) (a := zb) (by simp) (dtab_get jE))) (PE.bin (PE.sub (PE.name rfl) (PE.name rfl) (O.sub_lst ok (k := ((j : Nat) : Int)) (by lia) (by rw [Int.toNat_natCast]; exact prv j6) (by lia))) (PE.bin (PE.name rfl) (PE.sub (PE.name rfl) (PE.name rfl) (O.sub_idict ok (l := dtab (E ++ [m]) (sizeF sp)) (a := zs) (k := (m : Int)) (by simp [iK]) (dtab_get (by simp)))) (O.add ok)) (O.mul ok (bits_small (by lia)))) (O.add ok)) ?_) ⟨rfl, Le.pre (ν := [("n", .int (j : Nat))])⟩
      congr 1
    · refine EL.nil ?_
      rw [bestG_map]
      obtain ⟨nb, hnb, hmin⟩ := least_of (fun n => B (m - 2 ^ n) + pr n * (head + sizeF sp m)) _ lne
      refine ((O.min_lst ok (v := ((B (m - 2 ^ nb) + pr nb * (head + sizeF sp m) : Nat) : Int)) (List.mem_map.mpr ⟨nb, hnb, rfl⟩) ?_).mono fun av S' e => ?_)
      · intro x hx
        obtain ⟨j, hj, rfl⟩ := List.mem_map.mp hx
        exact Int.ofNat_le.mpr (hmin j hj)
      obtain ⟨rfl, rfl⟩ := e
      refine ⟨M.length + 1, zb, dtab E B, (m : Int), get1 _ _, dl _, PE.name (n1 nbest (by decide) (by decide)), PE.name n1m, ?_⟩
      rw [dtab_set (f' := fun x => if x = m then (B (m - 2 ^ nb) + pr nb * (head + sizeF sp m)) else B x) hel (fun x hx => if_neg fun q => hel (by rw [← q]; exact hx)) (if_pos rfl), set1]
      refine EX.nil ⟨⟨μ0, _⟩, ⟨rfl, fun x av h => ?_⟩, _, dst _ ⟨⟨nb, hnb, rfl⟩, hmin⟩, rfl⟩
      refine n1 h ?_ ?_
      · rintro rfl; subst hμ; cases h
      · rintro rfl; subst hμ; cases h
  · rintro S₁ ⟨B, d, rfl⟩
    have hlen : ((intV C).drop 1).length + 1 = C.length := by
      have := congrArg List.length hc0; simp only [List.length_take, List.length_cons, List.length_nil] at this; simp only [intV, List.length_drop, List.length_map]; lia
    rw [hlen, List.take_length] at d ⊢
    exact k B d
end
end Mine
namespace Mine
noncomputable abbrev ZIs (h : Heap) (z TI TO : Addr) (f0 f1 : Value) : Prop :=
  h.get? z = some { cls := .type "zip", dict := none, data := .fields #[f0, f1, .bool false, .ref TI, .ref TO], slots := #[] }
structure ZSt (x : Str) (t : Tok) (l : Addr) (ys : Array Value) (z TI TO i1 i2 : Addr) (k : Nat) (h : Heap) : Prop where
  z : ∃ f0 f1, ZIs h z TI TO f0 f1 ∧ (f0 = .none ∨ ∃ T : Nat, f0 = rawInt T)
  TI : IsPair h TI (.ref i1) (.ref i2)
  TO : ∃ a b, IsPair h TO a b
  i1 : h.IsStrIter i1 "str_ascii_iterator" x t k
  i2 : h.IsListIter i2 l k
  l : h.IsList l ys
theorem strIter_at {h h' : Heap} {it : Addr} {ty : String} {x : Str} {t : Tok} {i : Nat} (a : h.IsStrIter it ty x t i) (k : ∀ o, h.get? it = some o → h'.get? it = some o) : h'.IsStrIter it ty x t i :=
  let ⟨o, ho, r⟩ := a; ⟨o, k o ho, r⟩
section
variable {prog : Program} {w : World} {A : Around} {E : Value → Shared → Prop} {s : Shared}
theorem wpAny_loadIfAlive {a : Addr} {Q : Option Obj → Shared → Prop} (h : Q (s.heap.get? a) s) : wpAny (model prog w) A (loadIfAlive a) Q E s := fun Γ p hΓ => h
theorem zip_isFree {z TI TO : Addr} {f0 f1 : Value} {Q : Bool → Shared → Prop} (hz : ZIs s.heap z TI TO f0 f1) (hf : f0 = .none ∨ ∃ T : Nat, f0 = rawInt T)
    (h : ∀ b h' f1', ZIs h' z TI TO f0 f1' → Heap.SameBut z s.heap h' → Q b { s with heap := h' }) : wpAny (model prog w) A (Builtin.SmallTypes.ownedTupleIsFree (.ref z)) Q E s := by
  unfold Builtin.SmallTypes.ownedTupleIsFree
  refine wpAny_bind (wpAny_field hz rfl (x := f0) rfl ?_)
  rcases hf with rfl | ⟨T, rfl⟩
  · exact wpAny_pure (h _ s.heap _ hz (Heap.SameBut.refl _ _))
  · show wpAny _ _ (loadIfAlive (T : Int).toNat >>= _) _ _ _
    refine wpAny_bind (wpAny_loadIfAlive ?_)
    cases e : s.heap.get? (T : Int).toNat with
    | none => exact wpAny_pure (h _ s.heap _ hz (Heap.SameBut.refl _ _))
    | some o =>
      show wpAny _ _ (field (.ref z) 1 >>= _) _ _ _
      refine wpAny_bind (wpAny_field hz rfl (x := f1) rfl ?_)
      split
      · refine wpAny_bind (wpAny_setField_rec hz (by simp) fun h₁ hz₁ hs₁ => ?_)
        exact wpAny_pure (h _ h₁ _ hz₁ hs₁)
      · exact wpAny_pure (h _ s.heap _ hz (Heap.SameBut.refl _ _))
variable {x : Str} {t : Tok} {l : Addr} {ys : Array Value} {z TI TO i1 i2 : Addr}
theorem zip_str_next {k c : Nat} {y : Value} {Q : Value → Shared → Prop} (D : ZipApart z TI TO i1 i2 l l) (st : ZSt x t l ys z TI TO i1 i2 k s.heap) (hx : x.cps[k]? = some c) (hy : ys[k]? = some y)
    (hQ : ∀ T u h' tk, s.heap.get? T = none → IsPair h' T (.str ⟨#[c]⟩ u) y → ZSt x t l ys z TI TO i1 i2 (k + 1) h' → (∀ c o, c ≠ z → c ≠ TO → c ≠ i1 → c ≠ i2 → s.heap.get? c = some o → h'.get? c = some o) → Q (.ref T) { s with heap := h', toks := tk }) :
    wpAny (model prog w) A (Builtin.«zip.__next__» ⟨[.ref z], []⟩) (fun fin s' => ∃ v, fin = .done (.ret v) ∧ Q v s') E s := by
  obtain ⟨⟨f0, f1, hz, hf⟩, hTI, ⟨a, b, hTO⟩, h1, h2, hl⟩ := st
  show wpAny _ _ (field (.ref z) 2 >>= _) _ _ _
  refine wpAny_bind (wpAny_field hz rfl (x := .bool false) rfl ?_)
  show wpAny _ _ (field (.ref z) 3 >>= _) _ _ _
  refine wpAny_bind (wpAny_field hz rfl (x := .ref TI) rfl ?_)
  refine wpAny_bind (wpAny_seqItems hTI rfl ?_)
  show wpAny _ _ (Builtin.SmallTypes.ownedTupleIsFree (.ref z) >>= _) _ _ _
  refine wpAny_bind (zip_isFree hz hf fun fr h0 f1' hz0 hs0 => ?_)
  have hTI0 : IsPair h0 TI (.ref i1) (.ref i2) := hs0.extBut _ _ D.TIz hTI
  have hTO0 : IsPair h0 TO a b := hs0.extBut _ _ D.TOz hTO
  have h10 := strIter_at h1 fun o => hs0.extBut _ _ D.i1z
  have h20 := h2.extBut hs0.extBut D.i2z
  have hl0 := hl.extBut hs0.extBut D.l1z
  cases fr with
  | true =>
    simp only [if_true]
    refine wpAny_bind (wpAny_rule ?_)
    refine wpAny_bind (wpAny_field hz0 rfl (x := .ref TO) rfl ?_)
    refine wpAny_bind (wpAny_setField_rec hz0 (by simp) fun h₁ hz₁ hs₁ => ?_)
    replace hz₁ : ZIs h₁ z TI TO .ellipsis f1' := hz₁
    refine wpAny_bind ?_
    simp only [List.zipIdx_cons, List.zipIdx_nil, List.forIn_cons, List.forIn_nil]
    refine wpAny_bind (wpAny_bind (wpAny_onRaise ?_))
    show wpAny _ _ (Builtin.SmallTypes.nextOf (.ref i1) >>= _) _ _ _
    refine wpAny_bind (wpAny_nextOf_ascii_item (strIter_at h10 fun o => hs₁.extBut _ _ D.i1z) hx fun h₂ h1₂ hs₂ => wpAny_pure ?_)
    have hTO₂ : IsPair h₂ TO a b := hs₂.extBut _ _ D.TOi1 (hs₁.extBut _ _ D.TOz hTO0)
    refine wpAny_bind (wpAny_seqItems hTO₂ rfl ?_)
    refine wpAny_bind (wpAny_updateSeq_pair hTO₂ fun h₃ hTO₃ hs₃ => ?_)
    replace hTO₃ : IsPair h₃ TO (.str ⟨#[c]⟩ s.toks) b := hTO₃
    refine wpAny_bind (wpAny_letGo (wpAny_pure ?_))
    refine wpAny_bind (wpAny_bind (wpAny_onRaise ?_))
    show wpAny _ _ (Builtin.SmallTypes.nextOf (.ref i2) >>= _) _ _ _
    refine wpAny_bind (wpAny_nextOf_list_item (((h20.extBut hs₁.extBut D.i2z).extBut hs₂.extBut D.i12.symm).extBut hs₃.extBut D.TOi2.symm)
      (((hl0.extBut hs₁.extBut D.l2z).extBut hs₂.extBut D.l2i1).extBut hs₃.extBut D.l2TO) hy fun h₄ h2₄ hs₄ => wpAny_pure ?_)
    have hTO₄ : IsPair h₄ TO (.str ⟨#[c]⟩ s.toks) b := hs₄.extBut _ _ D.TOi2 hTO₃
    refine wpAny_bind (wpAny_seqItems hTO₄ rfl ?_)
    refine wpAny_bind (wpAny_updateSeq_pair hTO₄ fun h₅ hTO₅ hs₅ => ?_)
    replace hTO₅ : IsPair h₅ TO (.str ⟨#[c]⟩ s.toks) y := hTO₅
    refine wpAny_bind (wpAny_letGo (wpAny_pure (wpAny_pure ?_)))
    refine wpAny_bind (wpAny_seqItems hTO₅ rfl ?_)
    refine wpAny_bind (wpAny_newTuple ?_)
    have hsz : h₅.objs.size = s.heap.objs.size := by rw [hs₅.1, hs₄.1, hs₃.1, hs₂.1, hs₁.1, hs0.1]
    have hz₅ : ZIs h₅ z TI TO .ellipsis f1' := hs₅.extBut _ _ D.TOz.symm (hs₄.extBut _ _ D.i2z.symm (hs₃.extBut _ _ D.TOz.symm (hs₂.extBut _ _ D.i1z.symm hz₁)))
    have hk₅ : ∀ c o, c ≠ z → c ≠ TO → c ≠ i1 → c ≠ i2 → s.heap.get? c = some o → h₅.get? c = some o := fun c o c1 c2 c3 c4 e =>
      hs₅.extBut _ _ c2 (hs₄.extBut _ _ c4 (hs₃.extBut _ _ c2 (hs₂.extBut _ _ c3 (hs₁.extBut _ _ c1 (hs0.extBut _ _ c1 e)))))
    have h1₅ : h₅.IsStrIter i1 "str_ascii_iterator" x t (k + 1) := strIter_at h1₂ fun o e => hs₅.extBut _ _ D.TOi1.symm (hs₄.extBut _ _ D.i12 (hs₃.extBut _ _ D.TOi1.symm e))
    have h2₅ : h₅.IsListIter i2 l (k + 1) := h2₄.extBut hs₅.extBut D.TOi2.symm
    have hzlt : z < h₅.objs.size := Heap.lt_size hz₅
    show wpAny _ _ (Builtin.SmallTypes.ownedTupleHandOut (.ref z) (.ref h₅.objs.size) >>= _) _ _ _
    refine wpAny_bind ?_
    unfold Builtin.SmallTypes.ownedTupleHandOut
    have hz₆ : ZIs (h₅.push { cls := .type "tuple", data := .seq #[.str ⟨#[c]⟩ s.toks, y] }) z TI TO .ellipsis f1' := Heap.get?_push_of_some _ hz₅
    refine wpAny_bind (wpAny_setField_rec hz₆ (by simp) fun h₇ hz₇ hs₇ => ?_)
    refine wpAny_setField_rec hz₇ (by simp) fun h₈ hz₈ hs₈ => ?_
    replace hz₈ : ZIs h₈ z TI TO (rawInt h₅.objs.size) (.bool false) := hz₈
    have up : ∀ c o, c ≠ z → h₅.get? c = some o → h₈.get? c = some o := fun c o c1 e => hs₈.extBut _ _ c1 (hs₇.extBut _ _ c1 (Heap.get?_push_of_some _ e))
    have hT₈ : IsPair h₈ h₅.objs.size (.str ⟨#[c]⟩ s.toks) y := hs₈.extBut _ _ (Nat.ne_of_gt hzlt) (hs₇.extBut _ _ (Nat.ne_of_gt hzlt) (Heap.get?_push_size _ rfl))
    refine wpAny_pure ⟨_, rfl, ?_⟩
    have hk : ∀ c o, c ≠ z → c ≠ TO → c ≠ i1 → c ≠ i2 → s.heap.get? c = some o → h₈.get? c = some o := fun c o c1 c2 c3 c4 e => up c o c1 (hk₅ c o c1 c2 c3 c4 e)
    exact hQ _ _ h₈ _ (by rw [hsz]; exact new_none _) hT₈ ⟨⟨_, _, hz₈, .inr ⟨_, rfl⟩⟩, hk _ _ D.TIz D.TITO D.TIi1 D.TIi2 hTI, ⟨_, _, up _ _ D.TOz hTO₅⟩, strIter_at h1₅ fun o e => up _ o D.i1z e, h2₅.at fun o e => up _ o D.i2z e,
      hl.at fun o e => hk _ o D.l1z D.l1TO D.l1i1 D.l1i2 e⟩ hk
  | false =>
    simp only [Bool.false_eq_true, if_false]
    rw [← Array.forIn_toList]
    simp only [List.forIn_cons, List.forIn_nil]
    refine wpAny_bind (wpAny_bind (wpAny_bind (wpAny_holding ?_)))
    show wpAny _ _ (Builtin.SmallTypes.nextOf (.ref i1) >>= fun v => pure (some v)) _ _ _
    refine wpAny_bind (wpAny_nextOf_ascii_item h10 hx fun h₂ h1₂ hs₂ => wpAny_pure ?_)
    refine wpAny_pure ?_
    refine wpAny_bind (wpAny_bind (wpAny_holding ?_))
    show wpAny _ _ (Builtin.SmallTypes.nextOf (.ref i2) >>= fun v => pure (some v)) _ _ _
    refine wpAny_bind (wpAny_nextOf_list_item (h20.extBut hs₂.extBut D.i12.symm) (hl0.extBut hs₂.extBut D.l1i1) hy fun h₃ h2₃ hs₃ => wpAny_pure ?_)
    refine wpAny_pure ?_
    refine wpAny_pure ?_
    refine wpAny_bind (wpAny_newTuple (hsz := by show (2 : Nat) ≤ sizeLine; decide) ?_)
    refine wpAny_pure ⟨_, rfl, ?_⟩
    have hk₃ : ∀ c o, c ≠ z → c ≠ i1 → c ≠ i2 → s.heap.get? c = some o → h₃.get? c = some o := fun c o c1 c3 c4 e => hs₃.extBut _ _ c4 (hs₂.extBut _ _ c3 (hs0.extBut _ _ c1 e))
    have hz₃ : ZIs h₃ z TI TO f0 f1' := hs₃.extBut _ _ D.i2z.symm (hs₂.extBut _ _ D.i1z.symm hz0)
    have hsz : h₃.objs.size = s.heap.objs.size := by rw [hs₃.1, hs₂.1, hs0.1]
    have up : ∀ c o, h₃.get? c = some o → (h₃.push { cls := .type "tuple", data := .seq #[.str ⟨#[c]⟩ s.toks, y] }).get? c = some o := fun c o e => Heap.get?_push_of_some _ e
    exact hQ h₃.objs.size s.toks _ _ (by rw [hsz]; exact new_none _) (Heap.get?_push_size _ rfl) ⟨⟨_, _, Heap.get?_push_of_some _ hz₃, hf⟩, Heap.get?_push_of_some _ (hk₃ _ _ D.TIz D.TIi1 D.TIi2 hTI), ⟨_, _, Heap.get?_push_of_some _ (hk₃ _ _ D.TOz D.TOi1 D.TOi2 hTO)⟩,
      strIter_at h1₂ fun o e => Heap.get?_push_of_some _ (hs₃.extBut _ _ D.i12 e), h2₃.at fun o e => Heap.get?_push_of_some _ e, hl.at fun o e => Heap.get?_push_of_some _ (hk₃ _ o D.l1z D.l1i1 D.l1i2 e)⟩
      fun c o c1 _ c3 c4 e => Heap.get?_push_of_some _ (hk₃ c o c1 c3 c4 e)
theorem zip_str_end {Q : Fin → Shared → Prop} (hh : A.handled = none) (D : ZipApart z TI TO i1 i2 l l) (st : ZSt x t l ys z TI TO i1 i2 x.cps.size s.heap)
    (hE : ∀ h' e, (∀ c o, c ≠ z → c ≠ TO → c ≠ i1 → c ≠ i2 → s.heap.get? c = some o → h'.get? c = some o) → (∃ o, h'.get? e = some o ∧ o.cls = .type "StopIteration") → E (.ref e) { s with heap := h' }) :
    wpAny (model prog w) A (Builtin.«zip.__next__» ⟨[.ref z], []⟩) Q E s := by
  obtain ⟨⟨f0, f1, hz, hf⟩, hTI, ⟨a, b, hTO⟩, h1, h2, hl⟩ := st
  have hx : x.cps[x.cps.size]? = none := by simp
  show wpAny _ _ (field (.ref z) 2 >>= _) _ _ _
  refine wpAny_bind (wpAny_field hz rfl (x := .bool false) rfl ?_)
  show wpAny _ _ (field (.ref z) 3 >>= _) _ _ _
  refine wpAny_bind (wpAny_field hz rfl (x := .ref TI) rfl ?_)
  refine wpAny_bind (wpAny_seqItems hTI rfl ?_)
  show wpAny _ _ (Builtin.SmallTypes.ownedTupleIsFree (.ref z) >>= _) _ _ _
  refine wpAny_bind (zip_isFree hz hf fun fr h0 f1' hz0 hs0 => ?_)
  have hTO0 : IsPair h0 TO a b := hs0.extBut _ _ D.TOz hTO
  have h10 := strIter_at h1 fun o => hs0.extBut _ _ D.i1z
  cases fr with
  | true =>
    simp only [if_true]
    refine wpAny_bind (wpAny_rule ?_)
    refine wpAny_bind (wpAny_field hz0 rfl (x := .ref TO) rfl ?_)
    refine wpAny_bind (wpAny_setField_rec hz0 (by simp) fun h₁ hz₁ hs₁ => ?_)
    replace hz₁ : ZIs h₁ z TI TO .ellipsis f1' := hz₁
    refine wpAny_bind ?_
    simp only [List.zipIdx_cons, List.zipIdx_nil, List.forIn_cons, List.forIn_nil]
    refine wpAny_bind (wpAny_bind (wpAny_onRaise ?_))
    show wpAny _ _ (Builtin.SmallTypes.nextOf (.ref i1) >>= _) _ _ _
    refine wpAny_bind (wpAny_nextOf_ascii_end hh (strIter_at h10 fun o => hs₁.extBut _ _ D.i1z) hx fun h₂ e hs₂ he => ?_)
    obtain ⟨oe, hoe, hce⟩ := he
    have hz₂ : ZIs h₂ z TI TO .ellipsis f1' := hs₂ _ _ D.i1z.symm hz₁
    have hez : e ≠ z := fun x => by subst x; rw [hz₂] at hoe; cases hoe; simp at hce
    exact wpAny_setField_rec hz₂ (by simp) fun h₃ _ hs₃ => hE h₃ e (fun c o c1 _ c3 _ x => hs₃.extBut _ _ c1 (hs₂ _ _ c3 (hs₁.extBut _ _ c1 (hs0.extBut _ _ c1 x)))) ⟨oe, hs₃.extBut _ _ hez hoe, hce⟩
  | false =>
    simp only [Bool.false_eq_true, if_false]
    rw [← Array.forIn_toList]
    simp only [List.forIn_cons, List.forIn_nil]
    refine wpAny_bind (wpAny_bind (wpAny_bind (wpAny_holding ?_)))
    show wpAny _ _ (Builtin.SmallTypes.nextOf (.ref i1) >>= fun v => pure (some v)) _ _ _
    refine wpAny_bind (wpAny_nextOf_ascii_end hh h10 hx fun h₂ e hs₂ he => ?_)
    exact hE h₂ e (fun c o c1 _ c3 _ x => hs₂ _ _ c3 (hs0.extBut _ _ c1 x)) he
theorem pyNext_zip_str {k c : Nat} {y : Value} {Q : Option Value → Shared → Prop} (D : ZipApart z TI TO i1 i2 l l) (st : ZSt x t l ys z TI TO i1 i2 k s.heap) (hx : x.cps[k]? = some c) (hy : ys[k]? = some y)
    (hQ : ∀ T u h' tk, s.heap.get? T = none → IsPair h' T (.str ⟨#[c]⟩ u) y → ZSt x t l ys z TI TO i1 i2 (k + 1) h' → (∀ c o, c ≠ z → c ≠ TO → c ≠ i1 → c ≠ i2 → s.heap.get? c = some o → h'.get? c = some o) → Q (some (.ref T)) { s with heap := h', toks := tk }) :
    wpAny (model prog w) A (pyNext (.ref z)) Q E s := by
  have hT : s.TypeIs (.ref z) "zip" := by obtain ⟨f0, f1, hz, _⟩ := st.z; exact ⟨_, hz, rfl⟩
  unfold pyNext
  exact wpAny_bind (wpAny_attempt (wpAny_callSpecial?_slot (name := Str.ofString "__next__") hT F.slot_zip_next
    (wpAny_call_entry F.slot_zip_next hT F.entry_zip_next
      (zip_str_next D st hx hy fun T u h' tk a1 a2 a3 a4 => wpAny_pure (hQ T u h' tk a1 a2 a3 a4)) (F.args_zip_next_1 _))))
theorem pyNext_zip_str_end {Q : Option Value → Shared → Prop} (hh : A.handled = none) (D : ZipApart z TI TO i1 i2 l l) (st : ZSt x t l ys z TI TO i1 i2 x.cps.size s.heap)
    (hQ : ∀ h', (∀ c o, c ≠ z → c ≠ TO → c ≠ i1 → c ≠ i2 → s.heap.get? c = some o → h'.get? c = some o) → Q none { s with heap := h' }) : wpAny (model prog w) A (pyNext (.ref z)) Q E s := by
  have hT : s.TypeIs (.ref z) "zip" := by obtain ⟨f0, f1, hz, _⟩ := st.z; exact ⟨_, hz, rfl⟩
  unfold pyNext
  refine wpAny_bind (wpAny_attempt (wpAny_callSpecial?_slot (name := Str.ofString "__next__") hT F.slot_zip_next
    (wpAny_call_entry F.slot_zip_next hT F.entry_zip_next (zip_str_end hh D st fun h' e hk he => ?_) (F.args_zip_next_1 _))))
  obtain ⟨o, ho, hc⟩ := he
  refine wpAny_bind (wpAny_isInstance (T := "StopIteration") (b := true) ⟨o, ho, hc⟩ isSubtype_stop ?_)
  exact wpAny_pure (hQ _ hk)
end
end Mine
namespace Mine
noncomputable abbrev zqH1 (h : Heap) (x : Str) (t : Tok) : Heap := h.push { cls := .type "str_ascii_iterator", data := .fields #[.str x t, .int 0 0] }
noncomputable abbrev zqH2 (h : Heap) (x : Str) (t : Tok) (l2 : Addr) : Heap := (zqH1 h x t).push { cls := .type "list_iterator", data := .fields #[.ref l2, .int 0 0] }
noncomputable abbrev zqH3 (h : Heap) (x : Str) (t : Tok) (l2 : Addr) : Heap := (zqH2 h x t l2).push { cls := .type "tuple", data := .seq #[.ref h.objs.size, .ref (zqH1 h x t).objs.size] }
noncomputable abbrev zqH4 (h : Heap) (x : Str) (t : Tok) (l2 : Addr) : Heap := (zqH3 h x t l2).push { cls := .type "tuple", data := .seq #[.none, .none] }
noncomputable abbrev zqH5 (h : Heap) (x : Str) (t : Tok) (l2 : Addr) : Heap := (zqH4 h x t l2).push { cls := .type "zip", data := .fields #[.none, .bool false, .bool false, .ref (zqH2 h x t l2).objs.size, .ref (zqH3 h x t l2).objs.size] }
theorem meets_zip_str (x : Str) (t : Tok) (l2 : Addr) (ys : Array Value) (hx : x.cps.all (· < 128) = true) :
    Meets (Builtin.«zip.__new__» ⟨[.type "zip", .str x t, .ref l2], []⟩) (fun _ R s => s.heap.IsList l2 ys ∧
      R (.ok (.ret (.ref (zqH4 s.heap x t l2).objs.size))) { s with heap := zqH5 s.heap x t l2 }) :=
  .of_wp fun prog w A R s h => by
    obtain ⟨hp, g, d, tk, os⟩ := s; obtain ⟨hl2, h⟩ := h
    have hsub := sub_zip
    have hL2 : Heap.IsList (Shared.heap ⟨hp.push { cls := .type "str_ascii_iterator", data := .fields #[.str x t, .int 0 0] }, g, d, tk, os⟩) l2 ys := Heap.IsList.push hl2 _
    wp_walk using wpAny_pyIter_ascii hx, wpAny_pyIter_list hL2
    exact ⟨_, rfl, h⟩
section
variable {prog : Program} {w : World} {A : Around} {E : Value → Shared → Prop} {s : Shared}
theorem call_zip_str {x : Str} {t : Tok} {l2 : Addr} {ys : Array Value} {Q : Value → Shared → Prop} (hx : x.cps.all (· < 128) = true) (hl2 : s.heap.IsList l2 ys)
    (h : ∀ h' z TI TO i1 i2, ZipApart z TI TO i1 i2 l2 l2 → ZSt x t l2 ys z TI TO i1 i2 0 h' → s.heap.objs.size ≤ z → s.heap.objs.size ≤ TO → s.heap.objs.size ≤ i1 → s.heap.objs.size ≤ i2 →
      (∀ c o, s.heap.get? c = some o → h'.get? c = some o) → Q (.ref z) { s with heap := h' }) :
    wpAny (model prog w) A (call (.type "zip") [.str x t, .ref l2]) Q E s := by
  refine callType_new F.called_zip (by decide) (F.typeCall_zip_2 _ _) (F.newCall_zip_2 _ _) (fun obj => F.args_object_init_3 obj _ _) F.entry_zip_new
    (meets_zip_str x t l2 ys hx) ⟨hl2, ?_⟩
  have z1 : (zqH1 s.heap x t).objs.size = s.heap.objs.size + 1 := Heap.size_push ..
  have z2 : (zqH2 s.heap x t l2).objs.size = s.heap.objs.size + 2 := by rw [Heap.size_push, z1]
  have z3 : (zqH3 s.heap x t l2).objs.size = s.heap.objs.size + 3 := by rw [Heap.size_push, z2]
  have z4 : (zqH4 s.heap x t l2).objs.size = s.heap.objs.size + 4 := by rw [Heap.size_push, z3]
  have g5 : (zqH5 s.heap x t l2).get? (zqH4 s.heap x t l2).objs.size = some _ := Heap.get?_push_size _ rfl
  have g4 : (zqH5 s.heap x t l2).get? (zqH3 s.heap x t l2).objs.size = some _ := Heap.get?_push_of_some _ (Heap.get?_push_size _ rfl)
  have g3 : (zqH5 s.heap x t l2).get? (zqH2 s.heap x t l2).objs.size = some _ := Heap.get?_push_of_some _ (Heap.get?_push_of_some _ (Heap.get?_push_size _ rfl))
  have g2 : (zqH5 s.heap x t l2).get? (zqH1 s.heap x t).objs.size = some _ := Heap.get?_push_of_some _ (Heap.get?_push_of_some _ (Heap.get?_push_of_some _ (Heap.get?_push_size _ rfl)))
  have g1 : (zqH5 s.heap x t l2).get? s.heap.objs.size = some _ := Heap.get?_push_of_some _ (Heap.get?_push_of_some _ (Heap.get?_push_of_some _ (Heap.get?_push_of_some _ (Heap.get?_push_size _ rfl))))
  have up : ∀ c o, s.heap.get? c = some o → (zqH5 s.heap x t l2).get? c = some o := fun c o e =>
    Heap.get?_push_of_some _ (Heap.get?_push_of_some _ (Heap.get?_push_of_some _ (Heap.get?_push_of_some _ (Heap.get?_push_of_some _ e))))
  have a2 : l2 < s.heap.objs.size := by obtain ⟨_, e, _⟩ := hl2; exact Heap.lt_size e
  show _ ∧ _
  rw [z2, z3, z4] at g5
  rw [z1, z2] at g3
  rw [z3] at g4
  rw [z1] at g2
  rw [z4]
  exact ⟨⟨_, g5, rfl⟩, h _ _ _ _ _ _ (zipApart_new a2 a2) ⟨⟨_, _, g5, .inl rfl⟩, g3, ⟨_, _, g4⟩, ⟨_, g1, rfl, rfl⟩, ⟨_, g2, rfl, rfl⟩, Heap.IsList.at hl2 fun o e => up _ o e⟩
    (Nat.le_add_right _ 4) (Nat.le_add_right _ 3) (Nat.le_refl _) (Nat.le_add_right _ 1) up⟩
end
end Mine
namespace Mine
theorem zip_no_len : typeLookup (.type "zip") "__len__" = pure none := by rw [typeLookup_type, builtinLookup_eq_fast]; kernel_rfl
theorem zip_no_hint : typeLookup (.type "zip") "__length_hint__" = pure none := by rw [typeLookup_type, builtinLookup_eq_fast]; kernel_rfl
noncomputable def PO (h0 : Heap) (x : Str) (ys : Array Value) (bad : List Addr) (h : Heap) (i : Nat) (v : Value) : Prop :=
  ∃ T u c y, v = .ref T ∧ x.cps[i]? = some c ∧ ys[i]? = some y ∧ IsPair h T (.str ⟨#[c]⟩ u) y ∧ T ∉ bad ∧ h0.get? T = none
theorem PO.keep {h0 : Heap} {x : Str} {ys : Array Value} {bad : List Addr} {h h' : Heap} {i : Nat} {v : Value} (p : PO h0 x ys bad h i v) (k : ∀ b o, b ∉ bad → h.get? b = some o → h'.get? b = some o) : PO h0 x ys bad h' i v := by
  obtain ⟨T, u, c, y, e, hx, hy, hT, hb, h0⟩ := p
  exact ⟨T, u, c, y, e, hx, hy, k _ _ hb hT, hb, h0⟩
noncomputable def POs (h0 : Heap) (x : Str) (ys : Array Value) (bad : List Addr) (h : Heap) (acc : Array Value) (k : Nat) : Prop := acc.size = k ∧ ∀ i v, acc[i]? = some v → PO h0 x ys bad h i v
theorem POs.keep {h0 : Heap} {x : Str} {ys : Array Value} {bad : List Addr} {h h' : Heap} {acc : Array Value} {k : Nat} (p : POs h0 x ys bad h acc k) (hk : ∀ b o, b ∉ bad → h.get? b = some o → h'.get? b = some o) : POs h0 x ys bad h' acc k :=
  ⟨p.1, fun i v e => (p.2 i v e).keep hk⟩
theorem POs.push {h0 : Heap} {x : Str} {ys : Array Value} {bad : List Addr} {h : Heap} {acc : Array Value} {k : Nat} {v : Value} (p : POs h0 x ys bad h acc k) (q : PO h0 x ys bad h k v) : POs h0 x ys bad h (acc.push v) (k + 1) := by
  refine ⟨by rw [Array.size_push, p.1], fun j v hj => ?_⟩
  rw [Array.getElem?_push] at hj
  split at hj
  · rename_i e; rw [p.1] at e; cases hj; rw [e]; exact q
  · exact p.2 j v hj
section
variable {prog : Program} {w : World} {A : Around} {R : Result → Shared → Prop} {x : Str} {t : Tok} {l : Addr} {ys : Array Value} {z TI TO i1 i2 : Addr}
theorem extend_loop_zip (hh : A.handled = none) (hn : x.cps.size ≤ 1000) (hy : x.cps.size ≤ ys.size) (D : ZipApart z TI TO i1 i2 l l) (S : Addr) (hSa : S ∉ [z, TI, TO, i1, i2, l]) (res : Value) (h0 : Heap) (hbad : ∀ b o, h0.get? b = some o → b ∉ [S, z, TO, i1, i2]) :
    ∀ (j k : Nat) (s : Shared) (acc : Array Value) (c : Nat), x.cps.size - k = j → k ≤ x.cps.size → ZSt x t l ys z TI TO i1 i2 k s.heap → s.heap.get? S = some { cls := .type "list", dict := none, data := .seq acc c, slots := #[] } →
    POs h0 x ys [S, z, TO, i1, i2] s.heap acc k → (∀ b o, h0.get? b = some o → s.heap.get? b = some o) →
    (∀ h' tk acc' c', (∀ b o, b ∉ [S, z, TO, i1, i2] → s.heap.get? b = some o → h'.get? b = some o) → h'.get? S = some { cls := .type "list", dict := none, data := .seq acc' c', slots := #[] } → POs h0 x ys [S, z, TO, i1, i2] h' acc' x.cps.size → R (.ok (.ret res)) { s with heap := h', toks := tk }) →
    codeAny (model prog w) A (.builtin "list.extend.loop" ⟨[.ref S, .ref z, res], []⟩) R s := by
  have sl : sizeLine = 16777216 := by decide
  simp only [List.mem_cons, List.not_mem_nil, or_false, not_or] at hSa
  obtain ⟨Sz, STI, STO, Si1, Si2, Sl⟩ := hSa
  have bad4 : ∀ {b : Addr}, b ∉ [S, z, TO, i1, i2] → b ≠ S ∧ b ≠ z ∧ b ≠ TO ∧ b ≠ i1 ∧ b ≠ i2 := fun h => by
    simpa only [List.mem_cons, List.not_mem_nil, or_false, not_or] using h
  intro j
  induction j with
  | zero =>
    intro k s acc c hj hk hst hS hacc h00 hR
    have hin : k = x.cps.size := by lia
    subst hin
    refine codeAny_builtin F.entry_extend_loop ?_
    rw [Around.under_plainId F.plain_extend_loop _]
    show wpAny _ A.in1 (pyNext (.ref z) >>= _) _ _ s
    refine wpAny_bind (pyNext_zip_str_end hh D hst fun h' hk' => ?_)
    have kk : ∀ b o, b ∉ [S, z, TO, i1, i2] → s.heap.get? b = some o → h'.get? b = some o := fun b o hb e => by obtain ⟨_, b1, b2, b3, b4⟩ := bad4 hb; exact hk' b o b1 b2 b3 b4 e
    exact wpAny_pure (hR h' s.toks acc c kk (hk' _ _ Sz STO Si1 Si2 hS) (hacc.keep kk))
  | succ j ih =>
    intro k s acc c hj hk hst hS hacc h00 hR
    have hlt : k < x.cps.size := by lia
    have hxk : x.cps[k]? = some x.cps[k] := Array.getElem?_eq_getElem hlt
    have hyk : ys[k]? = some ys[k] := Array.getElem?_eq_getElem (by lia)
    refine codeAny_builtin F.entry_extend_loop ?_
    rw [Around.under_plainId F.plain_extend_loop _]
    show wpAny _ A.in1 (pyNext (.ref z) >>= _) _ _ s
    refine wpAny_bind (pyNext_zip_str D hst hxk hyk fun T u h' tk hT hP hst' hk' => ?_)
    have hS' := hk' _ _ Sz STO Si1 Si2 hS
    show wpAny _ A.in1 (updateSeq S (·.push (.ref T)) >>= _) _ _ _
    refine wpAny_bind ?_
    have liv : ∀ {b : Addr} {o : Obj}, s.heap.get? b = some o → T ≠ b := fun e q => by rw [← q, hT] at e; cases e
    obtain ⟨f0, f1, hz, _⟩ := hst.z
    obtain ⟨a, b, hTO⟩ := hst.TO
    have hTb : T ∉ [S, z, TO, i1, i2] := by
      simp only [List.mem_cons, List.not_mem_nil, or_false, not_or]
      exact ⟨liv hS, liv hz, liv hTO, by obtain ⟨_, e, _⟩ := hst.i1; exact liv e, by obtain ⟨_, e, _⟩ := hst.i2; exact liv e⟩
    have kk : ∀ b o, b ∉ [S, z, TO, i1, i2] → s.heap.get? b = some o → h'.get? b = some o := fun b o hb e => by obtain ⟨_, b1, b2, b3, b4⟩ := bad4 hb; exact hk' b o b1 b2 b3 b4 e
    have up : ∀ b o, b ≠ S → h'.get? b = some o → (h'.update S (Obj.mapSeq (·.push (.ref T)))).get? b = some o := fun b o hb e => (Heap.get?_update_other _ _ (Ne.symm hb)).trans e
    have kk2 : ∀ b o, b ∉ [S, z, TO, i1, i2] → s.heap.get? b = some o → (h'.update S (Obj.mapSeq (·.push (.ref T)))).get? b = some o := fun b o hb e => up b o (bad4 hb).1 (kk b o hb e)
    have hT0 : h0.get? T = none := by
      cases e : h0.get? T with
      | none => rfl
      | some o => rw [h00 _ _ e] at hT; cases hT
    have st2 : ZSt x t l ys z TI TO i1 i2 (k + 1) (h'.update S (Obj.mapSeq (·.push (.ref T)))) := by
      obtain ⟨⟨f0, f1, a1, a2⟩, a3, ⟨b1, b2, a4⟩, a5, a6, a7⟩ := hst'
      exact ⟨⟨f0, f1, up _ _ (Ne.symm Sz) a1, a2⟩, up _ _ (Ne.symm STI) a3, ⟨b1, b2, up _ _ (Ne.symm STO) a4⟩, strIter_at a5 fun o => up _ o (Ne.symm Si1), a6.at fun o => up _ o (Ne.symm Si2), a7.at fun o => up _ o (Ne.symm Sl)⟩
    have hP2 : PO h0 x ys [S, z, TO, i1, i2] (h'.update S (Obj.mapSeq (·.push (.ref T)))) k (.ref T) := ⟨T, u, _, _, rfl, hxk, hyk, up _ _ (bad4 hTb).1 hP, hTb, hT0⟩
    refine wpAny_updateSeq hS' rfl (wpAny_pure ⟨plainId_quiet F.plain_extend_loop _, ih (k + 1) _ (acc.push (.ref T)) _ (by lia) hlt st2 (Heap.get?_update_self _ hS' rfl) ((hacc.keep kk2).push hP2) (fun b o e => kk2 b o (hbad b o e) (h00 b o e)) fun h'' tk'' acc' c' hk'' hS'' hacc'' => ?_⟩)
      (by rw [hacc.1]; lia) (by show (acc.push (.ref T)).size ≤ sizeLine + 1; rw [Array.size_push, hacc.1]; lia)
    exact hR h'' tk'' acc' c' (fun b o hb e => hk'' b o hb (kk2 b o hb e)) hS'' hacc''
theorem pyIter_zip {E : Value → Shared → Prop} {s : Shared} {f0 f1 : Value} {Q : Value → Shared → Prop} (hz : ZIs s.heap z TI TO f0 f1) (h : Q (.ref z) s) : wpAny (model prog w) A (pyIter (.ref z)) Q E s := by
  have hT : s.TypeIs (.ref z) "zip" := ⟨_, hz, rfl⟩
  refine wpAny_pyIter_slot hT F.slot_zip_iter (wpAny_call_entry F.slot_zip_iter hT F.entry_zip_iter ?_ (F.args_zip_iter_1 _))
  show wpAny _ _ (ret (.ref z)) _ _ s
  exact wpAny_pure ⟨_, rfl, "zip", _, hT, F.slot_zip_next.lookup, h⟩
theorem ZSt.keep {k : Nat} {h h' : Heap} (st : ZSt x t l ys z TI TO i1 i2 k h) (hk : ∀ b o, b ∈ [z, TI, TO, i1, i2, l] → h.get? b = some o → h'.get? b = some o) : ZSt x t l ys z TI TO i1 i2 k h' := by
  obtain ⟨⟨f0, f1, a1, a2⟩, a3, ⟨b1, b2, a4⟩, a5, a6, a7⟩ := st
  exact ⟨⟨f0, f1, hk _ _ (by simp) a1, a2⟩, hk _ _ (by simp) a3, ⟨b1, b2, hk _ _ (by simp) a4⟩, strIter_at a5 fun o => hk _ o (by simp), a6.at fun o => hk _ o (by simp), a7.at fun o => hk _ o (by simp)⟩
theorem call_list_zip {E : Value → Shared → Prop} {s : Shared} {Q : Value → Shared → Prop} (hh : A.handled = none) (hn : x.cps.size ≤ 1000) (hy : x.cps.size ≤ ys.size) (D : ZipApart z TI TO i1 i2 l l) (st : ZSt x t l ys z TI TO i1 i2 0 s.heap) (h0 : Heap)
    (h00 : ∀ b o, h0.get? b = some o → s.heap.get? b = some o) (hbad : ∀ b o, h0.get? b = some o → b ∉ [s.heap.objs.size, z, TO, i1, i2])
    (hQ : ∀ h' tk acc c, (∀ b o, h0.get? b = some o → h'.get? b = some o) → h'.get? s.heap.objs.size = some { cls := .type "list", dict := none, data := .seq acc c, slots := #[] } → POs h0 x ys [s.heap.objs.size, z, TO, i1, i2] h' acc x.cps.size → Q (.ref s.heap.objs.size) { s with heap := h', toks := tk }) :
    wpAny (model prog w) A (call (.type "list") [.ref z]) Q E s := by
  obtain ⟨f0, f1, hz, hf⟩ := st.z
  obtain ⟨a, b, hTO⟩ := st.TO
  have lt : ∀ {b : Addr} {o : Obj}, s.heap.get? b = some o → s.heap.objs.size ≠ b := fun e => Nat.ne_of_gt (Heap.lt_size e)
  have Sa : s.heap.objs.size ∉ [z, TI, TO, i1, i2, l] := by
    simp only [List.mem_cons, List.not_mem_nil, or_false, not_or]
    exact ⟨lt hz, lt st.TI, lt hTO, by obtain ⟨_, e, _⟩ := st.i1; exact lt e, by obtain ⟨_, e, _⟩ := st.i2; exact lt e, by obtain ⟨_, e, _⟩ := st.l; exact lt e⟩
  refine callType_codes (Q₁ := fun obj s₁ => obj = .ref s.heap.objs.size ∧ s₁ = { s with heap := s.heap.push { cls := .type "list", data := .seq #[] } }) F.called_list (F.typeCall_list_1 _) F.entry_list_init
    (code_list_new _ ⟨rfl, rfl⟩) fun obj s₁ h₁ => ?_
  obtain ⟨rfl, rfl⟩ := h₁
  have hS : (s.heap.push { cls := .type "list", data := .seq #[] }).get? s.heap.objs.size = some { cls := .type "list", data := .seq #[] } := Heap.get?_push_size _ rfl
  generalize hSS : s.heap.objs.size = S at *
  have neS : ∀ b ∈ [z, TI, TO, i1, i2, l], b ≠ S := fun b hb q => Sa (q ▸ hb)
  have st1 : ZSt x t l ys z TI TO i1 i2 0 (s.heap.push { cls := .type "list", data := .seq #[] }) := st.keep fun b o _ e => Heap.get?_push_of_some _ e
  have h1 : ∀ b o, h0.get? b = some o → (s.heap.push { cls := .type "list", data := .seq #[] }).get? b = some o := fun b o e => Heap.get?_push_of_some _ (h00 b o e)
  refine ⟨⟨_, hS, rfl⟩, F.args_list_init_2 _ _, ?_⟩
  generalize (s.heap.push { cls := .type "list", data := .seq #[] }) = hp at *
  show wpAny _ A.in1.in1 (do let old ← Builtin.List.listItems (.ref S); Builtin.List.listUpdate (.ref S) (fun _ => #[]); letGo old.toList.reverse; Builtin.List.listExtendWith (.ref S) (.ref z) .none) _ _ _
  refine wpAny_bind ?_
  unfold Builtin.List.listItems
  refine wpAny_bind (wpAny_seqItems hS rfl (wpAny_pure ?_))
  show wpAny _ A.in1.in1 (updateSeq S (fun _ => #[]) >>= fun _ => letGo (#[] : Array Value).toList.reverse >>= fun _ => Builtin.List.listExtendWith (.ref S) (.ref z) .none) _ _ _
  refine wpAny_bind (wpAny_updateSeq hS rfl ?_)
  have hS₂ := Heap.get?_update_self (Obj.mapSeq (fun _ => (#[] : Array Value))) hS rfl
  have oth : ∀ b o, b ≠ S → hp.get? b = some o → (hp.update S (Obj.mapSeq (fun _ => (#[] : Array Value)))).get? b = some o :=
    fun b o hb e => (Heap.get?_update_other _ _ (Ne.symm hb)).trans e
  refine wpAny_bind (wpAny_letGo ?_)
  have st2 := st1.keep fun b o hb e => oth b o (neS b hb) e
  have h2 : ∀ b o, h0.get? b = some o → (hp.update S (Obj.mapSeq (fun _ => (#[] : Array Value)))).get? b = some o := fun b o e => oth b o (fun q => hbad b o e (by rw [q]; simp)) (h1 b o e)
  generalize (hp.update S (Obj.mapSeq (fun _ => (#[] : Array Value)))) = hp2 at *
  obtain ⟨g0, g1, hz2, _⟩ := st2.z
  unfold Builtin.List.listExtendWith
  refine wpAny_bind (wpAny_typeOf (T := "zip") ⟨_, hz2, rfl⟩ ?_)
  have e1 : Builtin.List.listSameRef (.ref S) (.ref z) = false := by
    have : S ≠ z := fun q => Sa (by rw [q]; simp)
    simp [Builtin.List.listSameRef, this]
  have e2 : (Value.type "zip" == Value.type "list") = false := by decide
  have e3 : (Value.type "zip" == Value.type "tuple") = false := by decide
  simp only [e1, e2, e3, Bool.or_false, Bool.false_eq_true, if_false]
  refine wpAny_bind (pyIter_zip hz2 ?_)
  refine wpAny_bind (wpAny_holding ?_)
  unfold Builtin.List.listLengthHint
  refine wpAny_bind (wpAny_specialOf (T := "zip") ⟨_, hz2, rfl⟩ zip_no_len ?_)
  show wpAny _ A.in1.in1 (specialOf (Value.ref z) (Str.ofString "__length_hint__") >>= _) _ _ _
  refine wpAny_bind (wpAny_specialOf (T := "zip") ⟨_, hz2, rfl⟩ zip_no_hint ?_)
  refine wpAny_pure ?_
  show wpAny _ A.in1.in1 (rule "list.extend.makes-room" >>= fun _ => Builtin.List.listTouch (.ref S) >>= fun _ =>
    again (.builtin "list.extend.loop" ⟨[.ref S, .ref z, .none], []⟩)) _ _ _
  refine wpAny_bind (wpAny_rule ?_)
  refine wpAny_bind ?_
  show wpAny _ A.in1.in1 (updateSeq S (·.push .none) >>= fun _ => updateSeq S (·.pop)) _ _ _
  refine wpAny_bind (wpAny_updateSeq hS₂ rfl ?_)
  have hS₃ := Heap.get?_update_self (Obj.mapSeq (·.push Value.none)) hS₂ rfl
  refine wpAny_updateSeq (hz := by seq_fits) hS₃ rfl ?_
  have hS₄ := Heap.get?_update_self (Obj.mapSeq (·.pop)) hS₃ rfl
  have oth2 : ∀ b o, b ≠ S → hp2.get? b = some o → ((hp2.update S (Obj.mapSeq (·.push Value.none))).update S (Obj.mapSeq (·.pop))).get? b = some o :=
    fun b o hb e => (Heap.get?_update_other _ _ (Ne.symm hb)).trans ((Heap.get?_update_other _ _ (Ne.symm hb)).trans e)
  refine wpAny_pure ⟨plainId_quiet F.plain_extend_loop _, extend_loop_zip (A := A.in1) hh hn hy D S Sa .none h0 hbad x.cps.size 0 _ #[] _ rfl (Nat.zero_le _)
    (st2.keep fun b o hb e => oth2 b o (neS b hb) e) hS₄ ⟨rfl, fun i v e => by simp at e⟩ (fun b o e => oth2 b o (fun q => hbad b o e (by rw [q]; simp)) (h2 b o e)) fun h' tk acc' c' hk hS' hacc => ?_⟩
  exact ⟨rfl, hQ h' tk acc' c' (fun b o e => hk b o (hbad b o e) (oth2 b o (fun q => hbad b o e (by rw [q]; simp)) (h2 b o e))) hS' hacc⟩
end
end Mine
namespace Mine
theorem entry_zip_ga : entryFor table "zip.__getattribute__" = some Builtin.«object.__getattribute__» :=
  entryFor_alias (id' := "object.__getattribute__") (by kernel_rfl) (by first | rfl | decide +kernel) (by decide +kernel) (by kernel_rfl)
theorem lk_zip_keys : typeLookup (.type "zip") "keys" = pure none := by rw [typeLookup_type, builtinLookup_eq_fast]; kernel_rfl
section
variable {prog : Program} {w : World} {A : Around} {E : Value → Shared → Prop} {h : Heap} {g : Array GenState} {d : Drawn} {t : Nat} {os : OsState} {a : Addr} {o : Obj}
theorem keys_entry_zip {tk : Tok} {Q : Fin → Shared → Prop} {fs : Array Value} (hh : A.handled = none) (hx : h.get? a = some { cls := .type "zip", dict := none, data := .fields fs, slots := #[] })
    (hE : ∀ h' t' e, Heap.NewAttrErr h h' e (.ref a) "keys" → E (.ref e) ⟨h', g, d, t', os⟩) :
    wpAny (model prog w) A (Builtin.«object.__getattribute__» ⟨[.ref a, .str "keys" tk], []⟩) Q E ⟨h, g, d, t, os⟩ := by
  have hT : (⟨h, g, d, t, os⟩ : Shared).TypeIs (.ref a) "zip" := ⟨_, hx, rfl⟩
  have f4 := lk_zip_keys
  repeat (any_goals (first | assumption | wp_step))
  exact wpAny_raiseAttrError hh hE (attrMsg_fits (by decide +kernel) (by decide))
theorem zip_no_getattr : typeLookup (.type "zip") "__getattr__" = pure none := by rw [typeLookup_type, builtinLookup_eq_fast]; kernel_rfl
theorem keys_zip {Q : Option Value → Shared → Prop} {fs : Array Value} (hh : A.handled = none) (hx : h.get? a = some { cls := .type "zip", dict := none, data := .fields fs, slots := #[] })
    (hQ : ∀ h' t', (∀ b o, h.get? b = some o → h'.get? b = some o) → Q none ⟨h', g, d, t', os⟩) :
    wpAny (model prog w) A (getAttr? (.ref a) "keys") Q E ⟨h, g, d, t, os⟩ := by
  have hT : ∀ t, (⟨h, g, d, t, os⟩ : Shared).TypeIs (.ref a) "zip" := fun t => ⟨_, hx, rfl⟩
  unfold getAttr? getAttrBy?
  refine wpAny_bind (wpAny_mkText ?_)
  refine wpAny_bind (wpAny_attempt ?_)
  unfold getAttrBy
  refine wpAny_holding ?_
  refine wpAny_bind (wpAny_typeOf (hT _) ?_)
  refine wpAny_bind (wpAny_of_eq F.slot_zip_getattribute.lookup ?_)
  show wpAny _ _ (getAttrByItsOwn (.ref a) (.str "keys" t) (.type "zip") (.builtin "zip.__getattribute__") false false) _ _ _
  unfold getAttrByItsOwn
  refine wpAny_bind (wpAny_of_eq (a := none) rfl ?_)
  refine wpAny_bind (wpAny_attempt (wpAny_holding ?_))
  show wpAny _ _ (boundAndCalled (.builtin "zip.__getattribute__") (.ref a) (.str "keys" t)) _ _ _
  unfold boundAndCalled
  refine wpAny_bind (wpAny_of_eq (F.slot_zip_getattribute.bind (.ref a)) ?_)
  refine wpAny_call_entry F.slot_zip_getattribute (hT _) entry_zip_ga (keys_entry_zip hh hx fun h' t' e hx' => ?_) (F.args_zip_getattribute_2 _ _)
  obtain ⟨t2, u2, he⟩ := hx'.there
  show wpAny _ _ (getattributeRaised _ _ _ _ _ _ _) _ _ _
  unfold getattributeRaised
  refine wpAny_bind (wpAny_isInstance (T := "AttributeError") (b := true) ⟨_, he, rfl⟩ sub_AttributeError ?_)
  rw [if_pos rfl]
  refine wpAny_bind (wpAny_of_eq (a := none) zip_no_getattr ?_)
  unfold hookOrError
  dsimp only
  unfold attributeErrorLeaves
  extract_lets
  refine wpAny_ite_true (by rfl) (wpAny_bind (wpAny_throw ?_))
  show wpAny _ _ (isInstance (.ref e) (.type "AttributeError") >>= _) _ _ _
  refine wpAny_bind (wpAny_isInstance (T := "AttributeError") (b := true) ⟨_, he, rfl⟩ sub_AttributeError ?_)
  rw [if_pos rfl]
  exact wpAny_pure (hQ _ _ hx'.keeps)
end
end Mine
namespace Mine
theorem plain_update_loop : plainId "dict.update.loop" = true := by decide +kernel
theorem entry_update_loop : entryFor table "dict.update.loop" = some Builtin.«dict.update.loop» := entryFor_of_fast (by kernel_rfl)
noncomputable def zpr (x : Str) (ys : Array Value) (k : Nat) : List (Str × Value) := (List.range k).map fun i => ((⟨#[x.cps.getD i 0]⟩ : Str), ys.getD i .none)
theorem zpr_succ {x : Str} {ys : Array Value} {k c : Nat} {y : Value} (hx : x.cps[k]? = some c) (hy : ys[k]? = some y) : merged [] (zpr x ys (k + 1)) = stored (merged [] (zpr x ys k)) (⟨#[c]⟩ : Str) y := by
  have e1 : x.cps.getD k 0 = c := by rw [Array.getD_eq_getD_getElem?, hx]; rfl
  have e2 : ys.getD k .none = y := by rw [Array.getD_eq_getD_getElem?, hy]; rfl
  unfold merged zpr
  rw [List.range_succ, List.map_append, List.foldl_append, List.map_cons, List.map_nil, e1, e2]; rfl
theorem zpr_len (x : Str) (ys : Array Value) (k : Nat) : (merged [] (zpr x ys k)).length ≤ k := by
  have := merged_length_le ([] : List (Str × Value)) (zpr x ys k)
  simpa [zpr] using this
section
variable {prog : Program} {w : World} {A : Around} {R : Result → Shared → Prop} {x : Str} {t : Tok} {l : Addr} {ys : Array Value} {z TI TO i1 i2 : Addr}
theorem update_loop_zip (hh : A.handled = none) (hn : x.cps.size ≤ 1000) (hy : x.cps.size ≤ ys.size) (D : ZipApart z TI TO i1 i2 l l) (d : Addr) (hda : d ∉ [z, TI, TO, i1, i2, l]) (res : Value) (h0 : Heap) (hbad : ∀ b o, h0.get? b = some o → b ∉ [d, z, TO, i1, i2]) :
    ∀ (j k : Nat) (s : Shared) (i : Int), x.cps.size - k = j → k ≤ x.cps.size → ZSt x t l ys z TI TO i1 i2 k s.heap → s.heap.DictOf (strKind prog w) d (merged [] (zpr x ys k)) → (∀ b o, h0.get? b = some o → s.heap.get? b = some o) →
    (∀ h' tk, (∀ b o, h0.get? b = some o → h'.get? b = some o) → h'.DictOf (strKind prog w) d (merged [] (zpr x ys x.cps.size)) → R (.ok (.ret res)) { s with heap := h', toks := tk }) →
    codeAny (model prog w) A (.builtin "dict.update.loop" ⟨[.ref d, .ref z, rawInt i, res], []⟩) R s := by
  have sl : sizeLine = 16777216 := by decide
  simp only [List.mem_cons, List.not_mem_nil, or_false, not_or] at hda
  obtain ⟨dz, dTI, dTO, di1, di2, dl⟩ := hda
  have bad4 : ∀ {b : Addr}, b ∉ [d, z, TO, i1, i2] → b ≠ d ∧ b ≠ z ∧ b ≠ TO ∧ b ≠ i1 ∧ b ≠ i2 := fun h => by
    simpa only [List.mem_cons, List.not_mem_nil, or_false, not_or] using h
  intro j
  induction j with
  | zero =>
    intro k s i hj hk hst hd h00 hR
    have hin : k = x.cps.size := by lia
    subst hin
    refine codeAny_builtin entry_update_loop ?_
    rw [Around.under_plainId plain_update_loop _]
    show wpAny _ A.in1 (pyNext (.ref z) >>= _) _ _ s
    refine wpAny_bind (pyNext_zip_str_end hh D hst fun h' hk' => ?_)
    show wpAny _ _ (Builtin.Dict.addKeywords d [] >>= _) _ _ _
    refine wpAny_bind (wpAny_pure (wpAny_pure (hR h' s.toks (fun b o e => by obtain ⟨_, b1, b2, b3, b4⟩ := bad4 (hbad b o e); exact hk' b o b1 b2 b3 b4 (h00 b o e)) ?_)))
    obtain ⟨od, es, ep, ho, r⟩ := hd
    exact ⟨od, es, ep, hk' _ _ dz dTO di1 di2 ho, r⟩
  | succ j ih =>
    intro k s i hj hk hst hd h00 hR
    have hlt : k < x.cps.size := by lia
    have hxk : x.cps[k]? = some x.cps[k] := Array.getElem?_eq_getElem hlt
    have hyk : ys[k]? = some ys[k] := Array.getElem?_eq_getElem (by lia)
    refine codeAny_builtin entry_update_loop ?_
    rw [Around.under_plainId plain_update_loop _]
    show wpAny _ A.in1 (pyNext (.ref z) >>= _) _ _ s
    refine wpAny_bind (pyNext_zip_str D hst hxk hyk fun T u h' tk hT hP hst' hk' => ?_)
    have hd' : h'.DictOf (strKind prog w) d (merged [] (zpr x ys k)) := by
      obtain ⟨od, es, ep, ho, r⟩ := hd
      exact ⟨od, es, ep, hk' _ _ dz dTO di1 di2 ho, r⟩
    refine wpAny_bind (wpAny_holding (wpAny_bind (wpAny_tryCatch ?_)))
    unfold Builtin.Dict.pairItems
    refine wpAny_bind (wpAny_typeOf (T := "tuple") ⟨_, hP, rfl⟩ ?_)
    rw [if_pos (by decide)]
    refine wpAny_bind (wpAny_seqItems hP rfl (wpAny_pure ?_))
    refine wpAny_holding (wpAny_dictSet_pairs (knd := strKind prog w) (k := (⟨#[x.cps[k]]⟩ : Str)) (hsz := by have := zpr_len x ys k; lia) (strKind_is _ _ _ _) hd' fun h'' hd'' hs'' => ?_)
    have h1 : ∀ b o, b ∉ [d, z, TO, i1, i2] → s.heap.get? b = some o → h''.get? b = some o := fun b o hb e => by obtain ⟨b0, b1, b2, b3, b4⟩ := bad4 hb; exact hs''.extBut _ _ b0 (hk' b o b1 b2 b3 b4 e)
    rw [← zpr_succ hxk hyk] at hd''
    refine wpAny_pure ⟨plainId_quiet plain_update_loop _, ih (k + 1) _ (i + 1) (by lia) hlt (hst'.keep fun b o hb e => hs''.extBut _ _ ?_ e) hd'' (fun b o e => h1 b o (hbad b o e) (h00 b o e)) fun h3 tk3 hk3 hd3 => hR h3 tk3 hk3 hd3⟩
    simp only [List.mem_cons, List.not_mem_nil, or_false] at hb
    rcases hb with rfl | rfl | rfl | rfl | rfl | rfl
    · exact Ne.symm dz
    · exact Ne.symm dTI
    · exact Ne.symm dTO
    · exact Ne.symm di1
    · exact Ne.symm di2
    · exact Ne.symm dl
end
end Mine
namespace Mine
theorem mro_dict : mroOf (.type "dict") = pure [.type "dict", .type "object"] := by rw [mroOf_type]; kernel_rfl
theorem lookup_dict_new : typeLookup (.type "dict") "__new__" = pure (some (.builtin "dict.__new__")) := by rw [typeLookup_type, builtinLookup_eq_fast]; kernel_rfl
theorem called_dict : TypeCalled "dict" "dict.__new__" "dict.__init__" :=
  ⟨by decide +kernel, by decide +kernel, ⟨_, _, mro_dict⟩, madeBy_type mro_dict lookup_dict_new (by decide +kernel), by decide +kernel, by rw [isSubtype_type]; kernel_rfl, PySem.F.slot_dict_init⟩
theorem typeCall_dict_1 (a : Value) : checkTypeCall "dict" ⟨[a], []⟩ = pure () := by kernel_rfl
theorem newCall_dict_1 (a : Value) : checkBuiltinCall "dict.__new__" ⟨[.type "dict", a], []⟩ = pure () := by kernel_rfl
theorem entry_dict_new : entryFor table "dict.__new__" = some Builtin.«dict.__new__» := entryFor_of_tree (by kernel_rfl)
theorem plain_dict_new : plainId "dict.__new__" = true := by decide +kernel
section
variable {prog : Program} {w : World} {A : Around} {E : Value → Shared → Prop} {s : Shared}
theorem code_dict_new (a : Value) {Q₁ : Value → Shared → Prop}
    (h : Q₁ (.ref s.heap.objs.size) { s with heap := s.heap.push { cls := .type "dict", data := .dict #[] } }) :
    codeAny (model prog w) A (.call (.builtin "dict.__new__") ⟨[.type "dict", a], []⟩) (wants Q₁ E) s := by
  refine codeAny_of_tree ?_
  show wpAny _ A.in1 (do checkBuiltinCall "dict.__new__" ⟨[.type "dict", a], []⟩; again (.builtin "dict.__new__" ⟨[.type "dict", a], []⟩)) _ _ s
  refine wpAny_bind (wpAny_of_eq (newCall_dict_1 a) (wpAny_pure ⟨plainId_quiet plain_dict_new _, codeAny_builtin entry_dict_new ?_⟩))
  rw [Around.under_plainId plain_dict_new _]
  show wpAny _ _ (isType (.type "dict") >>= _) _ _ _
  refine wpAny_bind (wpAny_of_eq (a := true) (by kernel_rfl) ?_)
  refine wpAny_bind (wpAny_of_eq (a := true) (by rw [isSubtype_type]; kernel_rfl) ?_)
  refine wpAny_bind (wpAny_of_eq mro_dict ?_)
  exact wpAny_bind (wpAny_newObj_type (wpAny_pure h))
variable {x : Str} {t : Tok} {l : Addr} {ys : Array Value} {z TI TO i1 i2 : Addr}
theorem call_dict_zip {Q : Value → Shared → Prop} (hh : A.handled = none) (hn : x.cps.size ≤ 1000) (hy : x.cps.size ≤ ys.size) (D : ZipApart z TI TO i1 i2 l l) (st : ZSt x t l ys z TI TO i1 i2 0 s.heap) (h0 : Heap)
    (h00 : ∀ b o, h0.get? b = some o → s.heap.get? b = some o) (hbad : ∀ b o, h0.get? b = some o → b ∉ [s.heap.objs.size, z, TO, i1, i2])
    (hQ : ∀ h' tk, (∀ b o, h0.get? b = some o → h'.get? b = some o) → h'.DictOf (strKind prog w) s.heap.objs.size (merged [] (zpr x ys x.cps.size)) → Q (.ref s.heap.objs.size) { s with heap := h', toks := tk }) :
    wpAny (model prog w) A (call (.type "dict") [.ref z]) Q E s := by
  obtain ⟨f0, f1, hz, hf⟩ := st.z
  obtain ⟨a, b, hTO⟩ := st.TO
  have lt : ∀ {b : Addr} {o : Obj}, s.heap.get? b = some o → s.heap.objs.size ≠ b := fun e => Nat.ne_of_gt (Heap.lt_size e)
  have Sa : s.heap.objs.size ∉ [z, TI, TO, i1, i2, l] := by
    simp only [List.mem_cons, List.not_mem_nil, or_false, not_or]
    exact ⟨lt hz, lt st.TI, lt hTO, by obtain ⟨_, e, _⟩ := st.i1; exact lt e, by obtain ⟨_, e, _⟩ := st.i2; exact lt e, by obtain ⟨_, e, _⟩ := st.l; exact lt e⟩
  refine callType_codes (Q₁ := fun obj s₁ => obj = .ref s.heap.objs.size ∧ s₁ = { s with heap := s.heap.push { cls := .type "dict", data := .dict #[] } }) called_dict (typeCall_dict_1 _) PySem.F.entry_dict_init
    (code_dict_new _ ⟨rfl, rfl⟩) fun obj s₁ h₁ => ?_
  obtain ⟨rfl, rfl⟩ := h₁
  have hS : (s.heap.push { cls := .type "dict", data := .dict #[] }).get? s.heap.objs.size = some { cls := .type "dict", data := .dict #[] } := Heap.get?_push_size _ rfl
  have hD : (s.heap.push { cls := .type "dict", data := .dict #[] }).DictOf (strKind prog w) s.heap.objs.size ([] : List (Str × Value)) := Heap.DictOf.new s.heap
  generalize hSS : s.heap.objs.size = S at *
  have st1 : ZSt x t l ys z TI TO i1 i2 0 (s.heap.push { cls := .type "dict", data := .dict #[] }) := st.keep fun b o _ e => Heap.get?_push_of_some _ e
  have h1 : ∀ b o, h0.get? b = some o → (s.heap.push { cls := .type "dict", data := .dict #[] }).get? b = some o := fun b o e => Heap.get?_push_of_some _ (h00 b o e)
  refine ⟨⟨_, hS, rfl⟩, PySem.F.args_dict_init_2 _ _, ?_⟩
  have hz1 : ZIs (s.heap.push { cls := .type "dict", data := .dict #[] }) z TI TO f0 f1 := Heap.get?_push_of_some _ hz
  generalize (s.heap.push { cls := .type "dict", data := .dict #[] }) = hp at *
  show wpAny _ _ (Builtin.Dict.selfAndRest "__init__" ⟨[.ref S, .ref z], []⟩ >>= _) _ _ _
  refine wpAny_bind ?_
  unfold Builtin.Dict.selfAndRest
  refine wpAny_bind (wpAny_notOrdered_dict hD.typeIs ?_)
  show wpAny _ _ (pure (S, [Value.ref z])) _ _ _
  refine wpAny_pure ?_
  show wpAny _ _ (Builtin.Dict.updateFrom "dict.__init__" S (.ref z) [] .none) _ _ _
  unfold Builtin.Dict.updateFrom
  refine wpAny_bind (wpAny_typeOf (T := "zip") ⟨_, hz1, rfl⟩ ?_)
  rw [if_pos (by decide)]
  refine wpAny_bind (keys_zip hh hz1 fun h2 tk2 hk2 => ?_)
  rw [if_pos (by decide)]
  refine wpAny_bind (wpAny_rule ?_)
  have hz2 := hk2 _ _ hz1
  refine wpAny_bind (pyIter_zip hz2 ?_)
  refine wpAny_pure ⟨plainId_quiet plain_update_loop _, update_loop_zip (A := A.in1) hh hn hy D S Sa .none h0 hbad x.cps.size 0 _ 0 rfl (Nat.zero_le _)
    (st1.keep fun b o _ e => hk2 b o e) ?_ (fun b o e => hk2 b o (h1 b o e)) fun h' tk hk' hd' => ⟨rfl, hQ h' tk hk' hd'⟩⟩
  obtain ⟨od, es, ep, ho, r⟩ := hD
  exact ⟨od, es, ep, hk2 _ _ ho, r⟩
end
end Mine
namespace Mine
noncomputable def LL (C : Cx) (env : Env) (S : St) (av : AV) (items : List AV) : Prop := ∀ (Y D : List Addr) (s₀ s : Shared) v, Rel C Y s₀ D env S s → VR s.heap (Xo C Y env S) v av → ∃ l vs, v = .ref l ∧ s.heap.IsList l vs.toArray ∧ VRs s.heap (Xo C Y env S) vs items
theorem LL.lst {C : Cx} {env : Env} {S : St} {l : List AV} : LL C env S (.lst l) l := fun Y D s₀ s v R r => by
  refine VR.el_lst r fun _ _ _ e nx rs => ?_
  · exact ⟨_, _, rfl, isList_of e, rs⟩
theorem LL.mut {C : Cx} {env : Env} {S : St} {a : Addr} {l : List AV} (hM : (a, AO.list l) ∈ S.M) : LL C env S (.raw (.ref a)) l := fun Y D s₀ s v R r => by
  refine VR.el_raw r ?_
  obtain ⟨vs, kk, e, rs⟩ := R.ob _ hM
  exact ⟨_, _, rfl, isList_of e, rs⟩
noncomputable def zpA (x : Str) (l : List AV) (k : Nat) : List (Str × AV) := ((List.range k).map fun i => ((⟨#[x.cps.getD i 0]⟩ : Str), l.getD i .none)).foldl (fun d kv => aset d kv.1 kv.2) []
theorem zpA_succ (x : Str) (l : List AV) (k : Nat) : zpA x l (k + 1) = aset (zpA x l k) (⟨#[x.cps.getD k 0]⟩ : Str) (l.getD k .none) := by
  unfold zpA; rw [List.range_succ, List.map_append, List.foldl_append]; rfl
theorem zpA_rel {h : Heap} {X : List Addr} {x : Str} {vs : List Value} {l : List AV} (rs : VRs h X vs l) : ∀ k, k ≤ x.cps.size → k ≤ l.length → PRs h X (merged [] (zpr x vs.toArray k)) (zpA x l k)
  | 0, _, _ => .nil
  | k + 1, hx, hl => by
    have hv : k < vs.length := by rw [rs.length]; lia
    have e1 : x.cps[k]? = some x.cps[k] := Array.getElem?_eq_getElem (by lia)
    have e2 : vs.toArray[k]? = some vs[k] := by simp [hv]
    rw [zpr_succ e1 e2, zpA_succ]
    obtain ⟨v, hv', r⟩ := rs.get (i := k) (a := l[k]) (List.getElem?_eq_getElem (by lia))
    have e3 : vs[k] = v := by rw [List.getElem?_eq_getElem hv] at hv'; exact Option.some.inj hv'
    have e4 : x.cps.getD k 0 = x.cps[k] := by rw [Array.getD_eq_getD_getElem?, e1]; rfl
    have e5 : l.getD k .none = l[k] := by rw [List.getD_eq_getElem?_getD, List.getElem?_eq_getElem (by lia)]; rfl
    rw [e4, e5, e3]
    exact (zpA_rel rs k (by lia) (by lia)).stored r
section
variable {C : Cx} (ok : C.Ok) {n : Nat} {env : Env} {S : St}
include ok
theorem EV.dictZip {xd xz : Str} {e1 e2 : Expr} {pd pz p1 p0 : Pos} {x : Str} {av : AV} {l : List AV} {P : AV → St → Prop} (hd : PE C n env S (.Name xd pd) (.raw (.type "dict"))) (hz : PE C n env S (.Name xz pz) (.raw (.type "zip")))
    (h1 : PE C n env S e1 (.str x)) (h2 : PE C n env S e2 av) (hl : LL C env S av l) (hx : x.cps.all (· < 128) = true) (hn : x.cps.size ≤ 1000) (hy : x.cps.size ≤ l.length)
    (h : ∀ d, P (.raw (.ref d)) ⟨S.μ, S.M ++ [(d, .sdict (zpA x l x.cps.size))]⟩)
    (hs : starEach [Expr.Call (.Name xz pz) [e1, e2] [] p1] env = [(false, eval (.Call (.Name xz pz) [e1, e2] [] p1) env)] := by rfl)
    (he : starEach (e1 :: [e2]) env = (false, eval e1 env) :: starEach [e2] env := by rfl) (hplain : (backTo p1 (starEach [e2] env)).any (·.1) = false := by rfl)
    (he2 : starEach [e2] env = (false, eval e2 env) :: starEach [] env := by rfl) :
    EV C n env S (.Call (.Name xd pd) [.Call (.Name xz pz) [e1, e2] [] p1] [] p0) P := fun A Y s₀ D s Q ha R q => by
  refine Call_name1 hs (hd A Y s₀ D s _ ha R fun f s₁ a₁ S₁ p₁ R₁ K₁ r₁ => ?_)
  obtain ⟨rfl, rfl⟩ := p₁
  refine VR.el_raw r₁ ?_
  refine callWith_type1 ?_
  refine wpAny_Call_Name_kw (hz A Y s₀ D s₁ _ ha R₁ fun f s₂ a₂ S₂ p₂ R₂ K₂ r₂ => ?_)
  obtain ⟨rfl, rfl⟩ := p₂
  refine VR.el_raw r₂ ?_
  refine PyProof.Rows.callWith_type1 ?_ he hplain
  refine (PL.cons h1 (PL.cons h2 PL.nil he2) he : PL C n env S₂ p1 [e1, e2] [.str x, av]) A Y s₀ D s₂ _ ha R₂ fun vs s₃ l₃ S₃ p₃ R₃ K₃ r₃ => ?_
  obtain ⟨rfl, rfl⟩ := p₃
  refine VRs.el_cons r₃ fun _ _ ra rs => ?_
  ·
    refine VR.el_str ra fun t => ?_
    ·
      refine VRs.el_cons rs fun _ _ rb rs => ?_
      ·
        refine VRs.el_nil rs ?_
        obtain ⟨l2, ys, rfl, hl2, rys⟩ := hl Y D s₀ s₃ _ R₃ rb
        have hle : x.cps.size ≤ ys.toArray.size := by have e := rys.length; simp only [List.size_toArray]; lia
        refine call_zip_str hx hl2 fun h' z TI TO i1 i2 DD st gz gTO g1 g2 hk => ?_
        have hge : s₃.heap.objs.size ≤ h'.objs.size := by
          refine Nat.le_of_not_lt fun hlt => ?_
          have e := hl2
          obtain ⟨f0, f1, hz', _⟩ := st.z
          exact absurd (Nat.lt_of_lt_of_le (Heap.lt_size hz') (Nat.le_of_lt hlt)) (Nat.not_lt.mpr gz)
        have hbad : ∀ b o, s₃.heap.get? b = some o → b ∉ [h'.objs.size, z, TO, i1, i2] := fun b o e hb => by
          have lt := Heap.lt_size e
          simp only [List.mem_cons, List.not_mem_nil, or_false] at hb
          rcases hb with rfl | rfl | rfl | rfl | rfl
          · exact absurd lt (Nat.not_lt.mpr hge)
          · exact absurd lt (Nat.not_lt.mpr gz)
          · exact absurd lt (Nat.not_lt.mpr gTO)
          · exact absurd lt (Nat.not_lt.mpr g1)
          · exact absurd lt (Nat.not_lt.mpr g2)
        refine call_dict_zip ha.handled hn hle DD st s₃.heap hk hbad fun h'' tk hk2 hd2 => ?_
        have stp : SStp C.T [] s₃ { s₃ with heap := h'', toks := tk } := ⟨.of_keeps hk2, rfl, rfl, id⟩
        have hno : s₃.heap.get? h'.objs.size = none := by
          cases e : s₃.heap.get? h'.objs.size with
          | none => rfl
          | some o => exact absurd (Heap.lt_size e) (Nat.not_lt.mpr hge)
        obtain ⟨R', K'⟩ := Rel.newDict ok (sK C) R₃ hno (s' := { s₃ with heap := h'', toks := tk }) hd2 stp (zpA_rel rys x.cps.size (Nat.le_refl _) hy)
        exact q _ _ _ _ (h _) R' (((K₁.trans K₂).trans K₃).trans K') (.raw _)
end
end Mine
namespace Mine
noncomputable def zpL (x : Str) (l : List AV) (k : Nat) : List AV := (List.range k).map fun i => .tup [.str ⟨#[x.cps.getD i 0]⟩, l.getD i .none]
theorem VRs_of_get {h : Heap} {X : List Addr} : ∀ {vs : List Value} {l : List AV}, vs.length = l.length → (∀ (i : Nat) v a, vs[i]? = some v → l[i]? = some a → VR h X v a) → VRs h X vs l
  | [], [], _, _ => .nil
  | v :: vs, a :: l, e, k => .cons (k 0 v a rfl rfl) (VRs_of_get (by simpa using e) fun i v a h1 h2 => k (i + 1) v a (by simpa using h1) (by simpa using h2))
section
variable {C : Cx} (ok : C.Ok) {n : Nat} {env : Env} {S : St}
include ok
theorem PE.listZip {xd xz : Str} {e1 e2 : Expr} {pd pz p1 p0 : Pos} {x : Str} {av : AV} {l : List AV} (hd : PE C n env S (.Name xd pd) (.raw (.type "list"))) (hz : PE C n env S (.Name xz pz) (.raw (.type "zip")))
    (h1 : PE C n env S e1 (.str x)) (h2 : PE C n env S e2 av) (hl : LL C env S av l) (hx : x.cps.all (· < 128) = true) (hn : x.cps.size ≤ 1000) (hy : x.cps.size ≤ l.length)
    (hs : starEach [Expr.Call (.Name xz pz) [e1, e2] [] p1] env = [(false, eval (.Call (.Name xz pz) [e1, e2] [] p1) env)] := by rfl)
    (he : starEach (e1 :: [e2]) env = (false, eval e1 env) :: starEach [e2] env := by rfl) (hplain : (backTo p1 (starEach [e2] env)).any (·.1) = false := by rfl)
    (he2 : starEach [e2] env = (false, eval e2 env) :: starEach [] env := by rfl) :
    PE C n env S (.Call (.Name xd pd) [.Call (.Name xz pz) [e1, e2] [] p1] [] p0) (.lst (zpL x l x.cps.size)) := fun A Y s₀ D s Q ha R q => by
  refine Call_name1 hs (hd A Y s₀ D s _ ha R fun f s₁ a₁ S₁ p₁ R₁ K₁ r₁ => ?_)
  obtain ⟨rfl, rfl⟩ := p₁
  refine VR.el_raw r₁ ?_
  refine callWith_type1 ?_
  refine wpAny_Call_Name_kw (hz A Y s₀ D s₁ _ ha R₁ fun f s₂ a₂ S₂ p₂ R₂ K₂ r₂ => ?_)
  obtain ⟨rfl, rfl⟩ := p₂
  refine VR.el_raw r₂ ?_
  refine PyProof.Rows.callWith_type1 ?_ he hplain
  refine (PL.cons h1 (PL.cons h2 PL.nil he2) he : PL C n env S₂ p1 [e1, e2] [.str x, av]) A Y s₀ D s₂ _ ha R₂ fun vs s₃ l₃ S₃ p₃ R₃ K₃ r₃ => ?_
  obtain ⟨rfl, rfl⟩ := p₃
  refine VRs.el_cons r₃ fun _ _ ra rs => ?_
  ·
    refine VR.el_str ra fun t => ?_
    ·
      refine VRs.el_cons rs fun _ _ rb rs => ?_
      ·
        refine VRs.el_nil rs ?_
        obtain ⟨l2, ys, rfl, hl2, rys⟩ := hl Y D s₀ s₃ _ R₃ rb
        have hlen := rys.length
        have hle : x.cps.size ≤ ys.toArray.size := by simp only [List.size_toArray]; lia
        refine call_zip_str hx hl2 fun h' z TI TO i1 i2 DD st gz gTO g1 g2 hk => ?_
        have hge : s₃.heap.objs.size ≤ h'.objs.size := by
          refine Nat.le_of_not_lt fun hlt => ?_
          obtain ⟨f0, f1, hz', _⟩ := st.z
          exact absurd (Nat.lt_of_lt_of_le (Heap.lt_size hz') (Nat.le_of_lt hlt)) (Nat.not_lt.mpr gz)
        have hbad : ∀ b o, s₃.heap.get? b = some o → b ∉ [h'.objs.size, z, TO, i1, i2] := fun b o e hb => by
          have lt := Heap.lt_size e
          simp only [List.mem_cons, List.not_mem_nil, or_false] at hb
          rcases hb with rfl | rfl | rfl | rfl | rfl
          · exact absurd lt (Nat.not_lt.mpr hge)
          · exact absurd lt (Nat.not_lt.mpr gz)
          · exact absurd lt (Nat.not_lt.mpr gTO)
          · exact absurd lt (Nat.not_lt.mpr g1)
          · exact absurd lt (Nat.not_lt.mpr g2)
        refine call_list_zip ha.handled hn hle DD st s₃.heap hk hbad fun h'' tk acc c hk2 hS hacc => ?_
        have stp : SStp C.T [] s₃ { s₃ with heap := h'', toks := tk } := ⟨.of_keeps hk2, rfl, rfl, id⟩
        have hno : s₃.heap.get? h'.objs.size = none := by
          cases e : s₃.heap.get? h'.objs.size with
          | none => rfl
          | some o => exact absurd (Heap.lt_size e) (Nat.not_lt.mpr hge)
        have R' := R₃.go ok stp
        have hno2 : ∀ {a : Addr}, s₃.heap.get? a = none → a ∉ Xo C Y env S₃ := fun e q => (R₃.live q).ne e rfl
        refine q _ _ _ _ ⟨rfl, rfl⟩ R' (((K₁.trans K₂).trans K₃).trans (Kp.go R₃ stp)) (.lst (vs := acc.toList) (by simpa using hS) (hno2 hno) (VRs_of_get (by simp [zpL, hacc.1]) fun i v a hv ha => ?_))
        obtain ⟨T, u, cc, y, rfl, hxc, hyc, hT, _, hT0⟩ := hacc.2 i v (by simpa using hv)
        unfold zpL at ha
        rw [List.getElem?_map] at ha
        obtain ⟨j, hj, rfl⟩ := Option.map_eq_some_iff.mp ha
        have hij : j = i := by
          have := (List.getElem?_eq_some_iff.mp hj).2
          simpa using this.symm
        subst hij
        have hjl : j < x.cps.size := (Array.getElem?_eq_some_iff.mp hxc).1
        have e4 : x.cps.getD j 0 = cc := by rw [Array.getD_eq_getD_getElem?, hxc]; rfl
        obtain ⟨a', ha'⟩ : ∃ a', l[j]? = some a' := ⟨_, List.getElem?_eq_getElem (by lia)⟩
        obtain ⟨v', hv', rv⟩ := rys.get ha'
        have e5 : l.getD j .none = a' := by rw [List.getD_eq_getElem?_getD, ha']; rfl
        have e6 : v' = y := by
          have h1 : ys[j]? = some y := by simpa using hyc
          rw [hv'] at h1; exact Option.some.inj h1
        subst e6
        rw [e4, e5]
        exact .tup (vs := [.str ⟨#[cc]⟩ u, v']) hT (hno2 hT0) (.cons (.str ..) (.one ((Kp.go R₃ stp) _ _ rv)))
end
end Mine
end
section
open PySem PySem.W PySem.Calls PyProof.Rows
open PySem.SeqAt
namespace Mine
theorem eq_same_str {A : Around} {s : Shared} (x : Str) (t u : Tok) : EqAt A s (.str x t) (.str x u) true := by
  have := EqAt.str_str (A := A) (s := s) x t x u
  rwa [beq_self_eq_true] at this
theorem eq_piece {A : Around} {s : Shared} {X : List Addr} {v v' : Value} {q : Str × Str} (hu : A.units < cLine) (r : VR s.heap X v (pieceAV q)) (r' : VR s.heap X v' (pieceAV q)) : EqAt A s v v' true := by
  refine VR.iv_tup r ?_; clear r; intro _ _ _ e nx rs e_0; cases e_0
  ·
    rename_i a vs k
    refine VR.iv_tup r' ?_; clear r'; intro _ _ _ e' nx' rs' e_0; cases e_0
    ·
      rename_i b ws k'
      by_cases hab : a = b
      · subst hab; exact .same _
      · refine VRs.iv_cons rs ?_; clear rs; intro _ _ ra rs e_0; cases e_0
        ·
          refine VRs.iv_cons rs ?_; clear rs; intro _ _ rb rs e_0; cases e_0
          ·
            (refine VRs.iv_nil rs fun e_0 => ?_; subst e_0); (refine VR.iv_str ra fun _ e_0 => ?_; subst e_0); (refine VR.iv_str rb fun _ e_0 => ?_; subst e_0)
            refine VRs.iv_cons rs' ?_; clear rs'; intro _ _ ra' rs' e_0; cases e_0
            ·
              refine VRs.iv_cons rs' ?_; clear rs'; intro _ _ rb' rs' e_0; cases e_0
              ·
                (refine VRs.iv_nil rs' fun e_0 => ?_; subst e_0); (refine VR.iv_str ra' fun _ e_0 => ?_; subst e_0); (refine VR.iv_str rb' fun _ e_0 => ?_; subst e_0)
                refine .of_refs hab ?_
                have := RcAt.tuples (A := A) (s := s) (e := fun _ => true) (⟨_, e, rfl, _, rfl⟩ : s.heap.IsTuple a _) (⟨_, e', rfl, _, rfl⟩ : s.heap.IsTuple b _) hu (fun j h1 h2 => by
                  match j, h1, h2 with
                  | 0, _, _ => exact eq_same_str _ _ _
                  | 1, _, _ => exact eq_same_str _ _ _
                  | j + 2, h1, _ => exact absurd h1 (by simp))
                exact this
section
variable {C : Cx} (ok : C.Ok) {n : Nat} {env : Env} {S : St}
include ok
theorem O.ne_pieces {l : List (Str × Str)} : P2 C n env S (compareOp .NotEq) (.lst (l.map pieceAV)) (.lst (l.map pieceAV)) (.bool false) := .of ok fun A X s v v' Q ha _ r r' lt _ q => by
  refine VR.iv_lst r ?_; clear r; intro _ _ _ e nx rs e_0; cases e_0
  ·
    refine VR.iv_lst r' ?_; clear r'; intro _ _ _ e' nx' rs' e_0; cases e_0
    ·
      rename_i a vs k b ws k'
      have e1 : vs.length = (l.map pieceAV).length := rs.length
      have e2 : ws.length = (l.map pieceAV).length := rs'.length
      have hc : cLine = 9900 := by decide
      have hu : A.units < cLine := by have := ha.units; lia
      have hu1 : A.in1.units < cLine := by have := ha.units; simp; lia
      have key := RcNeAt.lists (A := A) (s := s) (e := fun _ => true) (isList_of e) (isList_of e') (by simp only [List.size_toArray]; lia) hu (fun j h1 h2 => by
        have hj : j < l.length := by simp only [List.size_toArray] at h1; rw [e1, List.length_map] at h1; exact h1
        have ha' : (l.map pieceAV)[j]? = some (pieceAV l[j]) := by rw [List.getElem?_map, List.getElem?_eq_getElem hj]; rfl
        obtain ⟨v1, hv1, r1⟩ := rs.get ha'
        obtain ⟨v2, hv2, r2⟩ := rs'.get ha'
        have g1 : vs.toArray[j] = v1 := by
          have : vs.toArray[j]? = some v1 := by simpa using hv1
          rw [Array.getElem?_eq_getElem h1] at this; exact Option.some.inj this
        have g2 : ws.toArray[j] = v2 := by
          have : ws.toArray[j]? = some v2 := by simpa using hv2
          rw [Array.getElem?_eq_getElem h2] at this; exact Option.some.inj this
        rw [g1, g2]
        exact eq_piece hu1 r1 r2)
      refine key C.prog C.w _ _ ?_
      have : (!(List.range vs.toArray.size).all fun _ => true) = false := by simp
      rw [this]
      exact q _ _ (.refl ..) (.bool _)
end
end Mine
end
section
open PySem PySem.W PySem.Calls PyProof.Rows
set_option tactic.hygienic false
namespace Mine
noncomputable def kasOk {α : Type} (n : Nat) (ans : Nat → Nat → Bool) (chk : α → Bool) : KasT α → Bool
  | .ret a => chk a
  | .ask i j k => decide (i < n) && decide (j < n) && kasOk n ans chk (k (ans i j))
theorem kasOk_wp {α : Type} {n : Nat} {ans : Nat → Nat → Bool} {chk : α → Bool} {cmp : Nat → Nat → (Bool → Shared → Prop) → Shared → Prop} {Inv : Shared → Prop}
    (hc : ∀ i j C s, i < n → j < n → Inv s → (∀ s', Inv s' → C (ans i j) s') → cmp i j C s) {Q : α → Shared → Prop} (hq : ∀ a s, chk a = true → Inv s → Q a s) :
    ∀ (t : KasT α) (s : Shared), kasOk n ans chk t = true → Inv s → t.kasWp cmp Q s
  | .ret a, s, h, hi => hq a s h hi
  | .ask i j k, s, h, hi => by
    unfold kasOk at h
    rw [Bool.and_eq_true, Bool.and_eq_true, decide_eq_true_eq, decide_eq_true_eq] at h
    exact hc i j _ s h.1.1 h.1.2 hi fun s' hi' => kasOk_wp hc hq (k (ans i j)) s' h.2 hi'
noncomputable def inserts (x : Nat) : List Nat → List (List Nat)
  | [] => [[x]]
  | y :: l => (x :: y :: l) :: (inserts x l).map (y :: ·)
theorem mem_inserts (x : Nat) : ∀ (a b : List Nat), a ++ x :: b ∈ inserts x (a ++ b)
  | [], [] => by simp [inserts]
  | [], y :: b => by simp [inserts]
  | y :: a, b => by
    show y :: (a ++ x :: b) ∈ inserts x (y :: (a ++ b))
    unfold inserts
    exact List.mem_cons_of_mem _ (List.mem_map.mpr ⟨_, mem_inserts x a b, rfl⟩)
noncomputable def permsOf : List Nat → List (List Nat)
  | [] => [[]]
  | x :: s => (permsOf s).flatMap (inserts x)
theorem mem_perms : ∀ (s l : List Nat), l.Perm s → l ∈ permsOf s
  | [], l, h => by rw [List.perm_nil.mp h]; simp [permsOf]
  | x :: s, l, h => by
    obtain ⟨a, b, rfl⟩ := List.append_of_mem (h.mem_iff.mpr (List.mem_cons_self ..))
    have h2 : (a ++ b).Perm s := (List.perm_middle.symm.trans h).cons_inv
    exact List.mem_flatMap.mpr ⟨_, mem_perms s _ h2, mem_inserts x a b⟩
noncomputable def sortChk (l : List Nat) : Bool := kasOk 6 (fun i j => decide (l.getD i 0 < l.getD j 0)) (fun p : Array Nat => p.toList.map (fun i => l.getD i 0) == [0, 1, 2, 3, 4, 5] && p.toList.all (· < 6)) (kas_sort 6)
theorem sortChk_all : (permsOf [0, 1, 2, 3, 4, 5]).all sortChk = true := by decide +kernel
theorem sort_six {l : List Nat} (h : l.Perm [0, 1, 2, 3, 4, 5]) : sortChk l = true := List.all_eq_true.mp sortChk_all l (mem_perms _ _ h)
end Mine
end
section
open PySem PySem.W PySem.Calls PyProof.Rows
open PySem.SeqAt
set_option tactic.hygienic false
namespace Mine
noncomputable def sixLt (σ : List Nat) (i j : Nat) : Bool := decide (σ.getD i 0 < σ.getD j 0)
noncomputable def sixChk (σ : List Nat) (p : Array Nat) : Bool := p.toList.map (fun i => σ.getD i 0) == [0, 1, 2, 3, 4, 5] && p.toList.all (· < 6)
theorem six_ok {σ : List Nat} (h : σ.Perm [0, 1, 2, 3, 4, 5]) : kasOk 6 (sixLt σ) (sixChk σ) (kas_sort 6) = true := sort_six h
section
variable {prog : Program} {w : World} {A : Around} {E : Value → Shared → Prop} {s : Shared}
theorem sort_list_six {σ : List Nat} (hσ : σ.Perm [0, 1, 2, 3, 4, 5]) {a : Addr} {vs : List Value} {n : Nat} {P : PySem.Fin → Shared → Prop} (ho : s.heap.get? a = some (seqObj "list" vs.toArray n)) (h6 : vs.length = 6)
    (hk : ∀ h' (Q : SortKind → Shared → Prop), (∀ b o, b ≠ a → s.heap.get? b = some o → h'.get? b = some o) → Q (tuples' true) { s with heap := h' } → wpAny (model prog w) A (keyKind' vs.toArray) Q (fun _ _ => False) { s with heap := h' })
    (hc : ∀ h' i j (C : Bool → Shared → Prop), i < 6 → j < 6 → (∀ b o, b ≠ a → s.heap.get? b = some o → h'.get? b = some o) → C (sixLt σ i j) { s with heap := h' } → kas_ask prog w A (tuples' true) vs i j C { s with heap := h' })
    (hP : ∀ h' p c, sixChk σ p = true → (∀ b o, b ≠ a → s.heap.get? b = some o → h'.get? b = some o) → h'.get? a = some (seqObj "list" (List.toArray (p.toList.map fun i => vs.getD i Value.none)) c) → P (.done (.ret .none)) { s with heap := h' }) :
    wpAny (model prog w) A (Builtin.«list.sort» ⟨[.ref a], []⟩) P E s := by
  have ha : a < s.heap.objs.size := Heap.lt_size ho
  have s1 := Heap.SameBut.update s.heap a (Obj.mapSeq fun _ => (#[] : Array Value))
  obtain ⟨e1, ho1⟩ : ∃ e1, (s.heap.update a (Obj.mapSeq fun _ => (#[] : Array Value))).get? a = some (seqObj "list" #[] e1) := ⟨_, get?_update_seq ho fun _ => #[]⟩
  rw [list_sort_plain]
  refine wpAny_bind (listItems_at ho rfl ?_)
  refine wpAny_bind (listUpdate_at ho rfl ?_ (by rw [List.size_toArray, sizeLine_eq]; lia) (Nat.zero_le _))
  refine wpAny_bind (seqEpoch_at ho1 rfl ?_)
  refine wpAny_bind (wpAny_newTuple ?_ (by show vs.length ≤ _; rw [sizeLine_eq]; lia))
  refine wpAny_bind (wpAny_newList ?_ (Nat.zero_le _))
  refine wpAny_holding ?_
  have k0 : ∀ b o, b ≠ a → s.heap.get? b = some o → (((s.heap.update a (Obj.mapSeq fun _ => (#[] : Array Value))).push (seqObj "tuple" vs.toArray 0)).push (seqObj "list" #[] 0)).get? b = some o := fun b o hb e =>
    Heap.get?_push_of_some _ (Heap.get?_push_of_some _ (s1.extBut b o hb e))
  have hoz : (((s.heap.update a (Obj.mapSeq fun _ => (#[] : Array Value))).push (seqObj "tuple" vs.toArray 0)).push (seqObj "list" #[] 0)).get? a = some (seqObj "list" #[] e1) := Heap.get?_push_of_some _ (Heap.get?_push_of_some _ ho1)
  show wpAny (model prog w) A _ P E { s with heap := ((s.heap.update a (Obj.mapSeq fun _ => (#[] : Array Value))).push (seqObj "tuple" vs.toArray 0)).push (seqObj "list" #[] 0) }
  generalize ((s.heap.update a (Obj.mapSeq fun _ => (#[] : Array Value))).push (seqObj "tuple" vs.toArray 0)).push (seqObj "list" #[] 0) = hp at *
  dsimp only
  have hn2 : ¬ vs.toArray.size < 2 := by rw [List.size_toArray]; lia
  rw [if_neg hn2, if_neg hn2]
  refine wpAny_bind (wpAny_mono (hk hp (fun κ s' => κ = tuples' true ∧ s' = { s with heap := hp }) k0 ⟨rfl, rfl⟩) (fun κ s' hks => ?_) fun _ _ x => x.elim)
  obtain ⟨rfl, rfl⟩ := hks
  have run := kasOk_wp (cmp := kas_ask prog w A (tuples' true) vs) (Inv := fun s' => s' = { s with heap := hp }) (fun i j C s' hi hj e hC => by subst e; exact hc hp i j C hi hj k0 (hC _ rfl))
    (Q := fun p s' => sixChk σ p = true ∧ s' = { s with heap := hp }) (fun p s' h1 h2 => ⟨h1, h2⟩) (kas_sort 6) _ (six_ok hσ) rfl
  have e6 : kas_sort vs.length = kas_sort 6 := by rw [h6]
  refine wpAny_bind (wpAny_mono (kat_run (Q := fun st' s' => ∃ p : Array Nat, p.size = vs.length ∧ arrOf st' = p.map (kas_item (vs.toArray.zip vs.toArray)) ∧ failedOf st' = none ∧ sixChk σ p = true ∧ s' = { s with heap := hp })
    rfl (by lia) (by lia) (fun p st' s' a1 a2 a3 a4 => ⟨p, a1, a2, a3, a4⟩) (by rw [e6]; exact run)) ?_ fun _ _ e => e)
  rintro ⟨⟨⟩, st'⟩ s' ⟨p, hpz, har, hf, hchk, rfl⟩
  dsimp only
  rw [kat_snds rfl har]
  refine wpAny_bind (seqEpoch_at hoz rfl ?_)
  refine wpAny_bind (listUpdate_at hoz rfl ?_ (Nat.zero_le _) (by rw [List.size_toArray, List.length_map, Array.length_toList, hpz, sizeLine_eq]; lia))
  rw [hf]
  simp only [bne_self_eq_false, Bool.false_eq_true, if_false]
  obtain ⟨c2, hc2⟩ : ∃ c2, (hp.update a (Obj.mapSeq fun _ => List.toArray (p.toList.map fun i => vs.getD i Value.none))).get? a = some (seqObj "list" (List.toArray (p.toList.map fun i => vs.getD i Value.none)) c2) := ⟨_, get?_update_seq hoz fun _ => _⟩
  exact wpAny_pure (hP _ p c2 hchk (fun b o hb e => (Heap.SameBut.update hp a _).extBut b o hb (k0 b o hb e)) hc2)
end
end Mine
end
section
open PySem PySem.W PySem.Calls PyProof.Rows
open PySem.SeqAt
namespace Mine
theorem piece_shape {h : Heap} {X : List Addr} {v : Value} {q : Str × Str} (r : VR h X v (pieceAV q)) : ∃ T n u w, v = .ref T ∧ h.get? T = some ⟨.type "tuple", none, .seq #[.str q.1 u, .str q.2 w] n, #[]⟩ := by
  refine VR.iv_tup r ?_; clear r; intro _ _ _ e nx rs e_0; cases e_0
  ·
    refine VRs.iv_cons rs ?_; clear rs; intro _ _ ra rs e_0; cases e_0
    ·
      refine VRs.iv_cons rs ?_; clear rs; intro _ _ rb rs e_0; cases e_0
      ·
        (refine VRs.iv_nil rs fun e_0 => ?_; subst e_0); (refine VR.iv_str ra fun _ e_0 => ?_; subst e_0); (refine VR.iv_str rb fun _ e_0 => ?_; subst e_0)
        exact ⟨_, _, _, _, rfl, e⟩
theorem katTups_of {h : Heap} {X : List Addr} : ∀ {vs : List Value} {l : List (Str × Str)}, VRs h X vs (l.map pieceAV) → ∃ fs, KatTups h vs fs ∧ fs.length = l.length ∧ ∀ f ∈ fs, ∃ x u, f = Value.str x u
  | [], [], _ => ⟨[], KatTups.nil, rfl, fun _ h => nomatch h⟩
  | v :: vs, q :: l, r => by
    refine VRs.iv_cons r ?_; clear r; intro _ _ ra rs e_0; cases e_0
    ·
      obtain ⟨T, n, u, w, rfl, e⟩ := piece_shape ra
      obtain ⟨fs, k, kl, kf⟩ := katTups_of (vs := vs) (l := l) rs
      refine ⟨.str q.1 u :: fs, KatTups.cons e rfl rfl rfl k, by simp [kl], fun f hf => ?_⟩
      rcases List.mem_cons.mp hf with rfl | hf
      · exact ⟨_, _, rfl⟩
      · exact kf f hf
theorem ltr_lt (i j : Nat) : decide ((ltr i).cps.toList < (ltr j).cps.toList) = decide (i < j) := by
  have : ((ltr i).cps.toList < (ltr j).cps.toList) ↔ i < j := by
    show ([97 + i] < [97 + j]) ↔ _
    rw [List.cons_lt_cons_iff]
    simp
  exact decide_eq_decide.mpr this
section
variable {prog : Program} {w : World} {A : Around} {E : Value → Shared → Prop} {s : Shared}
theorem piece_ask {X : List Addr} {vs : List Value} {σ : List Nat} {t : Nat → Str} (rs : VRs s.heap X vs ((pcs t σ).map pieceAV)) (nd : σ.Nodup) {i j : Nat} (hi : i < σ.length) (hj : j < σ.length) {C : Bool → Shared → Prop} (h : C (sixLt σ i j) s) :
    kas_ask prog w A (tuples' true) vs i j C s := by
  have at_ : ∀ {i}, i < σ.length → ∃ T n u w, vs.getD i Value.none = .ref T ∧ s.heap.get? T = some ⟨.type "tuple", none, .seq #[.str (ltr (σ.getD i 0)) u, .str (t (σ.getD i 0)) w] n, #[]⟩ := fun {i} hi => by
    have ha : ((pcs t σ).map pieceAV)[i]? = some (pieceAV (ltr (σ.getD i 0), t (σ.getD i 0))) := by
      unfold pcs
      rw [List.getElem?_map, List.getElem?_map, List.getElem?_eq_getElem hi, List.getD_eq_getElem?_getD, List.getElem?_eq_getElem hi]; rfl
    obtain ⟨v, hv, r⟩ := rs.get ha
    obtain ⟨T, n, u, w, rfl, e⟩ := piece_shape r
    exact ⟨T, n, u, w, by rw [List.getD_eq_getElem?_getD, hv]; rfl, e⟩
  obtain ⟨T, n, u, v, e1, g1⟩ := at_ hi
  obtain ⟨T', n', u', v', e2, g2⟩ := at_ hj
  unfold kas_ask
  rw [e1, e2]
  refine kat_lt g1 rfl g2 rfl ?_
  show KatLex prog w A true _ C [(.str (ltr (σ.getD i 0)) u, .str (ltr (σ.getD j 0)) u'), (.str (t (σ.getD i 0)) v, .str (t (σ.getD j 0)) v')] 0 s
  refine kat_cons (EqAt.str_str (A := A) (s := s) _ _ _ _ prog w _ _ ?_)
  by_cases hij : i = j
  · subst hij
    rw [beq_self_eq_true]
    refine kat_yes (kat_cons (EqAt.str_str (A := A) (s := s) _ _ _ _ prog w _ _ ?_))
    rw [beq_self_eq_true]
    refine kat_yes (kat_nil ?_)
    have : sixLt σ i i = false := by unfold sixLt; simp
    rw [this] at h
    exact h
  · have hne : σ.getD i 0 ≠ σ.getD j 0 := by
      rw [List.getD_eq_getElem?_getD, List.getD_eq_getElem?_getD, List.getElem?_eq_getElem hi, List.getElem?_eq_getElem hj]
      exact fun q => hij ((List.getElem_inj nd).mp q)
    have hb : (ltr (σ.getD i 0) == ltr (σ.getD j 0)) = false := by
      exact beq_eq_false_iff_ne.mpr fun q => hne (ltr_inj q)
    rw [hb]
    refine kat_no (oneLt_str ?_)
    rw [ltr_lt]
    exact h
end
section
variable {C : Cx} (ok : C.Ok) {n : Nat} {env : Env} {S : St}
include ok
theorem O.sorted_pieces {σ : List Nat} (hσ : σ.Perm [0, 1, 2, 3, 4, 5]) (t : Nat → Str) : PN C n env S (fun vs => call (.builtin "sorted") vs) [.lst ((pcs t σ).map pieceAV)] (.lst ((pcs t (List.range 6)).map pieceAV)) := fun A Y s₀ D s vs0 Q ha R r0 q => by
  refine VRs.iv_cons r0 ?_; clear r0; intro _ _ r r0 e_0; cases e_0
  ·
    (refine VRs.iv_nil r0 fun e_0 => ?_; subst e_0)
    refine VR.iv_lst r ?_; clear r; intro _ _ _ e nx rs e_0; cases e_0
    ·
      rename_i l vs kk
      have nd : σ.Nodup := hσ.nodup_iff.mpr (by decide)
      have s6 : σ.length = 6 := hσ.length_eq
      have v6 : vs.length = 6 := by have := rs.length; rw [this, List.length_map]; unfold pcs; rw [List.length_map, s6]
      refine Calls.call_function_entry kind_sorted plain_sorted entry_sorted (args_sorted1 _) ?_
      unfold Builtin.«sorted»
      refine wpAny_bind (m := checkCount "sorted" 1 1 _) (wpAny_pure ?_)
      refine wpAny_bind (collect_list (isList_of e) ?_ (by rw [sizeLine_eq]; lia))
      refine wpAny_bind (wpAny_newList ?_ (by rw [sizeLine_eq]; lia))
      have keep : ∀ b o, s.heap.get? b = some o → ((s.heap.push (seqObj "list" #[] 0)).update s.heap.objs.size (Obj.mapSeq (· ++ vs.toArray))).get? b = some o := fun b o q => by
        rw [Heap.get?_update_ne _ _ _ _ (Nat.ne_of_lt (Heap.lt_size q))]
        exact Heap.get?_push_of_some _ q
      have hge : s.heap.objs.size ≤ ((s.heap.push (seqObj "list" #[] 0)).update s.heap.objs.size (Obj.mapSeq (· ++ vs.toArray))).objs.size := by
        rw [Heap.size_update, size_push']; exact Nat.le_succ _
      show wpAny _ _ _ _ _ { s with heap := ((s.heap.push (seqObj "list" #[] 0)).update s.heap.objs.size (Obj.mapSeq (· ++ vs.toArray))).push (seqObj "list" vs.toArray 0) }
      generalize (s.heap.push (seqObj "list" #[] 0)).update s.heap.objs.size (Obj.mapSeq (· ++ vs.toArray)) = h1 at *
      have hoL : (h1.push (seqObj "list" vs.toArray 0)).get? h1.objs.size = some (seqObj "list" vs.toArray 0) := Heap.get?_push_size _ rfl
      have neL : ∀ b o, s.heap.get? b = some o → b ≠ h1.objs.size := fun b o q => Nat.ne_of_lt (Nat.lt_of_lt_of_le (Heap.lt_size q) hge)
      have k2 : ∀ b o, s.heap.get? b = some o → (h1.push (seqObj "list" vs.toArray 0)).get? b = some o := fun b o q => Heap.get?_push_of_some _ (keep b o q)
      have hnone : s.heap.get? h1.objs.size = none := by
        cases e : s.heap.get? h1.objs.size with
        | none => rfl
        | some o => exact absurd rfl (neL _ _ e)
      refine wpAny_bind (wpAny_holding (wpAny_call_entry slot_list_sort ⟨_, hoL, rfl⟩ entry_list_sort (sort_list_six hσ (s := { s with heap := h1.push (seqObj "list" vs.toArray 0) }) hoL v6 (fun h' Q' hk' hq => ?_) (fun h' i j C' hi hj hk' hC => ?_) fun h' p c hchk hk' ho => ⟨_, rfl, ?_⟩) (args_list_sort _)))
      · have k3 : ∀ b o, s.heap.get? b = some o → h'.get? b = some o := fun b o q => hk' b o (neL b o q) (k2 b o q)
        have rs3 : VRs h' (Xo C Y env S) vs ((pcs t σ).map pieceAV) := rs.stp (Stp.of_keeps (T := C.T) k3) (fun _ h => nomatch h) R.hT
        obtain ⟨fs, kt, kl, kf⟩ := katTups_of rs3
        refine kat_kind (T := .type "str") kt (by rw [kl]; unfold pcs; rw [List.length_map]; lia) (fun f hf => ?_) rfl hq
        obtain ⟨x, u, rfl⟩ := kf f hf
        exact Looks.of_pure rfl
      · have k3 : ∀ b o, s.heap.get? b = some o → h'.get? b = some o := fun b o q => hk' b o (neL b o q) (k2 b o q)
        have rs3 : VRs h' (Xo C Y env S) vs ((pcs t σ).map pieceAV) := rs.stp (Stp.of_keeps (T := C.T) k3) (fun _ h => nomatch h) R.hT
        exact piece_ask (s := { s with heap := h' }) rs3 nd (by lia) (by lia) hC
      · have k3 : ∀ b o, s.heap.get? b = some o → h'.get? b = some o := fun b o q => hk' b o (neL b o q) (k2 b o q)
        have stp : SStp C.T [] s { s with heap := h' } := ⟨.of_keeps k3, rfl, rfl, id⟩
        have rs3 : VRs h' (Xo C Y env S) vs ((pcs t σ).map pieceAV) := rs.stp (Stp.of_keeps (T := C.T) k3) (fun _ h => nomatch h) R.hT
        unfold sixChk at hchk
        rw [Bool.and_eq_true, beq_iff_eq, List.all_eq_true] at hchk
        obtain ⟨hp1, hp2⟩ := hchk
        refine wpAny_pure ⟨_, rfl, q _ _ _ _ ⟨rfl, rfl⟩ (R.go ok stp) (Kp.go R stp) (.lst ho (fun h => (R.live h).ne hnone rfl) ?_)⟩
        have er : (pcs t (List.range 6)).map pieceAV = p.toList.map fun i => pieceAV (ltr (σ.getD i 0), t (σ.getD i 0)) := by
          rw [show List.range 6 = [0, 1, 2, 3, 4, 5] from by decide, ← hp1]; unfold pcs; rw [List.map_map, List.map_map]; rfl
        rw [er]
        refine VRs_of_get (by simp) fun i v a hv hav => ?_
        rw [List.getElem?_map] at hv hav
        cases hpi : p.toList[i]? with
        | none => rw [hpi] at hv; cases hv
        | some j =>
          rw [hpi] at hv hav
          have hv : vs.getD j Value.none = v := by simpa using hv
          have hav : pieceAV (ltr (σ.getD j 0), t (σ.getD j 0)) = a := by simpa using hav
          subst hv; subst hav
          have hj : j < 6 := by simpa using hp2 j (List.mem_of_getElem? hpi)
          have ha' : ((pcs t σ).map pieceAV)[j]? = some (pieceAV (ltr (σ.getD j 0), t (σ.getD j 0))) := by
            unfold pcs
            rw [List.getElem?_map, List.getElem?_map, List.getElem?_eq_getElem (by lia : j < σ.length), List.getD_eq_getElem?_getD, List.getElem?_eq_getElem (by lia : j < σ.length)]; rfl
          obtain ⟨v, hv, r⟩ := rs3.get ha'
          rw [List.getD_eq_getElem?_getD, hv]
          exact r
end
end Mine
end
section
open PySem PySem.W PySem.Calls PyProof.Rows
set_option tactic.hygienic false
namespace Mine
section
variable {C : Cx} (ok : C.Ok) {n : Nat} {env : Env} {S : St}
include ok
theorem feed_pile {A : Around} {Y D : List Addr} {s₀ s₁ : Shared} {S₁ : St} {xv : Str} {px : Pos} {l : List AV} {p0 c0 d0 : Addr} {kv0 : Option (Str × AV)} {sq : List (Str × Str)} (ha : AOk n A) (R₁ : Rel C Y s₀ D env S₁ s₁) (hM : (p0, AO.obj c0 d0 kv0 (some sq)) ∈ S₁.M) (hl : l = sq.map pieceAV) :
    Feed C A Y env S₁ s₁ l (.Name xv px) s₁.heap.objs.size [s₁.heap.objs.size] [s₁.heap.objs.size] (fun i h => h.IsListIter s₁.heap.objs.size p0 i) { s₁ with heap := s₁.heap.push { cls := .type "list_iterator", data := .fields #[.ref p0, .int 0 0] } } := by
  have hI : s₁.heap.get? s₁.heap.objs.size = none := new_none _
  have one : ∀ {b : Addr}, b ∈ [s₁.heap.objs.size] → b = s₁.heap.objs.size := fun h => List.mem_singleton.mp h
  refine ⟨SStp.alloc .., ⟨_, Heap.get?_push_size _ rfl, rfl, rfl⟩, fun b hb => ?_, fun b hb => one hb ▸ hI, fun i h st b hb => ?_, fun i h h' st k => st.at fun o e => k _ (List.mem_cons_self ..) o e, fun {Yc Dc cenv μ sc s'} i Q hi st R up k => ?_, fun {Yc Dc cenv μ sc s'} Q st R k => ?_,
    fun i s v Q _ q => wpAny_of_eq (show letOwnedTupleGo (.Name xv px) (.ref s₁.heap.objs.size) v = pure () from rfl) q, fun s Q E st q => wpAny_pyIter_listiter st q⟩
  · have h0 : s₁.heap.get? b = none := one hb ▸ hI
    refine ⟨fun q => (R₁.hi _ (by rw [← List.append_assoc]; exact List.mem_append_left _ q)).2.2.ne h0 rfl, fun q => (R₁.bs.liveT q).ne h0 rfl, ?_⟩
    rw [one hb]; exact ⟨_, Heap.get?_push_size _ rfl⟩
  · obtain ⟨o, e, _⟩ := st; exact ⟨o, one hb ▸ e⟩
  · obtain ⟨a, hla⟩ : ∃ a, l[i]? = some a := ⟨_, List.getElem?_eq_getElem hi⟩
    obtain ⟨vs, kk, od', e', I', rs⟩ := instOf (R.ob _ hM)
    rw [← hl] at rs
    obtain ⟨v, hv, ra⟩ := rs.get hla
    refine pyNext_seq_item st ⟨_, e', _, rfl⟩ (x := v) (by simpa using hv) fun h' hst1 hsb => ?_
    exact k v a h' _ hla ra hst1 fun b o hb e => hsb.extBut b o (fun q => hb (by rw [q]; simp)) e
  · obtain ⟨vs, kk, od', e', I', rs⟩ := instOf (R.ob _ hM)
    rw [← hl] at rs
    exact pyNext_seq_end ha.handled st ⟨_, e', _, rfl⟩ (by have := rs.length; simp; lia) fun h' hext => k h' _ fun b o hb e => hext b o (fun q => hb (by rw [q]; simp)) e
theorem E1_compPile {y : Str} {py spos : Pos} {elt iter : Expr} {xv : Str} {px : Pos} {ifs : List Expr} {scope : Scope} {pos : Pos} {l : List AV} {P : AF → St → Prop} (μc : List (Str × AV)) (f : AV → Option AV)
    (hok : compOk scope env = true) (hcell : ∀ y ∈ scope.names, y.2 ≠ .cell) (hkind : scope.kind = .function) (hnames : ∀ y ∈ scope.names, y.2 = .local → scope.names.lookup y.1 = some .local)
    (hmore : ∀ y ∈ scope.names, y.2 = .free → (y.1 == ("__classdict__" : Str)) = false)
    (h : EV C n env S iter fun a S₁ => (∃ p c d kv sq, a = .raw (.ref p) ∧ (p, AO.obj c d kv (some sq)) ∈ S₁.M ∧ LCls C.K c ∧ l = sq.map pieceAV) ∧ (∀ L, Cap env (CEnv scope env L) S₁ μc) ∧ (∀ L, ∀ x ∈ l, Step C n (CEnv scope env L) ⟨μc, S₁.M⟩ (.Name xv px) ifs elt x (f x)) ∧ P .next ⟨ins y (.lst (l.filterMap f)) S₁.μ, S₁.M⟩)
    (hz : l.length ≤ 1000000 := by decide)
    (hky : env.kindOf y = some .local := by rfl)
    (hsw : swapsWith (.ListComp elt [⟨(.Name xv px), iter, ifs, 0⟩] scope pos) (some (.Name y py)) spos.line env = pure true := by rfl)
    (hs : ∀ x, foldedSetIterable iter env x = pure x := by intro _; rfl) : E1 C n env S (.Assign [.Name y py] (.ListComp elt [⟨(.Name xv px), iter, ifs, 0⟩] scope pos) spos) P := by
  intro A Y s₀ D s Q ha R q
  show wpAny _ _ (exec (.Assign [.Name y py] (.ListComp elt [⟨(.Name xv px), iter, ifs, 0⟩] scope pos) spos) env) _ _ _
  rw [exec_Assign_Name_used _ _ _ _ hsw]
  refine wpAny_bind (wpAny_standAt (wpAny_bind ?_))
  show wpAny _ A (do let _ ← comprehension (.ListComp elt [⟨(.Name xv px), iter, ifs, 0⟩] scope pos) scope env _ (newList []) false (eval iter env) (some (assign (.Name y py) env))) _ _ s
  refine wpAny_bind (wpAny_mono (wpAny_comprehension_free (use := some (assign (.Name y py) env)) (Q := fun _ s' => Q .next s') rfl hs (closure_of hok) hkind hnames
    (h A Y s₀ D s _ ha R fun v s₁ a S₁ p R₁ K₁ r => ?_)) (fun _ s' hq => wpAny_pure (wpAny_pure hq)) fun _ _ e => e)
  obtain ⟨⟨p0, c0, d0, kv0, sq, rfl, hM, Lc, hl⟩, hcap, hstep, hp⟩ := p
  refine VR.el_raw r ?_
  obtain ⟨vs0, k0, od0, e0, I0, rs0⟩ := instOf (R₁.ob _ hM)
  refine l_pyIter R₁.bs.K Lc I0 ?_
  refine comp_feed ok μc f hok hcell hkind hmore ha R₁ (feed_pile ok ha R₁ hM hl) hcap hstep hz ?_
  exact comp_use ok hky R₁ K₁ hp q
end
end Mine
namespace Mine
noncomputable def lawLd (w : World) : {b : List Stmt // ∃ t it o p r, (lawB w).drop 21 = .For t it b o p :: r} := ⟨_, _, _, _, _, _, rfl⟩
noncomputable def lawL (w : World) : List Stmt := (lawLd w).1
noncomputable def lawM3 (sv : AV) (a : Addr) (U T : AV) (way head : Nat) (b : Addr) (gr : Str) (p q : Addr) (sp pr cl : AV) (zs zb : Addr) : List (Str × AV) :=
  [("script", sv), ("cells", .raw (.ref a)), ("up", U), ("signs", .tup sgnV), ("tails", T), ("way", .int way), ("head", .int head), ("hand", .raw (.ref (handF way))), ("refs", .raw (.ref b)), ("ground", .str gr), ("names", .raw (.ref p)), ("above", .raw (.ref q)),
   ("span", sp), ("price", pr), ("closed", cl), ("size", .raw (.ref zs)), ("best", .raw (.ref zb))]
theorem abc_ascii : (Str.ofString "abcdef").cps.all (· < 128) = true := by decide +kernel
theorem abc_small : (Str.ofString "abcdef").cps.size ≤ 1000 := by decide +kernel
noncomputable def hostsL (nm : Nat → Str) : List (Str × AV) := zpA "abcdef" (nmV nm 6) 6
noncomputable def tailsL (c : Int) : List (Str × AV) := zpA "abcdef" (tailV c) 6
theorem hosts_at (nm : Nat → Str) {j : Nat} (h : j < 6) : aget (hostsL nm) (ltr j) = some (.str (nm j)) := by
  have : j = 0 ∨ j = 1 ∨ j = 2 ∨ j = 3 ∨ j = 4 ∨ j = 5 := or6 _ (by first | assumption | lia)
  rcases this with rfl | rfl | rfl | rfl | rfl | rfl <;> rfl
theorem tails_at (c : Int) {j : Nat} (h : j < 6) : aget (tailsL c) (ltr j) = some (.str (tailF c j)) := by
  have : j = 0 ∨ j = 1 ∨ j = 2 ∨ j = 3 ∨ j = 4 ∨ j = 5 := or6 _ (by first | assumption | lia)
  rcases this with rfl | rfl | rfl | rfl | rfl | rfl <;> rfl
section
variable {w : World} {mg mb : Str → Option Value} (g : GA w mg mb)
include g
theorem GA.loop0 {n : Nat} {L : Addr} {sv : AV} {a b p q zs zb : Addr} {P : AF → St → Prop} {way head : Nat} {gr : Str} {Uv sp pr cl : AV} {c1 : Int} {U : Nat → Nat} {nm : Nat → Str} {lt : Bool} {M : List (Addr × AO)} (jk : JOk ⟨U, tailF c1, nm, way⟩) (hp : (p, AO.list (nmV nm 6)) ∈ M)
    (k : ∀ aH aT aA aR pp d at_ pl, (∀ t0, HGood (Job.span ⟨U, tailF c1, nm, way⟩) (Job.price ⟨U, tailF c1, nm, way⟩) 6 U t0 pl at_ []) → EX (CA w mg mb) (n + 10) (lawE w L) ⟨lawM3 sv a Uv (.lst (tailV c1)) way head b gr p q sp pr cl zs zb ++ ([("late", .bool lt), ("pile", .raw (.ref (pp 0)))] : List (Str × AV)), (M ++ [(aH, .sdict (hostsL nm)), (aT, .sdict (tailsL c1))]) ++ lay 6 aA aR pp d (tailF c1) at_ [] pl⟩ ((lawL w).drop 1) P) :
    EX (CA w mg mb) (n + 10) (lawE w L) ⟨lawM3 sv a Uv (.lst (tailV c1)) way head b gr p q sp pr cl zs zb ++ ([("late", .bool lt)] : List (Str × AV)), M⟩ (lawL w) P := by
  have ok := okA g
  refine EX.cons ?_
  refine E1.loc ok ?_
  refine EV.callK (PE.glob rfl (g.glo _ _ rfl)) rfl (EL.cons ?_)
  refine EV.dictZip ok (PE.built rfl (g.non _ rfl) ((g.mb _ (by decide)).trans rfl)) (PE.built rfl (g.non _ rfl) ((g.mb _ (by decide)).trans rfl)) (PE.str ok) (PE.name rfl) (LL.mut hp) abc_ascii abc_small (by simp [nmV]; decide) fun aH => ?_
  refine EL.cons ?_
  refine EV.dictZip ok (PE.built rfl (g.non _ rfl) ((g.mb _ (by decide)).trans rfl)) (PE.built rfl (g.non _ rfl) ((g.mb _ (by decide)).trans rfl)) (PE.str ok) (PE.name rfl) LL.lst abc_ascii abc_small (by simp [tailV]; decide) fun aT => ?_
  refine PL.then (PL.cons (PE.name rfl) (PL.cons (PE.name rfl) PL.nil)) ?_
  have eM : (M ++ [(aH, AO.sdict (hostsL nm))]) ++ [(aT, .sdict (tailsL c1))] = M ++ [(aH, .sdict (hostsL nm)), (aT, .sdict (tailsL c1))] := by simp
  rw [show zpA (Str.ofString "abcdef") (nmV nm 6) (Str.ofString "abcdef").cps.size = hostsL nm from rfl, show zpA (Str.ofString "abcdef") (tailV c1) (Str.ofString "abcdef").cps.size = tailsL c1 from rfl, eM]
  refine ((((run_fn g (n := n + 2) (J := ⟨U, tailF c1, nm, way⟩) (late := lt) (aH := aH) (aT := aT) (M0 := M ++ [(aH, .sdict (hostsL nm)), (aT, .sdict (tailsL c1))]) jk (by simp) (by simp) (fun j h => hosts_at nm h) (fun j h => tails_at c1 h)).fn) _ _).mono fun av S₂ e => ?_)
  obtain ⟨e1, ⟨aA, aR, pp, d, at_, pl, rfl, e3, hG⟩⟩ := e
  rw [back_eq e1 e3]
  exact k aH aT aA aR pp d at_ pl hG
end
end Mine
namespace Mine
theorem perm6 {σ : List Nat} (h : σ.Perm (List.range 6)) : σ.Perm [0, 1, 2, 3, 4, 5] := h
theorem zpL_pcs (c1 : Int) : zpL (Str.ofString "abcdef") (tailV c1) (Str.ofString "abcdef").cps.size = (pcs (tailF c1) (List.range 6)).map pieceAV := rfl
section
variable {w : World} {mg mb : Str → Option Value} (g : GA w mg mb)
include g
theorem GA.loop1 {n : Nat} {L : Addr} {sv : AV} {a b p q zs zb pa da : Addr} {P : AF → St → Prop} {way head : Nat} {gr : Str} {Uv sp pr cl : AV} {c1 : Int} {lt : Bool} {σ : List Nat} {M : List (Addr × AO)} (hσ : σ.Perm (List.range 6)) (hpile : (pa, AO.obj 154 da (AccKv 0) (some (pcs (tailF c1) σ))) ∈ M)
    (k : EX (CA w mg mb) (n + 10) (lawE w L) ⟨lawM3 sv a Uv (.lst (tailV c1)) way head b gr p q sp pr cl zs zb ++ ([("late", .bool lt), ("pile", .raw (.ref pa)), ("pieces", .lst ((pcs (tailF c1) σ).map pieceAV))] : List (Str × AV)), M⟩ ((lawL w).drop 4) P) :
    EX (CA w mg mb) (n + 10) (lawE w L) ⟨lawM3 sv a Uv (.lst (tailV c1)) way head b gr p q sp pr cl zs zb ++ ([("late", .bool lt), ("pile", .raw (.ref pa))] : List (Str × AV)), M⟩ ((lawL w).drop 1) P := by
  have ok := okA g
  have s6 : (pcs (tailF c1) σ).length = 6 := by unfold pcs; rw [List.length_map]; exact hσ.length_eq
  refine EX.cons ?_
  refine E1.ite ?_
  refine (PT.or2 (PT.cmp (PE.name rfl) PE.nul (O.is_none_ ok (t := false) rfl)) (fun _ => PT.cast (b := false) (PT.cmp (PE.part_count g (n := n + 9) (PE.name rfl) hpile) (PE.int ok) (O.ne ok)) (by rw [s6]; rfl))).then ?_
  rw [if_neg (by decide)]
  refine EX.nil ?_
  refine EX.cons ?_
  refine E1_compPile ok (l := (pcs (tailF c1) σ).map pieceAV) [] some rfl (by decide) rfl (by decide) (by decide) ?_ (by rw [List.length_map]; lia)
  refine PE.then (PE.name rfl) ⟨⟨pa, 154, da, AccKv 0, pcs (tailF c1) σ, rfl, hpile, accL g, rfl⟩, fun L' => Cap.nil, fun L' x hx => ?_, ?_⟩
  · refine Step.some ?_
    refine TG.name ok (.inl rfl) ?_
    refine CT.nil ⟨rfl, ?_⟩
    exact PE.then (PE.name rfl) ⟨rfl, Le.pre (ν := [("piece", x)])⟩
  rw [List.filterMap_some]
  refine EX.cons ?_
  refine E1.ite ?_
  refine (PT.cmp (PE.callB (PE.built rfl (g.non _ rfl) ((g.mb _ (by decide)).trans rfl)) (PL.cons (PE.name rfl) PL.nil) (O.sorted_pieces ok (perm6 hσ) (tailF c1))) (PE.cast (PE.listZip ok (PE.built rfl (g.non _ rfl) ((g.mb _ (by decide)).trans rfl)) (PE.built rfl (g.non _ rfl) ((g.mb _ (by decide)).trans rfl)) (PE.str ok) (PE.name rfl) LL.lst abc_ascii abc_small (by simp [tailV]; decide)) (congrArg AV.lst (zpL_pcs c1))) (O.ne_pieces ok)).then ?_
  rw [if_neg (by decide)]
  refine EX.nil ?_
  exact k
end
end Mine
namespace Mine
noncomputable def ordG : AV → Option AV
  | .tup (.str x :: _) => some (.int ((x.cps.getD 0 0 - 97 : Nat)))
  | _ => none
theorem ordG_at (t : Nat → Str) (j : Nat) : ordG (pieceAV (ltr j, t j)) = some (.int (j : Nat)) := by
  show some (AV.int (((97 + j - 97 : Nat)))) = _
  rw [Nat.add_sub_cancel_left]
theorem ordG_map (t : Nat → Str) (σ : List Nat) : ((pcs t σ).map pieceAV).filterMap ordG = intV σ := by
  unfold pcs intV
  induction σ with
  | nil => rfl
  | cons j σ ih => rw [List.map_cons, List.map_cons, List.filterMap_cons, ordG_at, List.map_cons, ← ih]
theorem abc_index : ∀ j, j < 6 → Builtin.Str.occurrences (Str.ofString "abcdef") (ltr j) 0 (Str.ofString "abcdef").length 1 = [j] := by decide +kernel
section
variable {w : World} {mg mb : Str → Option Value} (g : GA w mg mb)
include g
theorem GA.loop4 {n : Nat} {L : Addr} {sv : AV} {a b p q zs zb pa : Addr} {P : AF → St → Prop} {way head : Nat} {gr : Str} {Uv sp pr cl : AV} {c1 : Int} {lt : Bool} {σ : List Nat} {M : List (Addr × AO)} (hσ : σ.Perm (List.range 6))
    (k : EX (CA w mg mb) (n + 10) (lawE w L) ⟨lawM3 sv a Uv (.lst (tailV c1)) way head b gr p q sp pr cl zs zb ++ ([("late", .bool lt), ("pile", .raw (.ref pa)), ("pieces", .lst ((pcs (tailF c1) σ).map pieceAV)), ("order", .lst (intV σ))] : List (Str × AV)), M⟩ ((lawL w).drop 5) P) :
    EX (CA w mg mb) (n + 10) (lawE w L) ⟨lawM3 sv a Uv (.lst (tailV c1)) way head b gr p q sp pr cl zs zb ++ ([("late", .bool lt), ("pile", .raw (.ref pa)), ("pieces", .lst ((pcs (tailF c1) σ).map pieceAV))] : List (Str × AV)), M⟩ ((lawL w).drop 4) P := by
  have ok := okA g
  have s6 : (pcs (tailF c1) σ).length = 6 := by unfold pcs; rw [List.length_map]; exact hσ.length_eq
  refine EX.cons ?_
  refine E1_compUse ok (l := (pcs (tailF c1) σ).map pieceAV) (.tuple _ _ _) [] ordG rfl (by decide) rfl (by decide) (by decide) ?_ (by rw [List.length_map]; lia)
  refine PE.then (PE.name rfl) ?_
  refine ⟨Iter.lst ok, fun L' => Cap.nil, fun L' x hx => ?_, ?_⟩
  · obtain ⟨y, hy, rfl⟩ := List.mem_map.mp hx
    obtain ⟨j, hj, rfl⟩ := List.mem_map.mp hy
    have hj6 : j < 6 := List.mem_range.mp (hσ.mem_iff.mp hj)
    rw [ordG_at]
    refine Step.some ?_
    refine TG.pair ok (.inl rfl) (.inl rfl) ?_
    refine CT.nil ⟨rfl, ?_⟩
    exact PE.then (PE.index ok (PE.str ok) (PE.name rfl) (i := j) (rest := []) (abc_index j hj6)) ⟨rfl, Le.pre (ν := [("letter", .str (ltr j)), ("tail", .str (tailF c1 j))])⟩
  rw [ordG_map]
  exact k
end
end Mine
namespace Mine
theorem strsAre_of {h : Heap} {X : List Addr} : ∀ {vs : List Value} {ys : List Str}, VRs h X vs (ys.map AV.str) → StrsAre vs ys
  | [], [], _ => .nil
  | v :: vs, y :: ys, r => by
    refine VRs.el_cons r fun _ _ ra rs => ?_
    · refine VR.el_str ra fun _ => ?_; exact .cons _ _ (strsAre_of rs)
section
variable {C : Cx} (ok : C.Ok) {n : Nat} {env : Env} {S : St}
include ok
theorem EV.join {o e : Expr} {apos pos : Pos} {x : Str} {P : AV → St → Prop} (ho : PE C n env S o (.str x)) (hx : x.length ≤ 16)
    (h : EV C n env S e fun a S₁ => ∃ ys : List Str, a = .lst (ys.map AV.str) ∧ (ys.map (·.length)).sum + ys.length ≤ 1048576 ∧ P (.str (Txt.join x ys)) S₁)
    (hbase : attributeBase o "join" env (eval o env) = eval o env := by rfl)
    (hfew : ((backTo pos (starEach [e] env)).all (fun x => !x.1) && (backToKw pos (keywordEach [] env)).all (fun x => x.1.isSome) && decide ([e].length + ([] : List Keyword).length + (if ([] : List Keyword).isEmpty then 0 else 1) < 30)) = true := by rfl)
    (hline : (apos.endLine == pos.line) = true := by rfl) (he : starEach [e] env = (false, eval e env) :: starEach [] env := by rfl) :
    EV C n env S (.Call (.Attribute o "join" apos) [e] [] pos) P :=
  fun A Y s₀ D s Q ha R q => wpAny_Call_method_lateS hbase hfew hline (ho A Y s₀ D s _ ha R fun v s₁ a S₁ p R₁ K₁ r => by
    obtain ⟨rfl, rfl⟩ := p
    refine VR.el_str r fun t => ?_
    ·
      refine ⟨"str", "str.join", PySem.F.plainAttrs_str, PySem.F.slot_str_join, PySem.F.type_str_join, typeIs_str _ _ _, (fun _ e => nomatch e), ?_⟩
      have h' : wpAny (model C.prog C.w) A (spliced (backTo pos (starEach [e] env))) (fun vs s' => wpAny (model C.prog C.w) A (call (.builtin "str.join") ([.str x t] ++ vs)) Q No s') No s₁ :=
        wpAny_items_cons (h A Y s₀ D s₁ _ ha R₁ fun v s₂ a₂ S₂ p₂ R₂ K₂ r₂ => wpAny_items_nil (by
          obtain ⟨ys, rfl, hw, hp⟩ := p₂
          refine VR.el_lst r₂ fun _ _ _ e nx rs => ?_
          ·
            refine join_listW (isList_of e) (by simpa using strsAre_of rs) hx hw fun t' k => ?_
            exact q _ _ _ _ hp (R₂.go ok (.toks ..)) ((K₁.trans K₂).trans (Kp.go R₂ (.toks ..))) (.str ..))) he
      rw [he] at h' ⊢
      exact Calls.callWith_builtin rfl (evalArgs_plain h'))
end
end Mine
namespace Mine
theorem txtJoin_cps (l : List Str) : (Txt.join "" l).cps.toList = l.flatMap fun x => x.cps.toList := by
  rw [show Txt.join "" l = Str.join "" l from StrLaws.glued_eq_join _ _, joinE_cps]
noncomputable def spL (way : Nat) (x : Str) : List Str := x.cps.toList.map fun d => spell way ⟨#[d]⟩
noncomputable def spF (way : Nat) (t : Nat → Str) (j : Nat) : Str := ltr j ++ Txt.join "" (spL way (t j))
theorem spL_cps (way : Nat) (x : Str) : (Txt.join "" (spL way x)).cps.toList = x.cps.toList.flatMap (tabl (handT way)) := by
  rw [txtJoin_cps]; unfold spL; rw [List.flatMap_map]
  congr 1; funext d
  unfold spell; simp
theorem spF_cps (way : Nat) (t : Nat → Str) (j : Nat) : (spF way t j).cps.toList = (97 + j) :: (t j).cps.toList.flatMap (tabl (handT way)) := by
  unfold spF; rw [cps_append, spL_cps]; rfl
theorem flatMap_same {f f' : Nat → List Nat} : ∀ {l : List Nat}, (∀ x ∈ l, f x = f' x) → l.flatMap f = l.flatMap f'
  | [], _ => rfl
  | x :: l, h => by rw [List.flatMap_cons, List.flatMap_cons, h x (List.mem_cons_self ..), flatMap_same fun y hy => h y (List.mem_cons_of_mem _ hy)]
theorem spelled_esc (way : Nat) (t : Nat → Str) {σ : List Nat} (h : ∀ j ∈ σ, j < 6) : esc way (pileStr (pcs t σ)) = Txt.join "" (σ.map (spF way t)) := by
  refine Str.ext' ?_
  show (escF (handT way) _).cps.toList = _
  rw [escF_flat _ _ (tOk way), pcs_cps, txtJoin_cps, List.flatMap_map, List.flatMap_assoc]
  refine flatMap_same fun j hj => ?_
  rw [spF_cps, List.flatMap_cons, tabl_ltr way (h j hj)]; rfl
noncomputable def spG (way : Nat) : AV → Option AV
  | .str x => some (.str (spell way x))
  | _ => none
theorem spG_map (way : Nat) (x : Str) : (chars x).filterMap (spG way) = (spL way x).map AV.str := by
  unfold chars spL
  rw [List.filterMap_map, List.map_map]
  generalize x.cps.toList = l
  induction l with
  | nil => rfl
  | cons d l ih => rw [List.filterMap_cons, List.map_cons, ← ih]; rfl
noncomputable def spelledG (way : Nat) (t : Nat → Str) : AV → Option AV
  | .int n => some (.str (spF way t n.toNat))
  | _ => none
theorem spelledG_at (way : Nat) (t : Nat → Str) (j : Nat) : spelledG way t (.int (j : Nat)) = some (.str (spF way t j)) := by
  show some (AV.str (spF way t (j : Int).toNat)) = _
  rw [Int.toNat_natCast]
theorem spelledG_map (way : Nat) (t : Nat → Str) (σ : List Nat) : (intV σ).filterMap (spelledG way t) = (σ.map (spF way t)).map AV.str := by
  unfold intV
  induction σ with
  | nil => rfl
  | cons j σ ih => rw [List.map_cons, List.filterMap_cons, spelledG_at, List.map_cons, List.map_cons, ← ih]
theorem spL_len (way : Nat) (x : Str) (h : x.length ≤ 2) : (Txt.join "" (spL way x)).length ≤ 12 ∧ ((spL way x).map (·.length)).sum + (spL way x).length ≤ 1048576 := by
  rw [len_eq] at h
  have key : ∀ l : List Nat, l.length ≤ 2 → (l.flatMap (tabl (handT way))).length ≤ 12 ∧ ((l.map fun d => spell way ⟨#[d]⟩).map (·.length)).sum + (l.map fun d => spell way ⟨#[d]⟩).length ≤ 1048576 := fun l hl => by
    match l, hl with
    | [], _ => simp
    | [a], _ =>
      have h1 := (tabl_len way a).2; have h2 := spell_len way a
      simp only [List.flatMap_cons, List.flatMap_nil, List.append_nil, List.map_cons, List.map_nil, List.sum_cons, List.sum_nil, List.length_cons, List.length_nil]
      lia
    | [a, b], _ =>
      have h1 := (tabl_len way a).2; have h2 := spell_len way a; have h3 := (tabl_len way b).2; have h4 := spell_len way b
      simp only [List.flatMap_cons, List.flatMap_nil, List.append_nil, List.length_append, List.map_cons, List.map_nil, List.sum_cons, List.sum_nil, List.length_cons, List.length_nil]
      lia
    | a :: b :: c :: l, hl => simp at hl
  refine ⟨?_, (key _ h).2⟩
  rw [len_eq, spL_cps]
  exact (key _ h).1
section
variable {w : World} {mg mb : Str → Option Value} (g : GA w mg mb)
include g
theorem GA.loop5 {n : Nat} {L : Addr} {sv : AV} {a b p q zs zb pa da : Addr} {P : AF → St → Prop} {way head : Nat} {gr : Str} {Uv sp pr cl pcv : AV} {c1 : Int} {lt : Bool} {σ : List Nat} {M : List (Addr × AO)} (hw : way < 5) (hσ : σ.Perm (List.range 6)) (hb : (b, AO.sdict (refsL way)) ∈ M) (hpile : (pa, AO.obj 154 da (AccKv 0) (some (pcs (tailF c1) σ))) ∈ M)
    (k : EX (CA w mg mb) (n + 10) (lawE w L) ⟨lawM3 sv a Uv (.lst (tailV c1)) way head b gr p q sp pr cl zs zb ++ ([("late", .bool lt), ("pile", .raw (.ref pa)), ("pieces", pcv), ("order", .lst (intV σ)), ("spelled", .lst ((σ.map (spF way (tailF c1))).map AV.str))] : List (Str × AV)), M⟩ ((lawL w).drop 7) P) :
    EX (CA w mg mb) (n + 10) (lawE w L) ⟨lawM3 sv a Uv (.lst (tailV c1)) way head b gr p q sp pr cl zs zb ++ ([("late", .bool lt), ("pile", .raw (.ref pa)), ("pieces", pcv), ("order", .lst (intV σ))] : List (Str × AV)), M⟩ ((lawL w).drop 5) P := by
  have ok := okA g
  have sl : sizeLine = 16777216 := by decide
  have s6 : σ.length = 6 := hσ.length_eq
  have hlt : ∀ j ∈ σ, j < 6 := fun j hj => List.mem_range.mp (hσ.mem_iff.mp hj)
  refine EX.cons ?_
  refine E1_compUse ok (l := intV σ) (.name _ _) [("refs", .raw (.ref b)), ("tails", .lst (tailV c1))] (spelledG way (tailF c1)) rfl (by decide) rfl (by decide) (by decide) ?_ (by unfold intV; rw [List.length_map]; lia)
  refine PE.then (PE.name rfl) ?_
  refine ⟨Iter.lst ok, fun L' => Cap.cons rfl rfl (.inl rfl) (.inl rfl) (Cap.cons rfl rfl (.inl rfl) (.inl rfl) Cap.nil), fun L' x hx => ?_, ?_⟩
  · obtain ⟨j, hj, rfl⟩ := List.mem_map.mp hx
    have hj6 := hlt j hj
    have hl := tail_len c1 j
    have hs := tail_signs c1 j
    obtain ⟨hj12, hjw⟩ := spL_len way (tailF c1 j) hl
    rw [spelledG_at]
    refine Step.some ?_
    refine TG.name ok (.inl rfl) ?_
    refine CT.nil ⟨rfl, ?_⟩
    refine EV.bin ?_
    refine PE.then (PE.cast (PE.sub (PE.str ok) (PE.name rfl) (O.sub_str ok ?_ ?_ ?_)) (congrArg AV.str (abc_at j hj6))) ?_
    · unfold fitsSsize; simp; lia
    · show -(6 : Int) ≤ _; lia
    · show _ < (6 : Int); lia
    refine EV.join ok (PE.str ok) (by decide) ?_
    refine EV.comp ok (l := chars (tailF c1 j)) (.name _ _) [("refs", .raw (.ref b))] (spG way) rfl (by decide) rfl (by decide) (by decide) ?_ (by rw [len_eq] at hl; simp only [chars, List.length_map]; lia)
    refine PE.then (PE.sub (PE.name rfl) (PE.name rfl) (O.sub_lst ok (k := ((j : Nat) : Int)) (c := .str (tailF c1 j)) (by lia) (by rw [Int.toNat_natCast]; exact tailV_at hj6) (by lia))) ?_
    refine ⟨Iter.str ok, fun L2 => Cap.cons rfl rfl (.inl rfl) (.inl rfl) Cap.nil, fun L2 y hy => ?_, ?_⟩
    · obtain ⟨c, hc, rfl⟩ := List.mem_map.mp hy
      have hcs := hs c hc
      refine Step.some ?_
      refine TG.name ok (.inl rfl) ?_
      refine CT.nil ⟨rfl, ?_⟩
      refine EV.bmeth PySem.F.slot_dict_get PySem.F.plainAttrs_dict PySem.F.type_dict_get ((PE.name rfl).then ⟨b, rfl, dictOb hb, PL.then (PL.cons (PE.name rfl) (PL.cons (PE.name rfl) PL.nil)) ((O.dget ok (sK _) (x := (⟨#[c]⟩ : Str)) (.inl ⟨_, rfl⟩) hb).mono fun av S' e => ?_)⟩)
      obtain ⟨rfl, rfl⟩ := e
      exact ⟨refs_look hw hcs, Le.pre (ν := [("sign", .str ⟨#[c]⟩)])⟩
    · rw [spG_map]
      refine ⟨_, rfl, hjw, ?_⟩
      refine G2.mono (O.adds ok (by have : (ltr j).length = 1 := rfl; lia)) ?_
      rintro av S' ⟨rfl, rfl⟩
      exact ⟨rfl, Le.pre (ν := [("n", .int (j : Nat))])⟩
  rw [spelledG_map]
  refine EX.cons ?_
  refine E1.ite ?_
  have hpl : (pileStr (pcs (tailF c1) σ)).length ≤ 60 := by
    have key : ∀ l : List Nat, (pileLen (pcs (tailF c1) l)) ≤ 3 * l.length := fun l => by
      induction l with
      | nil => simp [pcs, pileLen]
      | cons j l ih =>
        have := tail_len c1 j
        simp only [pcs, pileLen, List.map_cons, List.sum_cons, pieceLen, List.length_cons] at ih ⊢
        have h1 : (ltr j).length = 1 := rfl
        lia
    rw [len_pile]
    have := key σ; lia
  have hpc : ∀ q ∈ pcs (tailF c1) σ, q.1.length ≤ 100 ∧ q.2.length ≤ 100 := fun q hq => by
    obtain ⟨j, hj, rfl⟩ := List.mem_map.mp hq
    have h1 : (ltr j).length = 1 := rfl
    have := tail_len c1 j
    exact ⟨by show (ltr j).length ≤ 100; lia, by show (tailF c1 j).length ≤ 100; lia⟩
  have hws : ((σ.map (spF way (tailF c1))).map (·.length)).sum + (σ.map (spF way (tailF c1))).length ≤ 1048576 := by
    have key : ∀ l : List Nat, ((l.map (spF way (tailF c1))).map (·.length)).sum ≤ 13 * l.length := fun l => by
      induction l with
      | nil => simp
      | cons j l ih =>
        have h1 := (spL_len way (tailF c1 j) (tail_len c1 j)).1
        have h2 : (spF way (tailF c1) j).length = 1 + (Txt.join "" (spL way (tailF c1 j))).length := by unfold spF; rw [strLen_append]; rfl
        simp only [List.map_cons, List.sum_cons, List.length_cons] at ih ⊢
        lia
    have := key σ
    rw [List.length_map]; lia
  refine (PT.cast (b := false) (PT.cmp (PE.hand g (n := n + 9) hw hpl (PE.name rfl) (PE.callT1 (PE.built rfl (g.non _ rfl) ((g.mb _ (by decide)).trans rfl)) (PE.name rfl) (O.str_acc g (n := n + 7) hpile (by unfold pcs; rw [List.length_map]; lia) hpc))) (EV.join ok (PE.str ok) (by decide) (PE.then (PE.name rfl) ⟨_, rfl, hws, rfl, rfl⟩)) (O.nes ok)) (by rw [spelled_esc way _ hlt]; exact bne_self_eq_false _)).then ?_
  rw [if_neg (by decide)]
  refine EX.nil ?_
  exact k
end
end Mine
namespace Mine
theorem Ord.take {U : Nat → Nat} {σ : List Nat} (h : Ord U σ) (i : Nat) : Ord U (σ.take i) := by
  refine ⟨h.1.sublist (List.take_sublist i σ), fun n hn => h.2.1 n (List.mem_of_mem_take hn), fun A x B e hx => ?_⟩
  refine h.2.2 A x (B ++ σ.drop i) ?_ hx
  have := List.take_append_drop i σ
  rw [e] at this
  simp only [List.append_assoc, List.cons_append] at this
  exact this.symm
theorem pileLen_spanN (t : Nat → Str) : ∀ l : List Nat, pileLen (pcs t l) = spanL (spanN t) l
  | [] => rfl
  | j :: l => by
    have ih := pileLen_spanN t l
    simp only [pcs, pileLen, List.map_cons, List.sum_cons, pieceLen, spanL] at ih ⊢
    rw [ih]; rfl
section
variable {w : World} {mg mb : Str → Option Value} (g : GA w mg mb)
include g
theorem GA.loop7 {n : Nat} {L : Addr} {sv : AV} {a b p q zs zb pa : Addr} {P : AF → St → Prop} {way head : Nat} {gr : Str} {Uv sp cl pcv spv : AV} {c1 : Int} {lt : Bool} {σ : List Nat} {U B : Nat → Nat} {M : List (Addr × AO)} (hh : head < 4) (hσ : σ.Perm (List.range 6)) (hf : Feas U σ) (hc : Clo U (clo U)) (hup : ∀ j, 0 < j → j < 6 → U j < j)
    (hbest : (zb, AO.idict (dtab (clo U) B)) ∈ M) (hcost : costL (spanN (tailF c1)) (priceN way (tailF c1)) head σ = B 63)
    (k : ∀ ps ds, EX (CA w mg mb) (n + 10) (lawE w L) ⟨lawM3 sv a Uv (.lst (tailV c1)) way head b gr p q sp (.lst (priceV way (tailF c1))) cl zs zb ++ ([("late", .bool lt), ("pile", .raw (.ref pa)), ("pieces", pcv), ("order", .lst (intV σ)), ("spelled", spv), ("sheet", .raw (.ref ps)), ("done", .int (maskOf σ : Nat)), ("cost", .int (B 63 : Nat))] : List (Str × AV)), M ++ [(ps, .obj 154 ds (AccKv head) (some (pcs (tailF c1) σ)))]⟩ [] P) :
    EX (CA w mg mb) (n + 10) (lawE w L) ⟨lawM3 sv a Uv (.lst (tailV c1)) way head b gr p q sp (.lst (priceV way (tailF c1))) cl zs zb ++ ([("late", .bool lt), ("pile", .raw (.ref pa)), ("pieces", pcv), ("order", .lst (intV σ)), ("spelled", spv)] : List (Str × AV)), M⟩ ((lawL w).drop 7) P := by
  have ok := okA g
  have sl : sizeLine = 16777216 := by decide
  have s6 : σ.length = 6 := hσ.length_eq
  have hlt : ∀ j ∈ σ, j < 6 := fun j hj => List.mem_range.mp (hσ.mem_iff.mp hj)
  have ho : Ord U σ := ⟨hσ.nodup_iff.mpr List.nodup_range, hlt, hf⟩
  refine EX.cons ?_
  refine E1.loc ok ?_
  refine EV.callK (PE.glob rfl (g.glo _ _ rfl)) rfl (PL.then (PL.cons (PE.name rfl) PL.nil) ((((acc_fc g (n := n + 8) (M := M) (k := head) (args := [.int head]) (.inr rfl)).fn) _ _).mono fun av S₂ e => ?_))
  obtain ⟨e1, ps, ds, rfl, e3⟩ := e
  rw [back_eq e1 e3]
  refine EX.cons ?_
  refine E1.loc ok ?_
  refine (PE.int ok).then ?_
  refine EX.cons ?_
  refine E1.loc ok ?_
  refine (PE.int ok).then ?_
  refine EX.cons ?_
  refine E1_forT ok (l := intV σ) (fun i S => S = ⟨lawM3 sv a Uv (.lst (tailV c1)) way head b gr p q sp (.lst (priceV way (tailF c1))) cl zs zb ++ ([("late", .bool lt), ("pile", .raw (.ref pa)), ("pieces", pcv), ("order", .lst (intV σ)), ("spelled", spv), ("sheet", .raw (.ref ps)), ("done", .int (maskOf (σ.take i) : Nat)), ("cost", .int (costL (spanN (tailF c1)) (priceN way (tailF c1)) head (σ.take i) : Nat))] : List (Str × AV)), M ++ [(ps, .obj 154 ds (AccKv head) (some (pcs (tailF c1) (σ.take i))))]⟩) (.name _ _) ?_ ?_ ?_
  · exact PE.then (PE.name rfl) ⟨Iter.lst ok, rfl⟩
  · rintro i S₁ x Tn hTn hx rfl
    obtain ⟨j, hj, rfl⟩ : ∃ j : Nat, σ[i]? = some j ∧ x = .int (j : Nat) := by
      unfold intV at hx
      rw [List.getElem?_map] at hx
      obtain ⟨m, h1, h2⟩ := Option.map_eq_some_iff.mp hx
      exact ⟨m, h1, h2.symm⟩
    have hj6 := hlt j (List.mem_of_getElem? hj)
    have et : σ.take (i + 1) = σ.take i ++ [j] := by rw [List.take_add_one, hj]; rfl
    have hmem := Ord.mem hc hup _ _ rfl (ho.take (i + 1))
    have hcs := costL_snoc (span := spanN (tailF c1)) (price := priceN way (tailF c1)) (σ.take i) head j
    rw [← et] at hcs
    have hms := maskOf_snoc (σ.take i) j
    rw [← et] at hms
    have hpp : pcs (tailF c1) (σ.take i) ++ [(ltr j, tailF c1 j)] = pcs (tailF c1) (σ.take (i + 1)) := by rw [et]; simp [pcs]
    have hsp : spanL (spanN (tailF c1)) (σ.take (i + 1)) = spanL (spanN (tailF c1)) (σ.take i) + spanN (tailF c1) j := by rw [et, spanL_append]; simp [spanL]
    have hpl := pileLen_spanN (tailF c1) (σ.take (i + 1))
    have hi6 : i < 6 := by have := (List.getElem?_eq_some_iff.mp hj).1; lia
    have hti : (σ.take (i + 1)).length ≤ 6 := by rw [List.length_take]; lia
    have hti0 : (σ.take i).length ≤ 6 := by rw [List.length_take]; lia
    have hprl : priceN way (tailF c1) j ≤ 10 := by have := ex_le way (tailF c1 j); have := tail_len c1 j; unfold priceN; lia
    have hq : ∀ q ∈ pcs (tailF c1) (σ.take (i + 1)), q.1.length ≤ 1000 ∧ q.2.length ≤ 1000 := fun q hq => by
      obtain ⟨j, hj, rfl⟩ := List.mem_map.mp hq
      have h1 : (ltr j).length = 1 := rfl
      have := tail_len c1 j
      exact ⟨by show (ltr j).length ≤ 1000; lia, by show (tailF c1 j).length ≤ 1000; lia⟩
    have get0 : ∀ x : Addr × AO, (M ++ [x])[M.length]? = some x := fun x => by simp
    have set0 : ∀ x y : Addr × AO, (M ++ [x]).set M.length y = M ++ [y] := fun x y => by simp
    refine TG.cell ok ?_
    refine EX.cons ?_
    refine E1.expr ?_
    refine EV.push g (n := n + 9) (PE.name rfl) (get0 _) (by unfold pcs; rw [List.length_map]; lia) (x := ltr j) (y := tailF c1 j) (PE.cast (PE.sub (PE.str ok) (PE.name rfl) (O.sub_str ok ?_ ?_ ?_)) (congrArg AV.str (abc_at j hj6))) (PE.sub (PE.name rfl) (PE.name rfl) (O.sub_lst ok (k := ((j : Nat) : Int)) (c := .str (tailF c1 j)) (by lia) (by rw [Int.toNat_natCast]; exact tailV_at hj6) (by lia))) ?_
    · unfold fitsSsize; simp; lia
    · show -(6 : Int) ≤ _; lia
    · show _ < (6 : Int); lia
    rw [set0, hpp]
    refine EX.cons ?_
    refine E1.loc ok ?_
    refine PE.then (PE.cast (b := .int (costL (spanN (tailF c1)) (priceN way (tailF c1)) head (σ.take (i + 1)) : Nat)) (PE.bin (PE.name rfl) (PE.bin (PE.sub (PE.name rfl) (PE.name rfl) (O.sub_lst ok (k := ((j : Nat) : Int)) (c := .int (priceN way (tailF c1) j : Nat)) (by lia) (by rw [Int.toNat_natCast]; exact priceV_at hj6) (by lia))) (PE.callB (PE.built rfl (g.non _ rfl) ((g.mb _ (by decide)).trans rfl)) (PL.cons (PE.name rfl) PL.nil) (O.len_acc g (n := n + 8) (k := head) (l := pcs (tailF c1) (σ.take (i + 1))) (p := ps) (d := ds) (by simp) (by unfold pcs; rw [List.length_map]; lia) hq (by lia))) (O.mul ok (bits_small (by lia)))) (O.add ok)) ?_) ?_
    · congr 1
      rw [hcs, hpl, hsp, Nat.add_assoc head]
      push_cast
      rfl
    refine EX.cons ?_
    refine E1.loc ok ?_
    refine PE.then (PE.cast (b := .int (maskOf (σ.take (i + 1)) : Nat)) (PE.bin (PE.name rfl) (PE.bin (PE.int ok) (PE.name rfl) (O.shl ok (by lia) (by lia) (by decide))) (O.add ok)) ?_) ?_
    · congr 1
      rw [hms, Int.toNat_natCast, Int.natCast_add]; simp
    refine EX.cons ?_
    refine E1.ite ?_
    refine (PT.cast (b := false) (PT.cmp (PE.name rfl) (PE.name rfl) (O.dnotin ok (iK _) (l := dtab (clo U) B) (x := (maskOf (σ.take (i + 1)) : Nat)) (.inl ⟨_, rfl⟩) (List.mem_append_left _ hbest))) (by rw [dtab_has, decide_eq_true hmem]; rfl)).then ?_
    rw [if_neg (by decide)]
    refine EX.nil (EX.nil (hTn .next _ ⟨⟨lawM3 sv a Uv (.lst (tailV c1)) way head b gr p q sp (.lst (priceV way (tailF c1))) cl zs zb ++ ([("late", .bool lt), ("pile", .raw (.ref pa)), ("pieces", pcv), ("order", .lst (intV σ)), ("spelled", spv), ("sheet", .raw (.ref ps)), ("done", .int (maskOf (σ.take (i + 1)) : Nat)), ("cost", .int (costL (spanN (tailF c1)) (priceN way (tailF c1)) head (σ.take (i + 1)) : Nat))] : List (Str × AV)), M ++ [(ps, .obj 154 ds (AccKv head) (some (pcs (tailF c1) (σ.take (i + 1)))))]⟩, Le.pre (μ := lawM3 sv a Uv (.lst (tailV c1)) way head b gr p q sp (.lst (priceV way (tailF c1))) cl zs zb ++ ([("late", .bool lt), ("pile", .raw (.ref pa)), ("pieces", pcv), ("order", .lst (intV σ)), ("spelled", spv), ("sheet", .raw (.ref ps)), ("done", .int (maskOf (σ.take (i + 1)) : Nat)), ("cost", .int (costL (spanN (tailF c1)) (priceN way (tailF c1)) head (σ.take (i + 1)) : Nat))] : List (Str × AV))) (ν := [("n", .int (j : Nat))]), rfl⟩))
  · rintro S₁ rfl
    have hl6 : (intV σ).length = σ.length := by unfold intV; rw [List.length_map]
    rw [hl6, List.take_length, hcost]
    refine EX.cons ?_
    refine E1.ite ?_
    refine (PT.cast (b := false) (PT.cmp (PE.name rfl) (PE.sub (PE.name rfl) (PE.int ok) (O.sub_idict ok (l := dtab (clo U) B) (a := zb) (k := ((63 : Nat) : Int)) (List.mem_append_left _ hbest) (dtab_get hc.full))) (O.ne ok)) (bne_self_eq_false _)).then ?_
    rw [if_neg (by decide)]
    refine EX.nil ?_
    exact k ps ds
end
end Mine
namespace Mine
theorem Le.app {μ0 ν ν' : List (Str × AV)} {M : List (Addr × AO)} (h : ∀ x av, ν.lookup x = some av → ν'.lookup x = some av) : Le ⟨μ0 ++ ν, M⟩ ⟨μ0 ++ ν', M⟩ := ⟨rfl, fun x av e => by
  show (μ0 ++ ν').lookup x = some av
  have e : (μ0 ++ ν).lookup x = some av := e
  rw [List.lookup_append] at e ⊢
  cases q : μ0.lookup x with
  | some v => rw [q] at e; exact e
  | none => rw [q] at e; exact h x av e⟩
theorem lookup_one {y x : Str} {v av : AV} {ν' : List (Str × AV)} (h : ν'.lookup y = some v) (e : ([(y, v)] : List (Str × AV)).lookup x = some av) : ν'.lookup x = some av := by
  rw [List.lookup_cons] at e
  split at e
  · rename_i q
    cases e
    rw [eq_of_beq q]; exact h
  · cases e
theorem Le.ins {μ0 ν : List (Str × AV)} {y : Str} {v : AV} {M : List (Addr × AO)} (h0 : μ0.lookup y = none) : Le ⟨μ0 ++ [(y, v)], M⟩ ⟨ins y v (μ0 ++ ν), M⟩ := ⟨rfl, fun x av e => by
  show (Mine.ins y v (μ0 ++ ν)).lookup x = some av
  have e : (μ0 ++ [(y, v)]).lookup x = some av := e
  rw [lookup_ins]
  rw [List.lookup_append] at e
  by_cases q : x = y
  · rw [if_pos q]
    rw [q, h0] at e
    simpa [List.lookup] using e
  · rw [if_neg q, List.lookup_append]
    cases q2 : μ0.lookup x with
    | some u => rw [q2] at e; exact e
    | none =>
      rw [q2] at e
      have q3 : (x == y) = false := beq_eq_false_iff_ne.mpr q
      simp [List.lookup, q3] at e⟩
noncomputable def lateL : List AV := [.bool false, .bool true]
section
variable {w : World} {mg mb : Str → Option Value} (g : GA w mg mb)
include g
theorem GA.law14 {n : Nat} {L : Addr} {sv : AV} {a b p q zs zb : Addr} {P : AF → St → Prop} {way head : Nat} {gr : Str} {Uv sp cl : AV} {c1 : Int} {U B : Nat → Nat} {nm : Nat → Str} {M : List (Addr × AO)} (hw : way < 5) (hh : head < 4) (jk : JOk ⟨U, tailF c1, nm, way⟩) (hc : Clo U (clo U)) (hup : ∀ j, 0 < j → j < 6 → U j < j)
    (hp : (p, AO.list (nmV nm 6)) ∈ M) (hb : (b, AO.sdict (refsL way)) ∈ M) (hbest : (zb, AO.idict (dtab (clo U) B)) ∈ M) (hB : DP (spanN (tailF c1)) (priceN way (tailF c1)) U head (clo U) B)
    (k : ∀ σ M', σ.Perm (List.range 6) → Feas U σ → EX (CA w mg mb) (n + 10) (lawE w L) ⟨lawM3 sv a Uv (.lst (tailV c1)) way head b gr p q sp (.lst (priceV way (tailF c1))) cl zs zb ++ ([("order", .lst (intV σ))] : List (Str × AV)), M ++ M'⟩ ((lawB w).drop 22) P) :
    EX (CA w mg mb) (n + 10) (lawE w L) ⟨lawM3 sv a Uv (.lst (tailV c1)) way head b gr p q sp (.lst (priceV way (tailF c1))) cl zs zb, M⟩ ((lawB w).drop 21) P := by
  have ok := okA g
  refine EX.cons ?_
  refine E1_for ok (l := lateL) (fun i S => ∃ M' ν, S = ⟨lawM3 sv a Uv (.lst (tailV c1)) way head b gr p q sp (.lst (priceV way (tailF c1))) cl zs zb ++ ν, M ++ M'⟩ ∧ (0 < i → ∃ σ, σ.Perm (List.range 6) ∧ Feas U σ ∧ ν = ([("order", .lst (intV σ))] : List (Str × AV)))) (.name _ _) ?_ ?_ ?_
  · exact PE.then (PE.tuple ok (l := lateL) (PL.cons (PE.bool) (PL.cons PE.bool PL.nil)) (by decide)) ⟨Iter.tup ok, [], [], by simp, fun h => absurd h (by lia)⟩
  · rintro i S₁ x hx ⟨M', ν, rfl, _⟩
    obtain ⟨lt, rfl⟩ : ∃ lt, x = .bool lt := by
      match i, hx with
      | 0, hx => exact ⟨false, by simpa [lateL] using hx.symm⟩
      | 1, hx => exact ⟨true, by simpa [lateL] using hx.symm⟩
      | i + 2, hx => simp [lateL] at hx
    refine TG.name ok (.inl rfl) ?_
    refine G.weak (S0 := ⟨lawM3 sv a Uv (.lst (tailV c1)) way head b gr p q sp (.lst (priceV way (tailF c1))) cl zs zb ++ ([("late", .bool lt)] : List (Str × AV)), M ++ M'⟩) (Le.ins rfl) ?_
    refine GA.loop0 g (L := L) (nm := nm) (U := U) jk (List.mem_append_left _ hp) fun aH aT aA aR pp d at_ pl hG => ?_
    obtain ⟨hσ, hf, hmin⟩ := (hG head).final
    have e2 : Job.price ⟨U, tailF c1, nm, way⟩ = priceN way (tailF c1) := by funext j; exact price_ex _ j
    have e1 : Job.span ⟨U, tailF c1, nm, way⟩ = spanN (tailF c1) := rfl
    rw [e1, e2] at hmin
    have hcost := DP.best hc hB hσ hf hmin
    have hpile := mem_of_get? (lay_pl (M0 := M ++ M' ++ [(aH, AO.sdict (hostsL nm)), (aT, AO.sdict (tailsL c1))]) (m := 6) (aA := aA) (aR := aR) (p := pp) (d := d) (ts := tailF c1) (at_ := at_) (row := []) (pl := pl) (j := 0) (by lia))
    generalize hσe : pl 0 = σ at *
    refine GA.loop1 g hσ hpile ?_
    refine GA.loop4 g hσ ?_
    refine GA.loop5 g hw hσ (List.mem_append_left _ (List.mem_append_left _ (List.mem_append_left _ hb))) hpile ?_
    refine GA.loop7 g hh hσ hf hc hup (List.mem_append_left _ (List.mem_append_left _ (List.mem_append_left _ hbest))) hcost fun ps ds => ?_
    refine EX.nil ⟨⟨lawM3 sv a Uv (.lst (tailV c1)) way head b gr p q sp (.lst (priceV way (tailF c1))) cl zs zb ++ ([("order", .lst (intV σ))] : List (Str × AV)), _⟩, Le.app (fun x av e => lookup_one rfl e), M' ++ ([(aH, AO.sdict (hostsL nm)), (aT, AO.sdict (tailsL c1))] ++ (lay 6 aA aR pp d (tailF c1) at_ [] pl ++ [(ps, AO.obj 154 ds (AccKv head) (some (pcs (tailF c1) σ)))])), [("order", .lst (intV σ))], ?_, fun _ => ⟨σ, hσ, hf, rfl⟩⟩
    simp only [List.append_assoc]
  · rintro S₁ ⟨M', ν, rfl, h⟩
    obtain ⟨σ, hσ, hf, rfl⟩ := h (by decide)
    exact k σ M' hσ hf
end
end Mine
end
section
open PySem PySem.W PySem.Calls PyProof.Rows
open PySem.SeqAt
namespace Mine
theorem FineS.dot {x : Str} (h : FineS x) : FineS ("." ++ x) := fun c hc => by
  rw [cps_append] at hc
  rcases List.mem_append.mp hc with hc | hc
  · have : c = 46 := by simpa [show ("." : Str).cps.toList = [46] from rfl] using hc
    subst this; decide
  · exact h c hc
theorem FineS.tail {x : Str} (h : FineS x) (h1 : 1 ≤ x.length) : noDigit (Txt.slice x (some 1) none) := fine_noDigit fun c hc => by
  have := slice_from x 1 h1
  rw [show ((1 : Nat) : Int) = 1 from rfl] at this
  rw [this] at hc
  exact h c (List.mem_of_mem_drop hc)
theorem dot_len (x : Str) : ("." ++ x : Str).length = 1 + x.length := by rw [strLen_append]; rfl
section
variable {C : Cx} (ok : C.Ok) {n : Nat} {env : Env} {S : St}
include ok
theorem O.in_ints {x : Nat} {ns : List Nat} : P2 C n env S (compareOp .In) (.int (x : Nat)) (.lst (ns.map fun i => .int (i : Nat))) (.bool (decide (x ∈ ns))) := .of ok fun A X s v v' Q ha _ r r' lt _ q => by
  cases r with
  | int _ t =>
    cases r' with
    | lst e nx rs =>
      rename_i b ws k
      have hi : ∀ {ws : List Value} {ns : List Nat}, VRs s.heap X ws (ns.map fun i => AV.int (i : Nat)) → (∀ y ∈ ws, ∃ (i : Int) (u : Tok), y = .int i u) ∧ (ws.any fun y => match y with | .int i _ => i == (x : Int) | _ => false) = decide (x ∈ ns) := by
        intro ws
        induction ws with
        | nil => intro ns r; cases ns with
                 | nil => exact ⟨fun _ h => (nomatch h), rfl⟩
                 | cons a l => cases r
        | cons w ws ih => intro ns r; cases ns with
                 | nil => cases r
                 | cons a l =>
                   cases r with
                   | cons r0 rs =>
                     cases r0
                     obtain ⟨h1, h2⟩ := ih rs
                     refine ⟨fun y hy => ?_, ?_⟩
                     · rcases List.mem_cons.mp hy with rfl | hy
                       · exact ⟨_, _, rfl⟩
                       · exact h1 y hy
                     · rw [List.any_cons, h2]
                       by_cases e : x = a
                       · subst e; simp
                       · have : (((a : Nat) : Int) == (x : Int)) = false := beq_eq_false_iff_ne.mpr (by lia)
                         show ((((a : Nat) : Int) == (x : Int)) || decide (x ∈ l)) = _
                         rw [this]; simp [e]
      obtain ⟨h1, h2⟩ := hi rs
      refine in_listAt (fun y => match y with | .int i _ => i == (x : Int) | _ => false) (isList_of e) (fun y hy => ?_) ?_
      · obtain ⟨i, u, rfl⟩ := h1 y (by simpa using hy)
        exact EqAt.int_int i u x t
      · rw [show (ws.toArray.any fun y => match y with | .int i _ => i == (x : Int) | _ => false) = decide (x ∈ ns) from by rw [List.any_toArray]; exact h2]
        exact q _ _ (.refl ..) (.bool _)
end
section
variable {w : World} {mg mb : Str → Option Value} (g : GA w mg mb)
include g
theorem PE.dmatch {n : Nat} {env : Env} {S : St} {e1 e2 : Expr} {p pos : Pos} {x y : Str} (hk : env.kindOf "domain_match" = some .globalImplicit) (hx : FineS (Txt.lower x)) (hy : FineS (Txt.lower y)) (h1 : 1 ≤ (Txt.lower y).length) (zx : (Txt.lower x).length ≤ 1000) (zy : (Txt.lower y).length ≤ 1000)
    (ho1 : PE (CA w mg mb) (n + 2) env S e1 (.str x)) (ho2 : PE (CA w mg mb) (n + 2) env S e2 (.str y))
    (he : starEach [e1, e2] env = (false, eval e1 env) :: starEach [e2] env := by rfl) (he2 : starEach [e2] env = (false, eval e2 env) :: starEach [] env := by rfl) (hplain : (backTo pos (starEach [e2] env)).any (·.1) = false := by rfl) :
    PE (CA w mg mb) (n + 2) env S (.Call (.Name "domain_match" p) [e1, e2] [] pos) (.bool (dmatch x y)) :=
  EV.callK (PE.glob hk (g.glo _ _ rfl)) rfl ((PL.cons ho1 (PL.cons ho2 PL.nil he2) he).then (((dmatch_fn g (n := n) (M := S.M) (fine_noDigit hx) (hy.tail h1) zx zy) env S.μ).mono fun a S' e => ⟨e.2.1, by obtain ⟨μ, M⟩ := S'; obtain ⟨e1, _, e3⟩ := e; cases e1; cases e3; rfl⟩)) he hplain
end
end Mine
end
section
open PySem PySem.W PySem.Calls PyProof.Rows
set_option tactic.hygienic false
namespace Mine
theorem anc_ahead {U : Nat → Nat} {σ : List Nat} (hf : Feas U σ) {c a : Nat} (h : Anc U c a) : ∀ A B, σ = A ++ a :: B → c ∈ A := by
  induction h with
  | base h0 => exact fun A B e => hf A _ B e (by lia)
  | @step b j h0 _ ih =>
    intro A B e
    obtain ⟨A1, A2, rfl⟩ := List.append_of_mem (hf A _ B e (by lia))
    exact List.mem_append_left _ (ih A1 (A2 ++ j :: B) (by rw [e]; simp))
theorem split_at {σ : List Nat} {j a : Nat} (h : σ[j]? = some a) : σ = σ.take j ++ a :: σ.drop (j + 1) := by
  obtain ⟨h1, h2⟩ := List.getElem?_eq_some_iff.mp h
  rw [← h2, ← List.drop_eq_getElem_cons h1, List.take_append_drop]
theorem not_anc_late {U : Nat → Nat} {σ : List Nat} (hf : Feas U σ) (nd : σ.Nodup) {i j a c : Nat} (hi : σ[i]? = some c) (hj : σ[j]? = some a) (hij : i < j) : ¬ Anc U a c := fun h => by
  have := anc_ahead hf h _ _ (split_at hi)
  obtain ⟨k, hk, e⟩ := List.mem_take_iff_getElem.mp this
  obtain ⟨hj1, hj2⟩ := List.getElem?_eq_some_iff.mp hj
  have : k = j := (List.getElem_inj nd).mp (e.trans hj2.symm)
  lia
theorem head_zero {U : Nat → Nat} {σ : List Nat} (hf : Feas U σ) {a : Nat} (h : σ[0]? = some a) : a = 0 := by
  cases Nat.eq_zero_or_pos a with
  | inl h => exact h
  | inr h0 => exact absurd (hf _ _ _ (split_at h) (by lia)) (by simp)
theorem later_pos {U : Nat → Nat} {σ : List Nat} (hf : Feas U σ) (nd : σ.Nodup) {j a : Nat} (hj : σ[j]? = some a) (h0 : 0 < j) : 0 < a := by
  obtain ⟨hj1, hj2⟩ := List.getElem?_eq_some_iff.mp hj
  have h1 : σ[0]? = some σ[0] := List.getElem?_eq_getElem (by lia)
  have hz := head_zero hf h1
  cases Nat.eq_zero_or_pos a with
  | inr h => exact h
  | inl h =>
    have : j = 0 := (List.getElem_inj nd).mp (hj2.trans (h.trans hz.symm))
    lia
theorem upper_len {x : Str} (h : FineS x) : (Txt.upper x).length = x.length := by
  rw [len_eq, upper_cps h, len_eq, List.length_map]
theorem range_small : ∀ j : Nat, j < 6 → Builtin.Range.small 0 (j : Int) 1 = true := by decide
theorem small_room {x : Str} (h : x.length ≤ 1000) : Builtin.Str.tooLong x.length = false := by
  have sl : sizeLine = 16777216 := by decide
  unfold Builtin.Str.tooLong; exact decide_eq_false (by lia)
section
variable {w : World} {mg mb : Str → Option Value} (g : GA w mg mb)
include g
theorem GA.law15 {n : Nat} {L : Addr} {sv : AV} {a b p q zs zb : Addr} {P : AF → St → Prop} {way head : Nat} {gr : Str} {Uv Tv sp pr cl : AV} {U : Nat → Nat} {t nm : Nat → Str} {bg : Bool} {σ : List Nat} {M : List (Addr × AO)} (N : Names U t bg nm) (hσ : σ.Perm (List.range 6)) (hf : Feas U σ) (hp : (p, AO.list (nmV nm 6)) ∈ M) (hq : (q, AO.list (abV U 6)) ∈ M)
    (k : ∀ S, P (.ret (.bool true)) S) :
    EX (CA w mg mb) (n + 10) (lawE w L) ⟨lawM3 sv a Uv Tv way head b gr p q sp pr cl zs zb ++ ([("order", .lst (intV σ))] : List (Str × AV)), M⟩ ((lawB w).drop 22) P := by
  have ok := okA g
  have sl : sizeLine = 16777216 := by decide
  have s6 : σ.length = 6 := hσ.length_eq
  have nd : σ.Nodup := hσ.nodup_iff.mpr List.nodup_range
  have hlt : ∀ {j x}, σ[j]? = some x → x < 6 := fun h => List.mem_range.mp (hσ.mem_iff.mp (List.mem_of_getElem? h))
  have iv : ∀ {j x : Nat}, σ[j]? = some x → (intV σ)[((j : Nat) : Int).toNat]? = some (.int (x : Nat)) := fun {j x} h => by
    rw [Int.toNat_natCast]; unfold intV; rw [List.getElem?_map, h]; rfl
  have nlen : ∀ {j}, j < 6 → (nm j).length ≤ 30 := fun {j} h => by have := N.nlen j h; lia
  refine EX.cons ?_
  refine E1_forT ok (l := upto 1 6) (fun i S => S = ⟨lawM3 sv a Uv Tv way head b gr p q sp pr cl zs zb ++ ([("order", .lst (intV σ))] : List (Str × AV)), M⟩) (.name _ _) ?_ ?_ ?_
  · exact PE.then (PE.callTN (PE.built rfl (g.non _ rfl) ((g.mb _ (by decide)).trans rfl)) (PL.cons (PE.int ok) (PL.cons (PE.int ok) PL.nil)) (O.range2 ok)) ⟨Iter.rng ok rfl, rfl⟩
  · rintro k' S₁ x Tn hTn hx rfl
    obtain ⟨rfl, hk⟩ := upto_at hx
    obtain ⟨j, hj⟩ : ∃ j : Nat, j = k' + 1 := ⟨_, rfl⟩
    have ej : (1 : Int) + (k' : Int) = (j : Int) := by lia
    rw [ej]
    have hj6 : j < 6 := by lia
    obtain ⟨y, hy⟩ : ∃ y, σ[j]? = some y := ⟨_, List.getElem?_eq_getElem (by lia)⟩
    have hy6 := hlt hy
    have hy0 := later_pos hf nd hy (by lia)
    have fy := N.fine y hy6
    have ly := nlen hy6
    refine TG.name ok (.inl rfl) ?_
    refine EX.cons ?_
    refine E1.loc ok ?_
    refine PE.then (PE.sub (PE.name rfl) (PE.sub (PE.name rfl) (PE.name rfl) (O.sub_lst ok (k := ((j : Nat) : Int)) (by lia) (iv hy) (by lia))) (O.sub_lstM ok (k := ((y : Nat) : Int)) hp (by lia) (by rw [Int.toNat_natCast]; exact nmV_at hy6) (by lia))) ?_
    refine EX.cons ?_
    refine E1_forT ok (l := upto 0 j) (fun i S => S = ⟨lawM3 sv a Uv Tv way head b gr p q sp pr cl zs zb ++ ([("order", .lst (intV σ)), ("j", .int (j : Nat)), ("later", .str (nm y))] : List (Str × AV)), M⟩) (.name _ _) ?_ ?_ ?_
    · exact PE.then (PE.callT1 (PE.built rfl (g.non _ rfl) ((g.mb _ (by decide)).trans rfl)) (PE.name rfl) (O.range1 ok)) ⟨Iter.rng ok (range_small j hj6), rfl⟩
    · rintro i S₂ x Tm hTm hx rfl
      obtain ⟨rfl, hi⟩ := upto_at hx
      have ei : (0 : Int) + (i : Int) = (i : Int) := by lia
      rw [ei]
      have hij : i < j := by lia
      obtain ⟨z, hz⟩ : ∃ z, σ[i]? = some z := ⟨_, List.getElem?_eq_getElem (by lia)⟩
      have hz6 := hlt hz
      have fz := N.fine z hz6
      have lz := nlen hz6
      obtain ⟨lh, eh⟩ := N.head hz6
      have h1z : 1 ≤ (nm z).length := by rw [len_eq, eh]; simp
      have d1 : dmatch (Txt.upper (nm z)) ("." ++ nm y) = false := by
        rw [Bool.eq_false_iff]
        exact fun h => not_anc_late hf nd hz hy hij ((N.m1 hy6 hz6).mp h)
      have d2 : dmatch (Txt.upper (nm y)) (great (nm z)) = decide (z ∈ abN U y) := by
        have h1 := N.m2 hz6 hy6
        have h2 := abN_anc N.up y y (Nat.le_refl _) hy6 z
        by_cases h : Anc U z y
        · rw [h1.mpr h, decide_eq_true (h2.mpr h)]
        · rw [decide_eq_false (fun q => h (h2.mp q)), Bool.eq_false_iff]; exact fun q => h (h1.mp q)
      have glow : Txt.lower (great (nm z)) = "." ++ nm z := great_low fz eh
      have hit : Txt.item (nm z) 0 = ⟨#[97 + z]⟩ := item0 eh
      have fit : FineS (Txt.item (nm z) 0) := fun c hc => by
        rw [hit] at hc
        have : c = 97 + z := by simpa using hc
        subst this; exact (ltr_fine hz6).1
      refine TG.name ok (.inl rfl) ?_
      refine EX.cons ?_
      refine E1.loc ok ?_
      refine PE.then (PE.sub (PE.name rfl) (PE.sub (PE.name rfl) (PE.name rfl) (O.sub_lst ok (k := ((i : Nat) : Int)) (by lia) (iv hz) (by lia))) (O.sub_lstM ok (k := ((z : Nat) : Int)) hp (by lia) (by rw [Int.toNat_natCast]; exact nmV_at hz6) (by lia))) ?_
      refine EX.cons ?_
      refine E1.ite ?_
      refine (PT.cast (b := false) (PT.cmp (PE.dmatch g (n := n + 8) rfl (by rw [lower_upper fz]; exact fz) (by rw [lower_fine fy.dot]; exact fy.dot) (by rw [lower_fine fy.dot, dot_len]; lia) (by rw [lower_upper fz]; lia) (by rw [lower_fine fy.dot, dot_len]; lia) (PE.upper ok (PE.name rfl) (small_room (by rw [upper_len fz]; lia))) (PE.bin (PE.str ok) (PE.name rfl) (O.adds ok (by have : ("." : Str).length = 1 := rfl; lia)))) PE.bool (O.isnt_bool ok)) (by rw [d1]; rfl)).then ?_
      rw [if_neg (by decide)]
      refine EX.nil ?_
      refine EX.cons ?_
      refine E1.loc ok ?_
      refine PE.then (PE.cast (b := .str (great (nm z))) (PE.bin (PE.bin (PE.str ok) (PE.upper ok (PE.sub (PE.name rfl) (PE.int ok) (O.sub_str ok (x := nm z) (i := ((0 : Nat) : Int)) (by decide) (by lia) (by lia))) (small_room (by rw [show (((0 : Nat) : Int)) = 0 from rfl, upper_len fit, hit]; exact (by decide : (1 : Nat) ≤ 1000)))) (O.adds ok ?_)) (PE_from ok (PE.name rfl) (PE.int ok) (by lia)) (O.adds ok ?_)) rfl) ?_
      · rw [show (((0 : Nat) : Int)) = 0 from rfl, upper_len fit, hit, sl]; exact (by decide : (1 : Nat) + 1 ≤ 16777216)
      · rw [show (((0 : Nat) : Int)) = 0 from rfl, dot_len, upper_len fit, hit, sl]
        have h1 : (⟨#[97 + z]⟩ : Str).length = 1 := rfl
        have h2 := Txt.slice_le (nm z) (some 1) none
        lia
      refine EX.cons ?_
      refine E1.ite ?_
      refine (PT.cast (b := false) (PT.cmp (PE.dmatch g (n := n + 8) rfl (by rw [lower_upper fy]; exact fy) (by rw [glow]; exact fz.dot) (by rw [glow, dot_len]; lia) (by rw [lower_upper fy]; lia) (by rw [glow, dot_len]; lia) (PE.upper ok (PE.name rfl) (small_room (by rw [upper_len fy]; lia))) (PE.name rfl)) (PE.cmp (PE.sub (PE.name rfl) (PE.name rfl) (O.sub_lst ok (k := ((i : Nat) : Int)) (by lia) (iv hz) (by lia))) (PE.sub (PE.name rfl) (PE.sub (PE.name rfl) (PE.name rfl) (O.sub_lst ok (k := ((j : Nat) : Int)) (by lia) (iv hy) (by lia))) (O.sub_lstM ok (k := ((y : Nat) : Int)) hq (by lia) (by rw [Int.toNat_natCast]; exact abV_at hy6) (by lia))) (O.in_ints ok)) (O.isnt_bool ok)) (by rw [d2]; exact bne_self_eq_false _)).then ?_
      rw [if_neg (by decide)]
      refine EX.nil ?_
      refine EX.nil (hTm .next _ ⟨⟨lawM3 sv a Uv Tv way head b gr p q sp pr cl zs zb ++ ([("order", .lst (intV σ)), ("j", .int (j : Nat)), ("later", .str (nm y))] : List (Str × AV)), M⟩, Le.pre (μ := lawM3 sv a Uv Tv way head b gr p q sp pr cl zs zb ++ ([("order", .lst (intV σ)), ("j", .int (j : Nat)), ("later", .str (nm y))] : List (Str × AV))) (ν := [("i", .int (i : Nat)), ("first", .str (nm z)), ("great", .str (great (nm z)))]), rfl⟩)
    · rintro S₂ rfl
      have f0 := N.fine 0 (by lia)
      have l0 := nlen (j := 0) (by lia)
      obtain ⟨h0l, h0e⟩ := N.head (j := 0) (by lia)
      have h10 : 1 ≤ (nm 0).length := by rw [len_eq, h0e]; simp
      obtain ⟨hyl, hye⟩ := N.head hy6
      have h1y : 1 ≤ (nm y).length := by rw [len_eq, hye]; simp
      have fd : FineS ("." : Str) := fun c hc => by
        have : c = 46 := by simpa [show ("." : Str).cps.toList = [46] from rfl] using hc
        subst this; decide
      refine EX.cons ?_
      refine E1.ite ?_
      refine (PT.or2 (a := false) (b := false) (PT.cast (PT.cmp (PE.dmatch g (n := n + 8) rfl (by rw [lower_upper fy]; exact fy) (by rw [lower_fine fy]; exact fy) (by rw [lower_fine fy]; exact h1y) (by rw [lower_upper fy]; lia) (by rw [lower_fine fy]; lia) (PE.upper ok (PE.name rfl) (small_room (by rw [upper_len fy]; lia))) (PE.name rfl)) PE.bool (O.isnt_bool ok)) (by rw [N.m3 hy6]; rfl)) (fun _ => PT.cast (PT.cmp (PE.dmatch g (n := n + 8) rfl (by rw [lower_fine fy]; exact fy) (by rw [lower_fine f0]; exact f0) (by rw [lower_fine f0]; exact h10) (by rw [lower_fine fy]; lia) (by rw [lower_fine f0]; lia) (PE.name rfl) (PE.sub (PE.name rfl) (PE.int ok) (O.sub_lstM ok (k := ((0 : Nat) : Int)) (c := .str (nm 0)) hp (by lia) (nmV_at (by lia)) (by lia)))) PE.bool (O.isnt_bool ok)) (by rw [N.m4 hy0 hy6]; rfl))).then ?_
      rw [if_neg (by decide)]
      refine EX.nil ?_
      refine EX.cons ?_
      refine E1.ite ?_
      refine (PT.or2 (a := false) (b := false) (PT.cast (PT.cmp (PE.dmatch g (n := n + 8) rfl (by rw [lower_fine fy]; exact fy) (by rw [lower_fine fd]; exact fd) (by rw [lower_fine fd]; decide) (by rw [lower_fine fy]; lia) (by rw [lower_fine fd]; decide) (PE.name rfl) (PE.str ok)) PE.bool (O.isnt_bool ok)) (by rw [N.m5 hy6]; rfl)) (fun _ => PT.cast (PT.cmp (PE.dmatch g (n := n + 8) rfl (by rw [lower_fine fy.dot]; exact fy.dot) (by rw [lower_fine f0.dot]; exact f0.dot) (by rw [lower_fine f0.dot, dot_len]; lia) (by rw [lower_fine fy.dot, dot_len]; lia) (by rw [lower_fine f0.dot, dot_len]; lia) (PE.bin (PE.str ok) (PE.name rfl) (O.adds ok (by have : ("." : Str).length = 1 := rfl; lia))) (PE.bin (PE.str ok) (PE.sub (PE.name rfl) (PE.int ok) (O.sub_lstM ok (k := ((0 : Nat) : Int)) (c := .str (nm 0)) hp (by lia) (nmV_at (by lia)) (by lia))) (O.adds ok (by have : ("." : Str).length = 1 := rfl; lia)))) PE.bool (O.isnt_bool ok)) (by rw [N.m6 hy0 hy6]; rfl))).then ?_
      rw [if_neg (by decide)]
      refine EX.nil ?_
      refine EX.nil (hTn .next _ ⟨⟨lawM3 sv a Uv Tv way head b gr p q sp pr cl zs zb ++ ([("order", .lst (intV σ))] : List (Str × AV)), M⟩, Le.pre (μ := lawM3 sv a Uv Tv way head b gr p q sp pr cl zs zb ++ ([("order", .lst (intV σ))] : List (Str × AV))) (ν := [("j", .int (j : Nat)), ("later", .str (nm y))]), rfl⟩)
  · rintro S₁ rfl
    refine EX.cons ?_
    refine E1.ret ?_
    exact (PE.bool).then (k _)
end
end Mine
namespace Mine
section
variable {w : World} {mg mb : Str → Option Value} (g : GA w mg mb)
include g
theorem GA.law0 {n : Nat} {L : Addr} {xs : List Int} {P : AF → St → Prop} (k : ∀ a c0 c1 c2, EX (CA w mg mb) n (lawE w L) ⟨[("script", .lst (xs.map .int)), ("cells", .raw (.ref a))], [(a, .list [.int c0, .int c1, .int c2])]⟩ ((lawB w).drop 2) P) :
    EX (CA w mg mb) n (lawE w L) ⟨[("script", .lst (xs.map .int))], []⟩ (lawB w) P := by
  have ok := okA g
  refine EX.cons ?_
  refine E1.cell ok ?_
  refine EV.listM ok (PL.then (PL.cons (PE.int ok) (PL.cons (PE.int ok) (PL.cons (PE.int ok) PL.nil))) ⟨by decide, fun a => ?_⟩)
  refine EX.cons ?_
  refine E1_forEnum ok (l := xs.map .int) (fun i S => ∃ c0 c1 c2 : Int, S = ⟨[("script", .lst (xs.map .int)), ("cells", .raw (.ref a))], [(a, .list [.int c0, .int c1, .int c2])]⟩) (.inl rfl) (.inl rfl) (PE.built rfl (g.non _ rfl) ((g.mb _ (by decide)).trans rfl)) ?_ ?_ ?_
  · exact (PE.name rfl).then ⟨rfl, 43, 2188300290, 11, rfl⟩
  · rintro i S₁ b hb ⟨c0, c1, c2, rfl⟩
    rw [List.getElem?_map] at hb
    obtain ⟨x, hx, rfl⟩ := Option.map_eq_some_iff.mp hb
    refine EX.cons ?_
    have e3 : ((i : Int)).fmod 3 = ((i % 3 : Nat) : Int) := fmod_nat i 3
    have i3 : i % 3 = 0 ∨ i % 3 = 1 ∨ i % 3 = 2 := by lia
    rcases i3 with e | e | e
    · refine E1_augL ok (i := 0) (a := a) (l := [.int c0, .int c1, .int c2]) (k := ((0 : Nat) : Int)) (old := .int c0) (x := .int x) (new := .int (c0 + x)) (PE.name rfl) (PE.cast (PE.bin (PE.name rfl) (PE.int ok) (O.fmod ok (by decide))) (congrArg AV.int (e3.trans (by rw [e])))) rfl (by decide) rfl (by decide) (PE.name rfl) (O.iadd ok) ?_
      refine EX.nil ⟨_, Le.pre (ν := [("k", .int i), ("x", .int x)]), c0 + x, c1, c2, rfl⟩
    · refine E1_augL ok (i := 0) (a := a) (l := [.int c0, .int c1, .int c2]) (k := ((1 : Nat) : Int)) (old := .int c1) (x := .int x) (new := .int (c1 + x)) (PE.name rfl) (PE.cast (PE.bin (PE.name rfl) (PE.int ok) (O.fmod ok (by decide))) (congrArg AV.int (e3.trans (by rw [e])))) rfl (by decide) rfl (by decide) (PE.name rfl) (O.iadd ok) ?_
      refine EX.nil ⟨_, Le.pre (ν := [("k", .int i), ("x", .int x)]), c0, c1 + x, c2, rfl⟩
    · refine E1_augL ok (i := 0) (a := a) (l := [.int c0, .int c1, .int c2]) (k := ((2 : Nat) : Int)) (old := .int c2) (x := .int x) (new := .int (c2 + x)) (PE.name rfl) (PE.cast (PE.bin (PE.name rfl) (PE.int ok) (O.fmod ok (by decide))) (congrArg AV.int (e3.trans (by rw [e])))) rfl (by decide) rfl (by decide) (PE.name rfl) (O.iadd ok) ?_
      refine EX.nil ⟨_, Le.pre (ν := [("k", .int i), ("x", .int x)]), c0, c1, c2 + x, rfl⟩
  · rintro S₁ ⟨c0, c1, c2, rfl⟩
    exact k a c0 c1 c2
end
end Mine
namespace Mine
theorem fmod_lit (x : Int) (k : Nat) (K : Int) (e : (k : Int) = K) (h : 0 < k) : ∃ m : Nat, m < k ∧ x.fmod K = (m : Int) := by
  subst e; exact fmod_small x k h
section
variable {w : World} {mg mb : Str → Option Value} (g : GA w mg mb)
include g
theorem GA.law_ex {n : Nat} {L : Addr} {xs : List Int} {P : AF → St → Prop} (k : ∀ S, P (.ret (.bool true)) S) : EX (CA w mg mb) (n + 10) (lawE w L) ⟨[("script", .lst (xs.map .int))], []⟩ (lawB w) P := by
  have p0 := @GA.law0 w mg mb g
  have p2 := @GA.law2 w mg mb g
  have p3 := @GA.law3 w mg mb g
  have p4 := @GA.law4 w mg mb g
  have p6 := @GA.law6 w mg mb g
  have p7 := @GA.law7 w mg mb g
  have p8 := @GA.law8 w mg mb g
  have p10 := @GA.law10 w mg mb g
  have p11 := @GA.law11 w mg mb g
  have p12 := @GA.law12 w mg mb g
  have p13 := @GA.law13 w mg mb g
  have p14 := @GA.law14 w mg mb g
  have p15 := @GA.law15 w mg mb g
  generalize lawB w = bd at p0 p2 p3 p4 p6 p7 p8 p10 p11 p12 p13 p14 p15
  refine p0 (n := n + 10) ?_
  intro a c0 c1 c2
  obtain ⟨ua, ha, eua⟩ := fmod_lit c0 2 2 rfl (by lia)
  obtain ⟨ub, hb, eub⟩ := fmod_lit (c0.fdiv 2) 3 3 rfl (by lia)
  obtain ⟨uc, hc, euc⟩ := fmod_lit (c0.fdiv 6) 4 4 rfl (by lia)
  obtain ⟨ud, hd, eud⟩ := fmod_lit (c0.fdiv 24) 5 5 rfl (by lia)
  obtain ⟨way, hway, e1⟩ := fmod_lit c2 5 5 rfl (by lia)
  obtain ⟨head, hhead, e2⟩ := fmod_lit (c2.fdiv 5) 4 4 rfl (by lia)
  obtain ⟨gr, hgr, e3⟩ := fmod_lit (c0.fdiv 120) 2 2 rfl (by lia)
  have N := law_names ha hb hc hd c1 (gr == 1)
  have cl := clo_ok ha hb hc hd
  refine p2 eua eub euc eud ?_
  refine p3 ?_
  refine p4 (n := n + 8) hway hgr e1 e2 e3 ?_
  intro x o b
  refine p6 (bg := gr == 1) rfl ha hb hc hd ?_
  intro p q
  generalize hU : ul ua ub uc ud = U at N cl ⊢
  have hp : (p, AO.list (nmV (nmN U (tailF c1) (gr == 1)) 6)) ∈ [(a, AO.list [.int c0, .int c1, .int c2]), (x, o), (b, .sdict (refsL way))] ++ [(p, .list (nmV (nmN U (tailF c1) (gr == 1)) 6)), (q, .list (abV U 6))] := by simp
  have hq : (q, AO.list (abV U 6)) ∈ [(a, AO.list [.int c0, .int c1, .int c2]), (x, o), (b, .sdict (refsL way))] ++ [(p, .list (nmV (nmN U (tailF c1) (gr == 1)) 6)), (q, .list (abV U 6))] := by simp
  have hbb : (b, AO.sdict (refsL way)) ∈ [(a, AO.list [.int c0, .int c1, .int c2]), (x, o), (b, .sdict (refsL way))] ++ [(p, .list (nmV (nmN U (tailF c1) (gr == 1)) 6)), (q, .list (abV U 6))] := by simp
  generalize [(a, AO.list [.int c0, .int c1, .int c2]), (x, o), (b, .sdict (refsL way))] ++ [(p, .list (nmV (nmN U (tailF c1) (gr == 1)) 6)), (q, .list (abV U 6))] = M at hp hq hbb ⊢
  refine p7 (n := n + 8) (bg := gr == 1) N hp ?_
  refine p8 (n := n + 8) ?_
  refine p10 (n := n + 8) hway hbb ?_
  subst hU
  refine p11 (n := n + 8) N.up ?_
  refine p12 (n := n + 8) ?_
  intro zs zb
  refine p13 (n := n + 8) hhead cl N.up ?_
  intro B hB
  refine p14 (n := n) (nm := nmN (ul ua ub uc ud) (tailF c1) (gr == 1)) (U := ul ua ub uc ud) (B := B) hway hhead (N.job hway) cl N.up (List.mem_append_left _ hp) (List.mem_append_left _ hbb) (by simp) hB ?_
  intro σ M' hσ hf
  exact p15 N hσ hf (List.mem_append_left _ (List.mem_append_left _ hp)) (List.mem_append_left _ (List.mem_append_left _ hq)) k
end
end Mine
namespace Mine
theorem fc_top {C : Cx} (ok : C.Ok) {n : Nat} {f : Addr} {fd : FuncData} {body : List Stmt} {args : List AV} {ab : List (Str × AV)} {P : AF → St → Prop} (F : FnOk C f fd body)
    (hcell : ∀ x ∈ fd.scope.names, x.2 = .cell → fd.scope.names.lookup x.1 = some .cell) (hnd : ((fd.scope.names.filter (·.2 == .cell)).map (·.1)).Nodup) (hclo : fd.closure = [])
    (hbind : ∀ vs, vs.length = args.length → ∃ bs, bindArgs fd ⟨vs, []⟩ = pure bs ∧ ∀ h X, VRs h X vs args → PRs h X bs ab)
    (hloc : ∀ x ∈ ab.map (·.1), fd.scope.names.lookup x = some .local)
    (h : ∀ L, EX C n (callEnvC fd L f) ⟨ab.reverse, []⟩ body P) {A : Around} (ha : AOk (n + 1) A) {s : Shared} (B : Bs C s.heap) {vs : List Value} (rv : VRs s.heap C.T vs args) {Q : Result → Shared → Prop}
    (q : ∀ v s' f S' X, P f S' → FR s'.heap X v f → SStp C.T [] s s' → Q (.ok (.ret (match v with | .ret v => v | _ => .none))) s') : codeAny (model C.prog C.w) A (.call (.ref f) ⟨vs, []⟩) Q s := by
  obtain ⟨o, ho, hd⟩ := F.obj
  obtain ⟨c, oc, cvs, t, e1, e2, e3, e4⟩ := F.code
  obtain ⟨bs, hb, rb'⟩ := hbind vs rv.length
  have rb := rb' _ _ rv
  have hlocB : ∀ x ∈ bs, fd.scope.names.lookup x.1 = some .local := fun x hx => hloc _ (by rw [← rb.keys]; exact List.mem_map.mpr ⟨x, hx, rfl⟩)
  refine (codeAny_call_cells (binds := bs) (by have := ha.depth; show A.depth < 1000; lia) (B.K _ _ ho) hd B.lim ⟨c, oc, cvs, t, e1, B.K _ _ e2, e3, e4⟩ F.body hb hclo
    (fun x hx => .inl (hlocB x hx)) (fun s₁ X => ?_) F.co F.gen F.kind)
  obtain ⟨h₁, tk, es⟩ := X.toInCall.same
  have x : SStp C.T [] s s₁ := by subst es; exact ⟨.of_keeps X.toInCall.keep, rfl, rfl, id⟩
  have cellMem : ∀ p ∈ (callEnvC fd s.heap.objs.size f).cells, (p.1, NameKind.cell) ∈ fd.scope.names := fun p hp => by
    rcases mem_cellsFrom (show p ∈ cellsFrom (s.heap.objs.size + 1) fd.scope.names [] from hp) with z | z
    · cases z
    · exact z
  have cellKind : ∀ p ∈ (callEnvC fd s.heap.objs.size f).cells, (callEnvC fd s.heap.objs.size f).kindOf p.1 = some .cell := fun p hp => hcell _ (cellMem p hp) rfl
  have efa : fa (callEnvC fd s.heap.objs.size f) = s.heap.objs.size :: (callEnvC fd s.heap.objs.size f).cells.map (·.2) := by
    have : (callEnvC fd s.heap.objs.size f).cells.filter (fun p => (callEnvC fd s.heap.objs.size f).kindOf p.1 == some .cell && (callEnvC fd s.heap.objs.size f).func.isSome) = (callEnvC fd s.heap.objs.size f).cells := by
      rw [List.filter_eq_self]
      intro p hp
      rw [cellKind p hp]; rfl
    unfold fa; rw [this]; rfl
  have memC : ∀ b, b ∈ (callEnvC fd s.heap.objs.size f).cells.map (·.2) → ∃ nm, (nm, b) ∈ (callEnvC fd s.heap.objs.size f).cells := fun b hb => by
    obtain ⟨p, hp, rfl⟩ := List.mem_map.mp hb
    exact ⟨p.1, hp⟩
  have dead : ∀ b, s.heap.objs.size ≤ b → s.heap.get? b = none := fun b hb => by
    cases e : s.heap.get? b with
    | none => rfl
    | some o => exact absurd (Heap.lt_size e) (Nat.not_lt.mpr hb)
  have hf : ∀ b ∈ fa (callEnvC fd s.heap.objs.size f), s.heap.get? b = none := fun b hb => by
    rw [efa] at hb
    rcases List.mem_cons.mp hb with rfl | hb
    · exact new_none _
    · obtain ⟨nm, hm⟩ := memC b hb
      exact dead b (Nat.le_of_lt (X.above nm b hm))
  have lf : ∀ b ∈ fa (callEnvC fd s.heap.objs.size f), Live s₁.heap b := fun b hb => by
    rw [efa] at hb
    rcases List.mem_cons.mp hb with rfl | hb
    · obtain ⟨o, _, _, q, _⟩ := X.toInCall.ns; exact ⟨o, q⟩
    · obtain ⟨nm, hm⟩ := memC b hb
      have nd : ((callEnvC fd s.heap.objs.size f).cells.map (·.1)).Nodup := by
        show ((cellsFrom (s.heap.objs.size + 1) fd.scope.names []).map (·.1)).Nodup
        rw [keys_cellsFrom, List.map_nil, List.append_nil]; exact List.pairwise_reverse.mpr (hnd.imp fun h => h.symm)
      obtain ⟨o, e, _⟩ := X.cell nm b (lookup_of_mem nd hm)
      exact ⟨o, e⟩
  have hX : ∀ a o, s.heap.get? a = some o → a ∉ C.T → a ∉ Xo C [] (callEnvC fd s.heap.objs.size f) ⟨ab.reverse, []⟩ := fun a o e n q => by
    rw [mem_Xo] at q
    rcases q with q | q | q
    · exact n q
    · rw [show feet ([] : List (Addr × AO)) = [] from rfl, List.append_nil] at q
      rw [hf a q] at e; cases e
    · cases q
  have R₁ : Rel C [] s [] (callEnvC fd s.heap.objs.size f) ⟨ab.reverse, []⟩ s₁ := by
    refine ⟨B.stp ok x.heap fun _ h => (nomatch h), ⟨F.kind, F.glob, F.buil, fun y ky => F.more (y, .free) (mem_of_lookup ky) rfl⟩, ⟨⟨_, X.toInCall.ns, fun y av e k => ?_⟩, fun y av e k => ?_, fun y c k e => ⟨_, X.cell y c e⟩, fun y av e => ?_⟩, fun y c k e => ?_, fun p hp => (nomatch hp), ?_, fun a ha => (nomatch ha), fun a ha => ?_, x, fun a ha => ?_⟩
    · obtain ⟨v, e1, r⟩ := rb.rev.look e
      refine ⟨v, ?_, (r.sub hX).stp x.heap (fun _ h => nomatch h) (fun a h => List.mem_append_left _ h)⟩
      rw [bindL_local hlocB, e1]; rfl
    · exfalso
      have hm : y ∈ ab.map (·.1) := List.mem_map.mpr ⟨(y, av), List.mem_reverse.mp (mem_of_lookup e), rfl⟩
      have kl : (callEnvC fd s.heap.objs.size f).kindOf y = some .local := hloc y hm
      rw [kl] at k; rcases k with k | k <;> cases k
    · exact .inl (hloc y (List.mem_map.mpr ⟨(y, av), List.mem_reverse.mp (mem_of_lookup e), rfl⟩))
    · exfalso
      have hk := cellKind _ (mem_of_lookup e)
      rcases k with k | k
      · rw [hk] at k; cases k
      · have : (callEnvC fd s.heap.objs.size f).func.isSome = true := rfl
        rw [this] at k; cases k.2
    · rw [show feet ([] : List (Addr × AO)) = [] from rfl, List.append_nil, efa, List.nodup_cons]
      refine ⟨fun h => ?_, ?_⟩
      · obtain ⟨nm, hm⟩ := memC _ h
        exact Nat.lt_irrefl _ (X.above nm _ hm)
      · exact List.pairwise_map.mpr X.apart
    · rw [show feet ([] : List (Addr × AO)) ++ [] = [] from rfl, List.append_nil] at ha
      exact ⟨fun h => (B.live h).ne (hf a ha) rfl, fun h => (B.liveT h).ne (hf a ha) rfl, lf a ha⟩
    · rw [show feet ([] : List (Addr × AO)) = [] from rfl, List.append_nil] at ha
      exact .inr (hf a ha)
  refine wpAny_mono (h s.heap.objs.size (A.deeper (callEnvC fd s.heap.objs.size f)) _ _ _ _ (fun fl s' => Q (.ok (.ret (match fl with | .ret v => v | _ => .none))) s') (ha.deeper _) R₁ fun r s' b S' p R' K' rr => ?_) (fun fl s' z => ?_) fun _ _ e => e.elim
  · exact q r s' b S' _ p rr R'.st
  · cases fl <;> exact z
end Mine
end
section
open PySem PySem.W PySem.Calls PyProof.Rows
open PySem.W.X (tableObj)
namespace Mine
theorem lookup_filter_key {l : Frag} {q : Addr → Bool} {a : Addr} (h : q a = true) : (l.filter fun p => q p.1).lookup a = l.lookup a := by
  induction l with
  | nil => rfl
  | cons p l ih =>
    obtain ⟨b, o⟩ := p
    rw [List.filter_cons, List.lookup_cons]
    by_cases e : a = b
    · subst e
      rw [if_pos h, List.lookup_cons]
      simp
    · have hab : (a == b) = false := beq_eq_false_iff_ne.mpr e
      rw [hab]
      by_cases hb : q b = true
      · rw [if_pos hb, List.lookup_cons, hab]; exact ih
      · rw [if_neg hb]; exact ih
theorem ns_some_of {K : Frag} {h : Heap} {N : Addr} {mg : Str → Option Value} {n : Str} {v : Value} (X : K.In h) (G : h.Ns N mg) (e : nsIn K N n = some (some v)) : mg n = some v := by
  obtain ⟨o, es, ep, ho, hd, _, hf⟩ := G
  unfold nsIn at e
  split at e
  · rename_i c d es' n' sl q
    have := X _ _ q
    rw [ho] at this
    cases this
    cases hd
    split at e
    · rename_i en he
      cases e
      rw [← hf]
      unfold nsFind findBy
      rw [← Array.find?_toList, he]
      rfl
    · split at e <;> cases e
  · cases e
theorem args_ints {R : WRecords} {args : List WData} (h : WShape.hasAll R args [.list .int] = true) : ∃ ns : List Int, args = [.list (ns.map WData.int)] :=
  let ⟨_, _, e, h1, h2⟩ := hasAllW_cons h
  let ⟨_, e1, h3⟩ := hasW_list h1
  let ⟨ns, e2⟩ := items_int h3
  ⟨ns, by rw [e, hasAllW_nil h2, e1, e2]⟩
theorem well_int {P : Params} {h : Heap} {v : Value} {n : Int} (w : Well P h v (.int n)) : ∃ t, .int n t = v := by cases w; exact ⟨_, rfl⟩
theorem well_list {P : Params} {h : Heap} {v : Value} {xs : List WData} (w : Well P h v (.list xs)) : ∃ l vs, .ref l = v ∧ h.get? l = some { cls := .type "list", data := .seq vs.toArray } ∧ WellAll P h vs xs := by
  cases w with | list h1 h2 => exact ⟨_, _, rfl, h1, h2⟩
theorem well_nil {P : Params} {h : Heap} {vs : List Value} (w : WellAll P h vs []) : [] = vs := by cases w; rfl
theorem vrs_of_well {P : Params} {h : Heap} {X : List Addr} {ns : List Int} : ∀ {vs : List Value}, WellAll P h vs (ns.map WData.int) → VRs h X vs (ns.map AV.int) := by
  induction ns with
  | nil => exact fun w => well_nil w ▸ .nil
  | cons n ns ih =>
    intro vs w
    obtain ⟨v, vs', rfl, a, b⟩ := wellAll_cons_inv w
    obtain ⟨t, rfl⟩ := well_int a
    exact .cons (.int ..) (ih b)
theorem well_one {P : Params} {h : Heap} {vals : List Value} {xs : List WData} (w : WellAll P h vals [.list xs]) : ∃ l vs, vals = [.ref l] ∧ h.get? l = some { cls := .type "list", data := .seq vs.toArray } ∧ WellAll P h vs xs := by
  obtain ⟨v, vs', rfl, a, b⟩ := wellAll_cons_inv w
  obtain ⟨l, vs, rfl, hl, hv⟩ := well_list a
  exact ⟨l, vs, by rw [well_nil b], hl, hv⟩
theorem KA_lookup {P : Params} {a : Addr} (h : (!(a == 116 || a == 123)) = true) : (KA P).lookup a = (hx1.heap_1 P).lookup a := lookup_filter_key (q := fun a => !(a == 116 || a == 123)) h
theorem KA_in {P : Params} {h : Heap} (X : (hx1.heap_1 P).In h) : (KA P).In h := fun a o e => by
  have hq := lookup_filter (l := hx1.heap_1 P) (q := fun p => !(p.1 == 116 || p.1 == 123)) e
  rw [KA_lookup hq] at e
  exact X a o e
theorem tab_at (P : Params) : ∀ t ∈ tabsA, ∃ c vs ps cs, (hx1.heap_1 P).lookup t = some (tableObj vs) ∧ TriplesOk vs.toList ∧ (hx1.heap_1 P).lookup c = some ⟨.type "code", ps, .fields cs, #[]⟩ ∧ cs[11]? = some (.ref t) := fun t ht => by
  have : t = 116 ∨ t = 123 := by simpa [tabsA] using ht
  rcases this with rfl | rfl
  · exact ⟨120, _, _, _, rfl, trivial, rfl, rfl⟩
  · exact ⟨127, _, _, _, rfl, trivial, rfl, rfl⟩
theorem law_holds : PySem.Challenge.rw_xr0025_01.Holds := by
  refine hx1 ?_
  intro w s₀ s₁ mg mb G Y a o pm cd doc dV kV hget hdata hcode hdflt hmg hgens args vals as hpre hlay hreads hwell hlow
  have X : (hx1.heap_1 w.params).In s₁.heap := kIn_of Y
  have XK := KA_in X
  have g : GA w mg mb := ⟨fun x v e => ns_some_of XK G.T.g e, fun x e => ns_none_of XK G.T.g e, G.T.builtins⟩
  have ok := okA g
  have B : Bs (CA w mg mb) s₁.heap := ⟨XK, G.T.g, G.T.b, G.T.nolimit, fun t ht => by
    obtain ⟨c, vs, ps, cs, e, tr, _, _⟩ := tab_at w.params t ht
    exact ⟨vs, X _ _ e, tr⟩⟩
  have ha : a = 328 := by
    have h1 := g.glo "law" (.ref 328) rfl
    have h2 : mg "law" = some (.ref a) := hmg
    rw [h1] at h2
    injection h2 with h3
    injection h3 with h4
    exact h4.symm
  subst ha
  have hp0 : WShape.hasAll PySem.Challenge.rw_xr0025_01.row.toRowW.records args [.list .int] = true := (Bool.and_eq_true_iff.mp hpre).1
  obtain ⟨ns, rfl⟩ := args_ints hp0
  obtain ⟨l, vs, rfl, hl, hvs⟩ := well_one hwell
  have rv : VRs s₁.heap (CA w mg mb).T [Value.ref l] [.lst (ns.map AV.int)] := .one (.lst hl (fun q => by
    obtain ⟨c, tv, ps, cs, e, tr, _, _⟩ := tab_at w.params l q
    rw [X _ _ e] at hl; cases hl) (vrs_of_well hvs))
  refine wpAny_call (fc_top ok (n := 10) (f := 328) (args := [.lst (ns.map .int)]) (ab := [("script", .lst (ns.map .int))]) (P := fun f S => f = .ret (.bool true)) ⟨⟨_, rfl, rfl⟩, ⟨_, _, _, _, rfl, rfl, rfl, rfl⟩, rfl, rfl, rfl, (fun x c h => by cases h), rfl, rfl, rfl, by decide⟩ (by decide) (by decide) rfl ?hb (by intro x hx; simp at hx; subst hx; rfl) ?_ ⟨rfl, by decide, by decide⟩ B rv ?_)
  case hb =>
    intro vs hv
    obtain ⟨v, rfl⟩ := List.length_eq_one_iff.mp hv
    exact ⟨_, rfl, fun h X r => VRs.iv_cons r fun v0 vs0 r0 rs e_0 => by cases e_0; exact .cons r0 .nil⟩
  · intro L
    change EX (CA w mg mb) 10 (lawE w L) _ (lawB w) _
    exact GA.law_ex g (n := 0) fun S => rfl
  · intro v s' f S' Xx p rr st
    subst p
    cases rr with
    | ret r =>
      refine VR.iv_bool r fun e_0 => ?_; subst e_0
      refine ⟨.inl ⟨.bool true, .bool true, [], rfl, fun _ => rfl, ReadsW.bool true, ?_, fun _ => ⟨List.nodup_nil, fun _ hm => (nomatch hm)⟩⟩, ⟨fun b o e => ?_, fun b o e => ?_⟩, st.os, st.bare (.of_eq hgens)⟩
      · first | rfl | wrow_post
      · by_cases hb : b ∈ (CA w mg mb).T
        · obtain ⟨c, tv, ps, cs, e1, tr, e2, e3⟩ := tab_at w.params b hb
          have e4 := X _ _ e1
          rw [e4] at e; cases e
          obtain ⟨vs', e5, _, more, rfl⟩ := st.heap.tabs b hb tv e4 tr
          exact .inr (.inl ⟨⟨c, _, cs, X _ _ e2, rfl, rfl, e3⟩, rfl, tv, more, rfl, e5⟩)
        · exact .inl (st.heap.keep b o e (fun h => nomatch h) hb)
      · by_cases hb : b ∈ (CA w mg mb).T
        · obtain ⟨c, tv, ps, cs, e1, tr, e2, e3⟩ := tab_at w.params b hb
          obtain ⟨vs', e5, _⟩ := st.heap.tabs b hb tv (X _ _ e1) tr
          exact ⟨_, e5⟩
        · exact ⟨o, st.heap.keep b o e (fun h => nomatch h) hb⟩
end Mine
end
theorem PySem.Challenge.cw_xr0025_01_holds : PySem.Challenge.rw_xr0025_01.Holds :=
  Mine.law_holds
