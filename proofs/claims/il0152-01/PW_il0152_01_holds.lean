import PyProof.Rows.All
import Wide.All
import OpenK.AllK
import Wide.FinOn
import Lean
import PySem.Challenge.RW_il0152_01
set_option Elab.async false
set_option maxRecDepth 100000
set_option linter.unusedVariables false
set_option maxHeartbeats 4000000
section
open PySem PySem.W PyProof.Rows
namespace Mine
section
local macro_rules | `(tactic| o_head $_H) => `(tactic| assumption)
theorem kmake (h : PySem.Challenge.rw_il0152_01.row.Holds) : PySem.Challenge.rw_il0152_01.row.Holds := by x_head
end
end Mine
namespace Mine
noncomputable abbrev K := Mine.kmake.heap_1
abbrev asK : List Addr := [0, 1, 2, 3, 4, 5, 6, 7, 8, 9, 10, 11, 12, 13, 14, 15, 16, 17, 18, 19, 20, 21, 29, 30, 31, 32, 33, 34, 35, 36, 37, 38, 39, 40, 41, 42, 43, 44, 45, 46, 47, 48, 49, 50, 51, 52, 53, 54, 55, 56, 57, 58, 59, 60, 61, 62, 65, 66, 67, 68, 69, 70, 71, 72, 75, 80, 81, 82, 83, 84, 85, 86, 87, 88, 89, 90, 91, 92, 93, 94, 95, 96, 97, 98, 99, 100, 101, 102, 103, 104, 105, 106, 107, 108, 109, 110, 111, 112, 113, 114, 115, 116, 117, 118, 119, 120, 121, 122, 123, 124, 125, 126, 127, 128, 129, 130, 131, 133, 134, 136, 137, 139, 141, 142, 143, 146, 147, 148, 149, 150, 151, 152, 160, 161, 162, 163, 164, 165, 166, 167, 168, 169, 170, 171, 172, 173, 174, 175, 176, 177, 178, 179, 180, 181, 182, 183, 184, 185, 186, 187, 188, 189, 190, 191, 192, 193, 196, 199, 204, 205, 206, 207, 208, 209, 210, 211, 212, 213, 214, 215, 216, 217, 218, 219, 220, 221, 222, 223, 224, 225, 226, 227, 228, 229, 230, 231, 232, 233, 234, 235, 236, 237, 238, 239, 240, 241, 242, 243, 244, 245, 246, 247, 248, 249, 250, 251, 252, 253, 254, 255, 257, 258, 260, 261, 263, 265, 266, 267, 270, 271, 272, 273, 274, 275, 276, 284, 285, 286, 287, 288, 289, 290, 291, 292, 293, 294, 295, 296, 297, 298, 299, 300, 301, 302, 303, 304, 305, 306, 307, 308, 309, 310, 311, 312, 313, 314, 315, 316, 317, 318, 319, 320, 321, 322, 323, 324, 325, 326, 327, 328, 329, 330, 331, 332, 333, 334, 335, 336, 337, 338, 339, 340, 341, 342, 343, 344, 345, 346, 347, 348, 349, 350, 351, 352, 353, 354, 355, 356, 357, 358, 359, 360, 361, 362, 363, 364, 365, 366, 367, 368, 369, 370, 371, 372, 373, 374, 375, 378, 379, 380, 381, 382, 383, 384, 385, 386, 387, 388, 389, 390, 391, 392, 393, 394, 395, 396, 397, 398, 399, 400, 401, 402, 403]
noncomputable def anyL {α : Type} (as : Array α) (p : α → Bool) (start stop : Nat) : Bool := PySem.W.R.anyR ((as.toList.take stop).drop start) p
theorem anyL_eq : @Array.any.{0} = @anyL := by
  funext α as p start stop
  unfold anyL
  rw [← PySem.W.R.anyR_eq]
  rw [Bool.eq_iff_iff, Array.any_iff_exists, List.any_eq_true]
  constructor
  · rintro ⟨i, hi, h1, h2, hp⟩
    refine ⟨as[i], ?_, hp⟩
    rw [List.mem_iff_getElem?]
    refine ⟨i - start, ?_⟩
    rw [List.getElem?_drop, List.getElem?_take]
    have : start + (i - start) = i := by lia  
    rw [this, if_pos h2, Array.getElem?_toList, Array.getElem?_eq_getElem hi]
  · rintro ⟨x, hx, hp⟩
    rw [List.mem_iff_getElem?] at hx
    obtain ⟨k, hk⟩ := hx
    rw [List.getElem?_drop, List.getElem?_take] at hk
    split at hk
    · rename_i hlt
      rw [Array.getElem?_toList] at hk
      obtain ⟨hs, rfl⟩ := Array.getElem?_eq_some_iff.mp hk
      exact ⟨start + k, hs, by lia  , hlt, hp⟩
    · cases hk
noncomputable def tbF (g : Builtin) : String → Option Builtin := fun id => @Bool.rec (fun _ => Option Builtin) (PySem.W.Fast.tw14364793385576792824 id) (some g) (Nat.beq (PySem.code id) 29827186395103491166823348853)
theorem tnew_code : PySem.code "type.__new__" = 29827186395103491166823348853 := by kernel_rfl!
theorem tree_new : treeTable "type.__new__" = some Builtin.«type.__new__» := by kernel_rfl!
theorem tbF_eq : treeTable = tbF PySem.W.Fast.tw4202317264376624991 := by
  funext id
  unfold tbF
  cases h : Nat.beq (PySem.code id) 29827186395103491166823348853 with
  | false => exact congrFun PySem.W.Fast.te14364793385576792824 id
  | true =>
    have e : id = "type.__new__" := PySem.code_inj _ _ ((Nat.eq_of_beq_eq_true h).trans tnew_code.symm)
    subst e
    refine tree_new.trans ?_
    show some _ = some _
    rw [PySem.W.Fast.te4202317264376624991]
abbrev P := PySem.Challenge.pw_il0152_01
noncomputable def bootT (p : Params) : BT := ((boot_heap p).objs.toList.foldl (fun (a : BT × Nat) o => (a.1.ins a.2 o, a.2 + 1)) (BT.nil, 0)).1
noncomputable def S0 (w : World) (os : OsState) : SharedT := { tree := bootT w.params, n := 11, life := { }, gens := #[], drawn := boot_drawn, toks := boot_toks, os := os }

abbrev qV : Program := { P with main := { P.main with body := [0, 2, 3, 4, 5, 6, 7, 9, 10, 11, 12, 13, 15, 16, 17, 18].filterMap fun i => P.main.body[i]? } }
abbrev looseV : List Str := ["_tuplegetter", "tuplegetter_util", "Mismatch", "_Mismatch", "tuplegetter_difflib", "Match", "SequenceMatcher"]
abbrev modsV : List Str := importedModules P.main.body
abbrev rowR : RowW := PySem.Challenge.rw_il0152_01.row.toRowW
abbrev XtV : Shared → Bool := fun s => xlAt qV [] s && recOk (RowW.records rowR) s
theorem asK_eq : ∀ P, asK = (K P).map (·.1) := fun _ => by kernel_rfl
noncomputable abbrev HK : Hook := kHook K asK asK_eq

theorem seg_is_top {tb : String → Option Builtin} {p : Program} {w : World} {n₀ : Nat} {ann : Option Value} : ∀ {n : Nat} {s s' : Shared} {t : Thread} {f : Flow} {c : Code} {q : Pos},
    segRun tb p w n₀ ann 0 n s t = some (f, s', c, q) → topRun tb p w n₀ ann n s t = some s'
  | 0, _, _, _, _, _, _, h => by cases h
  | n + 1, s, s', t, f, c, q, h => by
    unfold segRun at h
    unfold topRun
    have key : through t = (endAt 0 t).isSome := by
      obtain ⟨cur, code, pos, stack⟩ := t
      cases stack with
      | cons a r => simp [through, endAt]
      | nil =>
        cases cur with
        | pure x => cases x <;> simp [through, endAt]
        | _ => simp [through, endAt]
    rw [key]
    cases he : endAt 0 t with
    | some x => rw [he] at h; cases h; rfl
    | none =>
      rw [he] at h
      dsimp only [Option.isSome]
      cases hk : stepOk n₀ ann t with
      | false => rw [hk] at h; cases h
      | true =>
        rw [hk] at h
        cases hs : step (denote tb) p w s t with
        | halt o s₂ => rw [hs] at h; cases h
        | go s₂ t₂ => rw [hs] at h; exact seg_is_top h

theorem LeftO_of_one {p q : Program} {loose : List Str} {Xt : Shared → Bool} {α : Type} {Yf : Shared → α} {Ya : World → α} {N : Nat} {H₀ : Params → Heap} {gs₀ : Array GenState} {d₀ : Drawn} {k₀ : Nat} {m₀ : Nat} {ann : Option Value} {S : World → OsState → SharedT}
    (open_ : ∀ w : World, (fencedOpening treeTable p w N).map (fun s => (s.heap, s.gens, s.drawn, s.toks)) = some (H₀ w.params, gs₀, d₀, k₀))
    (size : ∀ w : World, ((H₀ w.params).isNs mainGlobals && gs₀.size == 0, (H₀ w.params).objs.size, (H₀ w.params).nsMap mainGlobals "__annotations__") = (true, m₀, ann))
    (abs : ∀ (w : World) (os : OsState), (S w os).abs = ⟨H₀ w.params, gs₀, d₀, k₀, os⟩)
    (T : ∀ (w : World) (os : OsState), (segRunT treeTable p w m₀ ann 0 N (S w os) (topStub p)).map (fun r => (staticsOk (importedModules p.main.body) (H₀ w.params) r.2.1.abs.heap && namesBound p r.2.1.abs.heap && gensDone r.2.1.abs && laidKept (H₀ w.params) r.2.1.abs.heap,
      openSeen q loose (importedModules p.main.body) Xt true r.2.1.abs, Yf r.2.1.abs)) = some (true, openGood q loose, Ya w)) :
    LeftO p q loose Xt Yf Ya N := fun w => by
  obtain ⟨⟨h, gs, d, k, os⟩, e, e'⟩ := Option.map_eq_some_iff.mp (open_ w)
  obtain ⟨rfl, rfl, rfl, rfl⟩ : h = H₀ w.params ∧ gs = gs₀ ∧ d = d₀ ∧ k = k₀ := by simpa using e'
  obtain ⟨z1, z2, z3⟩ : _ ∧ _ ∧ _ := by simpa only [Prod.mk.injEq] using size w
  obtain ⟨⟨f, sT, c, q'⟩, hr, hl⟩ := Option.map_eq_some_iff.mp (T w os)
  have r := seg_is_top (segRun_of hr)
  rw [abs] at r
  obtain ⟨l1, l2, l3⟩ : _ ∧ _ ∧ _ := by simpa only [Prod.mk.injEq] using hl
  have t : topFrom treeTable p w N ⟨H₀ w.params, gs, d, k, os⟩ = some sT.abs := by
    unfold topFrom
    dsimp only
    rw [z1, z2, z3, r]
    show (match staticsOk (importedModules p.main.body) (H₀ w.params) sT.abs.heap && namesBound p sT.abs.heap && gensDone sT.abs && laidKept (H₀ w.params) sT.abs.heap with | true => _ | false => _) = _
    rw [l1]
  unfold openEnds
  rw [e]
  show (topFrom treeTable p w N _).map _ = _
  rw [t]
  exact congrArg some (Prod.ext l2 l3)

theorem boot_abs (w : World) (os : OsState) : (S0 w os).abs = ⟨boot_heap w.params, Array.mk [], boot_drawn, boot_toks, os⟩ := by kernel_rfl!
theorem boot_size (w : World) : ((boot_heap w.params).isNs mainGlobals && (Array.mk ([] : List GenState)).size == 0, (boot_heap w.params).objs.size, (boot_heap w.params).nsMap mainGlobals "__annotations__") = (true, 11, some (Value.ref 6)) := by kernel_rfl!
theorem open_plain : opening P = plainProg P.main.scope.names := by kernel_rfl!
theorem fence_plain : ∀ s, fenceModules? P s = some s := fun s => by kernel_rfl!
end Mine
end
section
open PySem PySem.W PyProof.Rows
namespace Mine
def docB : List Stmt → Option Str
  | .Expr (.Constant (.str s) _ _) _ :: _ => some s
  | _ => none
def bodyS : Option Stmt → List Stmt
  | some (.FunctionDef _ _ b _ _ _ _ _ _ _) => b
  | some (.ClassDef _ _ _ b _ _ _ _ _ _ _) => b
  | _ => []
noncomputable def docP : {s : String // docB (bodyS P.main.body[13]?) = some (Str.ofString s)} := ⟨_, rfl⟩
noncomputable def docC : {cs : List Char // docP.1 = String.ofList cs} := ⟨_, rfl⟩
noncomputable def docQ : Str := ⟨⟨PySem.W.R.mapR Char.toNat docC.1⟩⟩
theorem docL : Str.ofString docP.1 = docQ := by
  rw [docC.2]
  refine (PySem.W.Fast.ofString_ofList _).trans ?_
  rw [PySem.W.R.mapR_eq]; rfl
theorem T_all (w : World) (os : OsState) : (segRunT treeTable P w 11 (some (Value.ref 6)) 0 4000 (S0 w os) (topStub P)).map (fun r => (staticsOk (importedModules P.main.body) (boot_heap w.params) r.2.1.abs.heap && namesBound P r.2.1.abs.heap && gensDone r.2.1.abs && laidKept (boot_heap w.params) r.2.1.abs.heap,
      openSeen qV looseV (importedModules P.main.body) XtV true r.2.1.abs, HK.obs r.2.1.abs)) = some (true, openGood qV looseV, HK.val w) := by
  dsimp only [HK, kHook, K]
  rw [tbF_eq, PySem.W.Fast.te10110043849684766642, PySem.W.Fast.te4187177175401517315, PySem.W.Fast.te5923862056798008813]
  delta PySem.W.Fast.tw4202317264376624991
  rw [anyL_eq]
  delta qV XtV qV P PySem.Challenge.pw_il0152_01 Mine.kmake.heap_1
  have e := docL
  dsimp only [docP] at e
  rw [e]
  kernel_rfl!
end Mine
end
section
open PySem PySem.W PyProof.Rows PySem.Calls
set_option autoImplicit false
namespace Mine

abbrev OP := Obj → Prop
abbrev LT := List (Addr × OP)

structure Led (h : Heap) (l : LT) : Prop where
  at_ : ∀ p ∈ l, ∃ o, h.get? p.1 = some o ∧ p.2 o
  nd : (l.map (·.1)).Nodup

inductive Up (a : Addr) (P' : OP) : LT → LT → Prop
  | head {P r} : Up a P' ((a, P) :: r) ((a, P') :: r)
  | tail {p r r'} : Up a P' r r' → Up a P' (p :: r) (p :: r')

theorem Up.keys {a : Addr} {P' : OP} {l l' : LT} (U : Up a P' l l') : l'.map (·.1) = l.map (·.1) := by
  induction U with
  | head => rfl
  | tail _ ih => simp [ih]
theorem Up.mem {a : Addr} {P' : OP} {l l' : LT} (U : Up a P' l l') : a ∈ l.map (·.1) := by
  induction U with
  | head => simp
  | tail _ ih => simp only [List.map_cons, List.mem_cons]; exact .inr ih
theorem Up.app {a : Addr} {P' : OP} {l l' : LT} (U : Up a P' l l') (r : LT) : Up a P' (l ++ r) (l' ++ r) := by
  induction U with
  | head => exact .head
  | tail _ ih => exact .tail ih
theorem Up.split {a : Addr} {P' : OP} {l l' : LT} (U : Up a P' l l') (nd : (l.map (·.1)).Nodup) : ∀ p ∈ l', p = (a, P') ∨ (p ∈ l ∧ p.1 ≠ a) := by
  induction U with
  | head =>
    intro p hp
    simp only [List.map_cons, List.nodup_cons] at nd
    rcases List.mem_cons.mp hp with rfl | hp
    · exact .inl rfl
    · exact .inr ⟨.tail _ hp, fun e => nd.1 (by rw [← e]; exact List.mem_map_of_mem hp)⟩
  | tail U ih =>
    intro p hp
    simp only [List.map_cons, List.nodup_cons] at nd
    rcases List.mem_cons.mp hp with rfl | hp
    · exact .inr ⟨.head _, fun e => nd.1 (e ▸ U.mem)⟩
    · rcases ih nd.2 p hp with h | h
      · exact .inl h
      · exact .inr ⟨.tail _ h.1, h.2⟩

section
variable {h h' : Heap} {l l' : LT} {a : Addr} {P P' : OP} {o : Obj}
theorem Led.get (D : Led h l) (hm : (a, P) ∈ l) : ∃ o, h.get? a = some o ∧ P o := D.at_ _ hm
theorem Led.keep (D : Led h l) (hk : ∀ b o, h.get? b = some o → h'.get? b = some o) : Led h' l :=
  ⟨fun p hp => let ⟨o, e, q⟩ := D.at_ p hp; ⟨o, hk _ _ e, q⟩, D.nd⟩
theorem Led.up (D : Led h l) (U : Up a P' l l') (hs : ∀ b o, b ≠ a → h.get? b = some o → h'.get? b = some o) (hx : ∃ o, h'.get? a = some o ∧ P' o) : Led h' l' := by
  refine ⟨fun p hp => ?_, by rw [U.keys]; exact D.nd⟩
  rcases U.split D.nd p hp with rfl | ⟨hm, hne⟩
  · exact hx
  · obtain ⟨o, e, q⟩ := D.at_ p hm
    exact ⟨o, hs _ _ hne e, q⟩
theorem Led.new (D : Led h l) : h.objs.size ∉ l.map (·.1) := fun hm => by
  obtain ⟨p, hp, e⟩ := List.mem_map.mp hm
  obtain ⟨o, ho, _⟩ := D.at_ p hp
  have := Heap.lt_size ho
  rw [e] at this
  exact Nat.lt_irrefl _ this
theorem Led.push (D : Led h l) (hf : o.isFreed = false) (hp : P o) : Led (h.push o) ((h.objs.size, P) :: l) :=
  ⟨fun p hm => by
    rcases List.mem_cons.mp hm with rfl | hm
    · exact ⟨o, Heap.get?_push_size _ hf, hp⟩
    · obtain ⟨x, e, q⟩ := D.at_ p hm
      exact ⟨x, Heap.get?_push_of_some _ e, q⟩,
   by rw [List.map_cons, List.nodup_cons]; exact ⟨D.new, D.nd⟩⟩
theorem Led.add (D : Led h l) (hk : ∀ b o, h.get? b = some o → h'.get? b = some o) (hn : h.get? a = none) (hx : ∃ o, h'.get? a = some o ∧ P o) : Led h' ((a, P) :: l) :=
  ⟨fun p hm => by
    rcases List.mem_cons.mp hm with rfl | hm
    · exact hx
    · exact (D.keep hk).at_ p hm,
   by
    rw [List.map_cons, List.nodup_cons]
    refine ⟨fun hm => ?_, D.nd⟩
    obtain ⟨p, hp, e⟩ := List.mem_map.mp hm
    obtain ⟨x, e', _⟩ := D.at_ p hp
    rw [e, hn] at e'
    cases e'⟩
theorem Led.perm (D : Led h l) (p : l.Perm l') : Led h l' :=
  ⟨fun x hx => D.at_ x (p.mem_iff.mpr hx), (p.map _).nodup_iff.mp D.nd⟩
theorem Led.sub (D : Led h l) (s : l'.Sublist l) : Led h l' := ⟨fun x hx => D.at_ x (s.subset hx), D.nd.sublist (s.map _)⟩
end

abbrev AL := List (Str × Option Value)
def FrP (al : AL) : OP := fun o => ∃ es ep, o.data = .dict es ep ∧ StrKeys es ∧ ∀ x v, (x, some v) ∈ al → nsFind es x = some v

inductive Put (x : Str) (v : Value) : AL → AL → Prop
  | head {u r} : Put x v ((x, u) :: r) ((x, some v) :: r)
  | tail {p r r'} : Put x v r r' → Put x v (p :: r) (p :: r')
theorem Put.keys {x : Str} {v : Value} {l l' : AL} (U : Put x v l l') : l'.map (·.1) = l.map (·.1) := by
  induction U with
  | head => rfl
  | tail _ ih => simp [ih]
theorem Put.mem {x : Str} {v : Value} {l l' : AL} (U : Put x v l l') : x ∈ l.map (·.1) := by
  induction U with
  | head => simp
  | tail _ ih => simp only [List.map_cons, List.mem_cons]; exact .inr ih
theorem Put.split {x : Str} {v : Value} {l l' : AL} (U : Put x v l l') (nd : (l.map (·.1)).Nodup) : ∀ p ∈ l', p = (x, some v) ∨ (p ∈ l ∧ p.1 ≠ x) := by
  induction U with
  | head =>
    intro p hp
    simp only [List.map_cons, List.nodup_cons] at nd
    rcases List.mem_cons.mp hp with rfl | hp
    · exact .inl rfl
    · exact .inr ⟨.tail _ hp, fun e => nd.1 (by rw [← e]; exact List.mem_map_of_mem hp)⟩
  | tail U ih =>
    intro p hp
    simp only [List.map_cons, List.nodup_cons] at nd
    rcases List.mem_cons.mp hp with rfl | hp
    · exact .inr ⟨.head _, fun e => nd.1 (e ▸ U.mem)⟩
    · rcases ih nd.2 p hp with h | h
      · exact .inl h
      · exact .inr ⟨.tail _ h.1, h.2⟩

def Res (K : Frag) (x : Str) (v : Value) : Prop := nsIn K mainGlobals x = some (some v) ∨ (nsIn K mainGlobals x = some none ∧ bootBuiltins x = some v ∧ x ≠ "__name__")
def GlOk (K : Frag) (env : Env) : List (Str × Value) → Prop
  | [] => True
  | p :: r => (env.kindOf p.1 = some .globalImplicit ∧ Res K p.1 p.2) ∧ GlOk K env r
theorem GlOk.mem {K : Frag} {env : Env} : ∀ {gl : List (Str × Value)}, GlOk K env gl → ∀ p ∈ gl, env.kindOf p.1 = some .globalImplicit ∧ Res K p.1 p.2
  | _ :: _, h, _, .head _ => h.1
  | _ :: _, h, _, .tail _ q => h.2.mem _ q
structure EnvOk (K : Frag) (env : Env) (names : List Str) (gl : List (Str × Value)) : Prop where
  fn : env.scope.kind = .function
  glo : env.globals = mainGlobals
  blt : env.builtins = builtinsNs
  loc : (names.all fun x => env.kindOf x == some .local) = true
  nd : names.Nodup
  glob : GlOk K env gl
theorem EnvOk.locs {K : Frag} {env : Env} {names : List Str} {gl : List (Str × Value)} (e : EnvOk K env names gl) : ∀ x ∈ names, env.kindOf x = some .local :=
  fun x hx => beq_iff_eq.mp (List.all_eq_true.mp e.loc x hx)

structure Bs (K : Frag) (h₁ : Heap) (L : LT) : Prop where
  K : K.In h₁
  top : ∃ p loose mg mb, TopRead p loose mg mb h₁
  base : ∀ b o, h₁.get? b = some o → (b, fun x => x = o) ∈ L
theorem Bs.mono {K : Frag} {h₁ : Heap} {L L' : LT} (B : Bs K h₁ L) (hs : ∀ p ∈ L, p ∈ L') : Bs K h₁ L' := ⟨B.K, B.top, fun b o e => hs _ (B.base b o e)⟩
theorem Bs.keep {K : Frag} {h₁ h : Heap} {L l : LT} (B : Bs K h₁ L) (D : Led h l) (hs : ∀ p ∈ L, p ∈ l) : ∀ b o, h₁.get? b = some o → h.get? b = some o := fun b o e => by
  obtain ⟨o', e', q⟩ := D.at_ _ (hs _ (B.base b o e))
  dsimp only at e' q
  rw [e', q]

structure St (K : Frag) (L : LT) (env : Env) (gl : List (Str × Value)) (al : AL) (m n : LT) (h : Heap) : Prop where
  led : Led h ((env.locals, FrP al) :: (m ++ (n ++ L)))
  env : EnvOk K env (al.map (·.1)) gl

section
variable {prog : Program} {w : World} {A : Around} {E : Value → Shared → Prop} {h : Heap} {g : Array GenState} {d : Drawn} {tk : Nat} {os : OsState}
variable {K : Frag} {L : LT} {h₁ : Heap} {env : Env} {gl : List (Str × Value)} {al al' : AL} {m m' n n' : LT} {x : Str} {v : Value} {pos : Pos} {a b : Addr} {P P' : OP}

theorem St.get (S : St K L env gl al m n h) (hm : (a, P) ∈ m ++ (n ++ L)) : ∃ o, h.get? a = some o ∧ P o := S.led.at_ _ (.tail _ hm)
theorem St.kb (S : St K L env gl al m n h) (B : Bs K h₁ L) : ∀ b o, h₁.get? b = some o → h.get? b = some o := B.keep S.led fun p hp => .tail _ (List.mem_append_right _ (List.mem_append_right _ hp))

theorem St.ldn {Q : Value → Shared → Prop} (S : St K L env gl al m n h) (hm : (x, some v) ∈ al) (hq : Q v ⟨h, g, d, tk, os⟩) : wpAny (model prog w) A (loadName env x) Q E ⟨h, g, d, tk, os⟩ := by
  obtain ⟨o, ho, es, ep, hd, hk, hf⟩ := S.led.at_ _ (.head _)
  exact wpAny_loadName_local (s := ⟨h, g, d, tk, os⟩) S.env.fn (S.env.locs x (List.mem_map_of_mem (f := (·.1)) hm)) ⟨o, es, ep, ho, hd, hk, fun _ => rfl⟩ (hf x v hm) hq
theorem St.ld {Q : Value → Shared → Prop} (S : St K L env gl al m n h) (hm : (x, some v) ∈ al) (hq : Q v ⟨h, g, d, tk, os⟩) (hd : (x == ("__debug__" : Str)) = false := by decide +kernel) :
    wpAny (model prog w) A (eval (.Name x pos) env) Q E ⟨h, g, d, tk, os⟩ := wpAny_Name (S.ldn hm hq) hd
theorem St.st {Q : Unit → Shared → Prop} (S : St K L env gl al m n h) (U : Put x v al al') (hq : ∀ h' tk', St K L env gl al' m n h' → Q () ⟨h', g, d, tk', os⟩) :
    wpAny (model prog w) A (storeName env x v) Q E ⟨h, g, d, tk, os⟩ := by
  obtain ⟨o, ho, es, ep, hd, hk, hf⟩ := S.led.at_ _ (.head _)
  have hn : h.Ns env.locals (fun y => nsFind es y) := ⟨o, es, ep, ho, hd, hk, fun _ => rfl⟩
  refine wpAny_storeName_local (s := ⟨h, g, d, tk, os⟩) (S.env.locs x U.mem) hn (fun h' hn' hs => hq h' _ ⟨?_, by rw [U.keys]; exact S.env⟩) (by rw [S.env.fn]; rfl)
  refine S.led.up .head (fun b o hb e => (hs.2 b hb).trans e) ?_
  obtain ⟨o', es', ep', ho', hd', hk', hf'⟩ := hn'
  refine ⟨o', ho', es', ep', hd', hk', fun y u hy => ?_⟩
  rw [hf']
  dsimp only
  rcases U.split S.env.nd _ hy with e | ⟨hm, hne⟩
  · cases e; rw [if_pos rfl]
  · rw [if_neg (show ¬ y = x from hne)]; exact hf y u hm
theorem St.gb {Q : Value → Shared → Prop} (S : St K L env gl al m n h) (B : Bs K h₁ L) (hm : (x, v) ∈ gl) (hq : Q v ⟨h, g, d, tk, os⟩) (hd : (x == ("__debug__" : Str)) = false := by decide +kernel) :
    wpAny (model prog w) A (eval (.Name x pos) env) Q E ⟨h, g, d, tk, os⟩ := by
  obtain ⟨hk, hr⟩ := S.env.glob.mem _ hm
  obtain ⟨p, loose, mg, mb, T⟩ := B.top
  have hg : h.Ns env.globals mg := S.env.glo ▸ T.g.keeps (S.kb B)
  rcases hr with e | ⟨e, hb, hne⟩
  · exact Name_function_global S.env.fn hk (loadGlobal_global (s := ⟨h, g, d, tk, os⟩) hg (mg_of B.K T.g e) hq) hd
  · exact Name_function_global S.env.fn hk (loadGlobal_builtin (s := ⟨h, g, d, tk, os⟩) hg (mg_none_of B.K T.g e) (S.env.blt ▸ T.b.keeps (S.kb B)) ((T.builtins x hne).trans hb) hq) hd
theorem St.forget (S : St K L env gl al m n h) (al' : AL) (hk : al'.map (·.1) = al.map (·.1)) (hs : ∀ y u, (y, some u) ∈ al' → (y, some u) ∈ al) : St K L env gl al' m n h :=
  ⟨S.led.up .head (fun _ _ _ e => e) (let ⟨o, e, es, ep, a, b, c⟩ := S.led.at_ _ (.head _); ⟨o, e, es, ep, a, b, fun y u hy => c y u (hs y u hy)⟩), by rw [hk]; exact S.env⟩

theorem St.grown {h' : Heap} (S : St K L env gl al m n h) (hk : ∀ b o, h.get? b = some o → h'.get? b = some o) : St K L env gl al m n h' := ⟨S.led.keep hk, S.env⟩
theorem St.up {h' : Heap} (S : St K L env gl al m n h) (U : Up a P' m m') (hs : ∀ b o, b ≠ a → h.get? b = some o → h'.get? b = some o) (hx : ∃ o, h'.get? a = some o ∧ P' o) : St K L env gl al m' n h' :=
  ⟨S.led.up (.tail (U.app _)) hs hx, S.env⟩
theorem St.demote {p : Addr × OP} (S : St K L env gl al (p :: m) n h) : St K L env gl al m (p :: n) h :=
  ⟨S.led.perm (.cons _ (by rw [List.cons_append, List.cons_append]; exact List.perm_middle.symm)), S.env⟩
theorem St.promote {p : Addr × OP} (S : St K L env gl al m (p :: n) h) : St K L env gl al (p :: m) n h :=
  ⟨S.led.perm (.cons _ (by rw [List.cons_append, List.cons_append]; exact List.perm_middle)), S.env⟩
theorem St.drop {p : Addr × OP} (S : St K L env gl al (p :: m) n h) : St K L env gl al m n h :=
  ⟨S.led.sub (.cons_cons _ (.cons _ (List.Sublist.refl _))), S.env⟩
theorem St.pushM {o : Obj} (S : St K L env gl al m n h) (P : OP) (hf : o.isFreed = false) (hp : P o) : St K L env gl al ((h.objs.size, P) :: m) n (h.push o) :=
  ⟨(S.led.push hf hp).perm (.swap ..), S.env⟩
theorem St.push {o : Obj} (S : St K L env gl al m n h) (P : OP) (hf : o.isFreed = false) (hp : P o) : St K L env gl al m ((h.objs.size, P) :: n) (h.push o) := (S.pushM P hf hp).demote
theorem St.end {h' : Heap} (S : St K L env gl al ((a, P) :: m) n h) (hx : Heap.ExtBut a h h') : St K L env gl al m n h' := by
  refine ⟨⟨fun p hp => ?_, S.drop.led.nd⟩, S.env⟩
  have hne : p.1 ≠ a := fun e => by
    have nd := S.led.nd
    rw [show (env.locals, FrP al) :: ((a, P) :: m ++ (n ++ L)) = (env.locals, FrP al) :: (a, P) :: (m ++ (n ++ L)) from rfl] at nd
    simp only [List.map_cons, List.nodup_cons, List.mem_cons, not_or] at nd
    rcases List.mem_cons.mp hp with rfl | hp
    · exact nd.1.1 e
    · exact nd.2.1 (e ▸ List.mem_map_of_mem (f := (·.1)) hp)
  obtain ⟨o, e, q⟩ := S.drop.led.at_ p hp
  exact ⟨o, hx _ _ hne e, q⟩
theorem St.back {h' : Heap} (S : St K L env gl al m n h) (D : Led h' (n' ++ ((env.locals, FrP al) :: (m ++ (n ++ L))))) : St K L env gl al m (n' ++ n) h' := by
  refine ⟨D.perm ?_, S.env⟩
  refine List.perm_middle.trans (.cons _ ?_)
  rw [List.append_assoc]
  exact List.perm_append_comm_assoc n' m (n ++ L)

theorem cI {Q : Value → Shared → Prop} {i : Int} {k : Nat} (hq : ∀ t tk', Q (.int i t) ⟨h, g, d, tk', os⟩) : wpAny (model prog w) A (eval (.Constant (.int i) k pos) env) Q E ⟨h, g, d, tk, os⟩ := wpAny_Constant_int (hq _ _)
theorem cS {Q : Value → Shared → Prop} {y : Str} {k : Nat} (hq : ∀ t tk', Q (.str y t) ⟨h, g, d, tk', os⟩) : wpAny (model prog w) A (eval (.Constant (.str y) k pos) env) Q E ⟨h, g, d, tk, os⟩ := Constant_str (hq _ _)
theorem addI {Q : Value → Shared → Prop} {a b : Int} {t u : Tok} (hq : ∀ t tk', Q (.int (a + b) t) ⟨h, g, d, tk', os⟩) : wpAny (model prog w) A (binaryOp .Add (.int a t) (.int b u)) Q E ⟨h, g, d, tk, os⟩ := add_int (hq _ _)
theorem subI {Q : Value → Shared → Prop} {a b : Int} {t u : Tok} (hq : ∀ t tk', Q (.int (a - b) t) ⟨h, g, d, tk', os⟩) : wpAny (model prog w) A (binaryOp .Sub (.int a t) (.int b u)) Q E ⟨h, g, d, tk, os⟩ := sub_int (hq _ _)
theorem iaddI {Q : Value → Shared → Prop} {a b : Int} {t u : Tok} (hq : ∀ t tk', Q (.int (a + b) t) ⟨h, g, d, tk', os⟩) : wpAny (model prog w) A (inplaceOp .Add (.int a t) (.int b u)) Q E ⟨h, g, d, tk, os⟩ := iadd_int (hq _ _)
theorem modI {Q : Value → Shared → Prop} {a b : Int} {t u : Tok} (hb : b ≠ 0) (hq : ∀ t tk', Q (.int (Int.fmod a b) t) ⟨h, g, d, tk', os⟩) : wpAny (model prog w) A (binaryOp .Mod (.int a t) (.int b u)) Q E ⟨h, g, d, tk, os⟩ := mod_int' hb (hq _ _)

theorem tLt {Q : Bool → Shared → Prop} {a b : Int} {t u : Tok} {s : Shared} (hq : Q (decide (a < b)) s) : wpAny (model prog w) A (compareOp .Lt (.int a t) (.int b u)) (fun c s₃ => wpAny (model prog w) A (truthy c) Q E s₃) E s := lt_int (wpAny_truthy_bool hq)
theorem tLe {Q : Bool → Shared → Prop} {a b : Int} {t u : Tok} {s : Shared} (hq : Q (decide (a ≤ b)) s) : wpAny (model prog w) A (compareOp .LtE (.int a t) (.int b u)) (fun c s₃ => wpAny (model prog w) A (truthy c) Q E s₃) E s := le_int (wpAny_truthy_bool hq)
theorem tGt {Q : Bool → Shared → Prop} {a b : Int} {t u : Tok} {s : Shared} (hq : Q (decide (b < a)) s) : wpAny (model prog w) A (compareOp .Gt (.int a t) (.int b u)) (fun c s₃ => wpAny (model prog w) A (truthy c) Q E s₃) E s := gt_int (wpAny_truthy_bool hq)
theorem tGe {Q : Bool → Shared → Prop} {a b : Int} {t u : Tok} {s : Shared} (hq : Q (decide (b ≤ a)) s) : wpAny (model prog w) A (compareOp .GtE (.int a t) (.int b u)) (fun c s₃ => wpAny (model prog w) A (truthy c) Q E s₃) E s := ge_int (wpAny_truthy_bool hq)
theorem tEq {Q : Bool → Shared → Prop} {a b : Int} {t u : Tok} {s : Shared} (hq : Q (a == b) s) : wpAny (model prog w) A (compareOp .Eq (.int a t) (.int b u)) (fun c s₃ => wpAny (model prog w) A (truthy c) Q E s₃) E s := eq_int (wpAny_truthy_bool hq)
theorem tNe {Q : Bool → Shared → Prop} {a b : Int} {t u : Tok} {s : Shared} (hq : Q (a != b) s) : wpAny (model prog w) A (compareOp .NotEq (.int a t) (.int b u)) (fun c s₃ => wpAny (model prog w) A (truthy c) Q E s₃) E s := ne_int (wpAny_truthy_bool hq)

section
variable {M : Model} {s : Shared} {rest : List Stmt} {Q : Flow → Shared → Prop}
theorem xAssign {x : Str} {p q : Pos} {e : PySem.Expr} (hq : wpAny M A (eval e env) (fun v s₁ => wpAny M A (storeName env x v) (fun _ s₂ => wpAny M A (execs rest env) Q E s₂) E s₁) E s)
    (hs : swapsWith e (some (.Name x p)) q.line env = pure false := by rfl) : wpAny M A (execs (.Assign [.Name x p] e q :: rest) env) Q E s := wpAny_execs_cons (wpAny_Assign_Name hq hs)
theorem xAug {x : Str} {p q : Pos} {op : Operator} {e : PySem.Expr} (hq : wpAny M A (loadName env x) (fun old s₁ => wpAny M A (eval e env) (fun v s₂ => wpAny M A (inplaceOp op old v)
      (fun r s₃ => wpAny M A (storeName env x r) (fun _ s₄ => wpAny M A (execs rest env) Q E s₄) E s₃) E s₂) E s₁) E s) : wpAny M A (execs (.AugAssign (.Name x p) op e q :: rest) env) Q E s := wpAny_execs_cons (wpAny_AugAssign_Name hq)
theorem execs_app_eq (r : List Stmt) : ∀ (b : List Stmt), execs (b ++ r) env = (do match ← execs b env with | .next => execs r env | f => pure f)
  | [] => by show _ = (pure Flow.next >>= _); rw [pure_bind]; rfl
  | st :: b => by
    rw [List.cons_append, execs_cons, execs_cons, bind_assoc, execs_app_eq r b]
    congr 1
    funext f
    cases f <;> first | rfl | rw [pure_bind]
theorem xIf {t : PySem.Expr} {b o : List Stmt} {q : Pos} (hq : wpAny M A (isTrue t env (eval t env)) (fun c s₁ => if c = true then wpAny M A (execs (b ++ rest) env) Q E s₁ else wpAny M A (execs (o ++ rest) env) Q E s₁) E s) :
    wpAny M A (execs (.If t b o q :: rest) env) Q E s := by
  have e : execs (.If t b o q :: rest) env = (do standAt q; let c ← isTrue t env (eval t env); if c then execs (b ++ rest) env else execs (o ++ rest) env) := by
    rw [execs_cons, exec_If, bind_assoc]
    congr 1
    funext _
    rw [bind_assoc]
    congr 1
    funext c
    cases c
    · exact (execs_app_eq rest o).symm
    · exact (execs_app_eq rest b).symm
  rw [e]
  refine wpAny_bind (wpAny_standAt (wpAny_bind (wpAny_mono hq (fun c s₁ h₁ => ?_) fun _ _ x => x)))
  cases c <;> exact h₁
theorem xRet {e : PySem.Expr} {q : Pos} (hq : wpAny M A (eval e env) (fun v => Q (.ret v)) E s) : wpAny M A (execs (.Return (some e) q :: rest) env) Q E s := wpAny_execs_cons (wpAny_Return_some hq)
theorem xCont {q : Pos} (hq : Q .cont s) : wpAny M A (execs (.Continue q :: rest) env) Q E s := wpAny_execs_cons (wpAny_Continue hq)
theorem xBrk {q : Pos} (hq : Q .brk s) : wpAny M A (execs (.Break q :: rest) env) Q E s := wpAny_execs_cons (wpAny_Break hq)
theorem xEnd (hq : Q .next s) : wpAny M A (execs [] env) Q E s := wpAny_execs_nil hq
end
theorem xExpr {e : PySem.Expr} {q : Pos} {rest : List Stmt} {Q : Flow → Shared → Prop} {s : Shared} {sc : Scope} (henv : { env with scope := sc } = env) (hq : wpAny (model prog w) A (eval e env) (fun _ s₁ => wpAny (model prog w) A (execs rest env) Q E s₁) E s)
    (hi : interactive { env with scope := sc } = false := by rfl) (hs : swapsWith e none q.line env = pure false := by rfl) : wpAny (model prog w) A (execs (.Expr e q :: rest) env) Q E s := wpAny_execs_cons (wpAny_Expr_any hq (by rw [henv] at hi; exact hi) hs)
end
end Mine
end
section
open PySem PySem.W PyProof.Rows PySem.Calls
set_option autoImplicit false
namespace Mine
def ListP (vs : List Value) : OP := fun o => ∃ n, o = { cls := .type "list", data := .seq vs.toArray n }
def TupP (vs : List Value) : OP := fun o => ∃ n, o = { cls := .type "tuple", data := .seq vs.toArray n }
def RangeP (a b c : Int) : OP := fun o => ∃ t u v, o = { cls := .type "range", dict := none, data := .fields #[.int a t, .int b u, .int c v], slots := #[] }
def RIterP (x left step : Int) : OP := fun o => o = { cls := .type "range_iterator", dict := none, data := .fields #[rawInt x, rawInt left, rawInt step], slots := #[] }
def LIterP (a : Addr) (i : Nat) : OP := fun o => o.cls = .type "list_iterator" ∧ o.data = .fields #[.ref a, .int i 0]
def IntsP (xs : List Int) : OP := fun o => ∃ vs, IntsAre vs xs ∧ ListP vs o

section
variable {prog : Program} {w : World} {A : Around} {E : Value → Shared → Prop} {h : Heap} {g : Array GenState} {d : Drawn} {tk : Nat} {os : OsState}
variable {K : Frag} {L : LT} {h₁ : Heap} {env : Env} {gl : List (Str × Value)} {al al' : AL} {m m' n n' : LT} {x : Str} {v : Value} {pos : Pos} {a b : Addr} {P P' : OP}

theorem St.isList {vs : List Value} (S : St K L env gl al m n h) (hm : (a, ListP vs) ∈ m ++ (n ++ L)) : h.IsList a vs.toArray := by
  obtain ⟨o, ho, n, rfl⟩ := S.get hm
  exact ⟨_, ho, rfl, n, rfl⟩
theorem St.isInts {xs : List Int} (S : St K L env gl al m n h) (hm : (a, IntsP xs) ∈ m ++ (n ++ L)) : ∃ vs, IntsAre vs xs ∧ h.IsList a vs.toArray := by
  obtain ⟨o, ho, vs, hi, n, rfl⟩ := S.get hm
  exact ⟨vs, hi, _, ho, rfl, n, rfl⟩
theorem St.fin (S : St K L env gl al m n h) : Led h (((env.locals, FrP al) :: (m ++ n)) ++ L) := by
  have := S.led
  rwa [← List.append_assoc] at this

abbrev Gives (L : LT) (g : Array GenState) (d : Drawn) (os : OsState) (ok : LT → Value → Prop) (R : Result → Shared → Prop) : Prop :=
  ∀ h n v tk, Led h (n ++ L) → ok n v → R (.ok (.ret v)) ⟨h, g, d, tk, os⟩
structure Rm (A : Around) (dep : Nat) : Prop where
  hh : A.handled = none
  hd : A.depth + dep < recursionLimit
  hu : A.units + 3 * dep + 200 < cLine
  hD : A.depth + dep ≤ 500
  hU : A.units + 3 * dep ≤ 5000
theorem Rm.le {A : Around} {k j : Nat} (r : Rm A k) (h : j ≤ k) : Rm A j := ⟨r.hh, by have := r.hd; lia  , by have := r.hu; lia  , by have := r.hD; lia  , by have := r.hU; lia  ⟩
theorem Rm.d5 {A : Around} {k : Nat} (r : Rm A k) : A.depth ≤ 500 := by have := r.hD; lia  
theorem Rm.u5 {A : Around} {k : Nat} (r : Rm A k) : A.units ≤ 5000 := by have := r.hU; lia  
def Does (prog : Program) (w : World) (L : LT) (dep : Nat) (f : Value) (args : List Value) (ok : LT → Value → Prop) : Prop :=
  ∀ (A : Around) (R : Result → Shared → Prop) (h : Heap) (g : Array GenState) (d : Drawn) (tk : Nat) (os : OsState), Rm A dep → Led h L → Gives L g d os ok R →
    codeAny (model prog w) A (.call f ⟨args, []⟩) R ⟨h, g, d, tk, os⟩

theorem lookup_of {α β : Type} [BEq α] [LawfulBEq α] {k : α} {v : β} : ∀ {l : List (α × β)}, (k, v) ∈ l → (l.map (·.1)).Nodup → l.lookup k = some v
  | p :: l, hm, nd => by
    rw [List.map_cons, List.nodup_cons] at nd
    rcases List.mem_cons.mp hm with rfl | hm
    · rw [List.lookup_cons, beq_self_eq_true]
    · rw [List.lookup_cons]
      have : (k == p.1) = false := by
        rw [beq_eq_false_iff_ne]; rintro rfl; exact nd.1 (List.mem_map_of_mem (f := (·.1)) hm)
      rw [this]; exact lookup_of hm nd.2
theorem hal_of {binds : List (Str × Value)} {ns : List Str} (nd : (binds.map (·.1)).Nodup) : ∀ p ∈ (binds.map fun b => (b.1, some b.2)) ++ ns.map (fun x => (x, (none : Option Value))), ∀ v, p.2 = some v → binds.reverse.lookup p.1 = some v := by
  intro p hp v hv
  rcases List.mem_append.mp hp with hp | hp
  · obtain ⟨b, hb, rfl⟩ := List.mem_map.mp hp
    cases hv
    refine lookup_of (List.mem_reverse.mpr hb) ?_
    rw [List.map_reverse]; exact (List.reverse_perm _).nodup_iff.mpr nd
  · obtain ⟨x, _, rfl⟩ := List.mem_map.mp hp
    cases hv
theorem enter {ok : LT → Value → Prop} {name qual : Str} {params : Arguments} {body : List Stmt} {scope : Scope} {dV kV doc pm cdv ct oc : Value} {an od : Option Addr} {osl : Array (Option Value)} {f : Addr} {args : List Value} {dep : Nat}
    (B : Bs K h₁ L) (ho : K.lookup f = some ⟨oc, od, .func (fnOf name qual params body scope dV kV doc pm an cdv ct), osl⟩) (hcd : codeIn K cdv qual = true)
    (gl : List (Str × Value)) (al : AL) (names : List Str) (hn : al.map (·.1) = names) (binds : List (Str × Value))
    (hbind : ∀ s : Shared, (∀ a o, K.lookup a = some o → s.heap.get? a = some o) → BindsTo s (fnOf name qual params body scope dV kV doc pm an cdv ct) ⟨args, []⟩ binds)
    (hE : ∀ L', EnvOk K (envOf qual scope L' f cdv) names gl)
    (hal : ∀ p ∈ al, ∀ v, p.2 = some v → binds.reverse.lookup p.1 = some v)
    (hloc : (binds.all fun y => scope.names.lookup y.1 == some .local) = true)
    (hd : 1 ≤ dep)
    (hq : ∀ (A : Around) (h : Heap) (g : Array GenState) (d : Drawn) (tk : Nat) (os : OsState) (E : Value → Shared → Prop) (env : Env) (Q : Flow → Shared → Prop), Rm A (dep - 1) → { env with scope := scope } = env → Gives L g d os ok (fun r s => ∀ v, r = .ok (.ret v) → Q (.ret v) s) →
      St K L env gl al [] [] h → wpAny (model prog w) A (execs body env) Q E ⟨h, g, d, tk, os⟩)
    (hco : scope.isCoroutine = false := by rfl) (hgen : scope.isGenerator = false := by rfl) (hk : scope.kind = .function := by rfl)
    (hcell : ∀ x ∈ scope.names, x.2 ≠ .cell := by decide +kernel) : Does prog w L dep (.ref f) args ok := by
  intro A R h g d tk os RM D G
  have hh := RM.hh
  have hroom := RM.hd
  have hun := RM.hu
  have kb := B.keep D fun _ hp => hp
  have X := B.K.keeps kb
  obtain ⟨p, loose, mg, mb, T⟩ := B.top
  refine codeAny_call_def (fd := fnOf name qual params body scope dV kV doc pm an cdv ct) (body := body) (binds := binds) (by lia  ) (X _ _ ho) rfl (T.nolimit.keeps kb) (codeRec_of X hcd) rfl (hbind _ X) hcell (fun y hy => beq_iff_eq.mp (List.all_eq_true.mp hloc y hy)) (fun h₀ hns hk₁ => ?_) hco hgen hk
  refine hq (A.deeper _) h₀ g d _ os _ (envOf qual scope h.objs.size f cdv) _ ⟨hh, by show A.depth + 1 + _ < _; lia  , by show A.units + 3 + _ + _ < _; lia  , by show A.depth + 1 + _ ≤ _; have := RM.hD; lia  , by show A.units + 3 + _ ≤ _; have := RM.hU; lia  ⟩ rfl (fun h n v tk D o u e => by cases e; exact G h n v tk D o) ⟨⟨fun p hp => ?_, ?_⟩, hn ▸ hE _⟩
  · rcases List.mem_cons.mp hp with rfl | hp
    · obtain ⟨o, es, ep, e1, e2, e3, e4⟩ := hns
      exact ⟨o, e1, es, ep, e2, e3, fun y u hy => (e4 y).trans (hal _ hy _ rfl)⟩
    · obtain ⟨o, e, q⟩ := D.at_ p hp
      exact ⟨o, hk₁ _ _ e, q⟩
  · show (h.objs.size :: L.map (·.1)).Nodup
    rw [List.nodup_cons]
    exact ⟨D.new, D.nd⟩

theorem St.call {ok : LT → Value → Prop} {f : Value} {args : List Value} {dep : Nat} {Q : Value → Shared → Prop} (S : St K L env gl al m n h)
    (X : Does prog w ((env.locals, FrP al) :: (m ++ (n ++ L))) dep f args ok) (RM : Rm A dep)
    (hq : ∀ h' n' v tk', ok n' v → St K L env gl al m (n' ++ n) h' → Q v ⟨h', g, d, tk', os⟩) : wpAny (model prog w) A (call f args) Q E ⟨h, g, d, tk, os⟩ :=
  wpAny_call (X A _ h g d tk os RM S.led fun h' n' v tk' D o => hq h' n' v tk' o (S.back D))

theorem spC {M : Model} {s : Shared} {e : PySem.Expr} {r : List PySem.Expr} {Q : List Value → Shared → Prop}
    (hq : wpAny M A (eval e env) (fun v s₁ => wpAny M A (spliced (backTo pos (starEach r env))) (fun vs s₂ => Q (v :: vs) s₂) E s₁) E s) (he : starEach (e :: r) env = (false, eval e env) :: starEach r env := by rfl) :
    wpAny M A (spliced (backTo pos (starEach (e :: r) env))) Q E s := by rw [he]; exact spliced_cons hq
theorem spN {M : Model} {s : Shared} {Q : List Value → Shared → Prop} (hq : Q [] s) : wpAny M A (spliced (backTo pos (starEach [] env))) Q E s := spliced_nil hq

theorem eCallK {Q : Value → Shared → Prop} {f : Value} {e : PySem.Expr} {r : List PySem.Expr} {p : Pos} (S : St K L env gl al m n h) (B : Bs K h₁ L) (hm : (x, f) ∈ gl) (hk : keepIn K f = true)
    (hq : wpAny (model prog w) A (spliced (backTo pos (starEach (e :: r) env))) (fun vs s₁ => K.In s₁.heap ∧ wpAny (model prog w) A (call f vs) Q E s₁) E ⟨h, g, d, tk, os⟩)
    (he : starEach (e :: r) env = (false, eval e env) :: starEach r env := by rfl) (hplain : (backTo pos (starEach r env)).any (·.1) = false := by rfl) (hd : (x == ("__debug__" : Str)) = false := by decide +kernel) :
    wpAny (model prog w) A (eval (.Call (.Name x p) (e :: r) [] pos) env) Q E ⟨h, g, d, tk, os⟩ :=
  Call_Name rfl (S.gb B hm (callWith_K B.K hk hq he hplain) hd)
theorem eCallB {Q : Value → Shared → Prop} {id : String} {e : PySem.Expr} {r : List PySem.Expr} {p : Pos} (S : St K L env gl al m n h) (B : Bs K h₁ L) (hm : (x, .builtin id) ∈ gl)
    (hq : wpAny (model prog w) A (spliced (backTo pos (starEach (e :: r) env))) (fun vs s₁ => wpAny (model prog w) A (call (.builtin id) vs) Q E s₁) E ⟨h, g, d, tk, os⟩)
    (he : starEach (e :: r) env = (false, eval e env) :: starEach r env := by rfl) (hplain : (backTo pos (starEach r env)).any (·.1) = false := by rfl) (hd : (x == ("__debug__" : Str)) = false := by decide +kernel) :
    wpAny (model prog w) A (eval (.Call (.Name x p) (e :: r) [] pos) env) Q E ⟨h, g, d, tk, os⟩ :=
  Call_Name rfl (S.gb B hm (PyProof.Rows.callWith_builtin1 hq he hplain) hd)
theorem eCallT {Q : Value → Shared → Prop} {id : String} {e : PySem.Expr} {r : List PySem.Expr} {p : Pos} (S : St K L env gl al m n h) (B : Bs K h₁ L) (hm : (x, .type id) ∈ gl)
    (hq : wpAny (model prog w) A (spliced (backTo pos (starEach (e :: r) env))) (fun vs s₁ => wpAny (model prog w) A (call (.type id) vs) Q E s₁) E ⟨h, g, d, tk, os⟩)
    (he : starEach (e :: r) env = (false, eval e env) :: starEach r env := by rfl) (hplain : (backTo pos (starEach r env)).any (·.1) = false := by rfl) (hd : (x == ("__debug__" : Str)) = false := by decide +kernel) :
    wpAny (model prog w) A (eval (.Call (.Name x p) (e :: r) [] pos) env) Q E ⟨h, g, d, tk, os⟩ :=
  Call_Name rfl (S.gb B hm (PyProof.Rows.callWith_type1 hq he hplain) hd)

theorem ints_at : ∀ {vs : List Value} {xs : List Int} {k : Nat} {y : Int}, IntsAre vs xs → xs[k]? = some y → ∃ u, vs[k]? = some (.int y u)
  | _, _, 0, _, .cons n t _, e => by cases e; exact ⟨t, rfl⟩
  | _, _, k + 1, _, .cons n t r, e => ints_at (k := k) r e
theorem gIdx {Q : Value → Shared → Prop} {value slice : PySem.Expr} {xs : List Int} {k : Int} {t : Tok} {y : Int} (S : St K L env gl al m n h) (hm : (a, IntsP xs) ∈ m ++ (n ++ L))
    (h0 : 0 ≤ k) (hfit : k < 2 ^ 63) (hy : xs[k.toNat]? = some y) (hq : ∀ t, Q (.int y t) ⟨h, g, d, tk, os⟩)
    (hs : subscripted slice false (.ref a) (.int k t) = operate [.ref a, .int k t] (getItem (.ref a) (.int k t)) := by with_unfolding_all rfl) :
    wpAny (model prog w) A (subscriptTail value slice (.ref a) (.int k t)) Q E ⟨h, g, d, tk, os⟩ := by
  obtain ⟨vs, hi, hl⟩ := S.isInts hm
  obtain ⟨u, hu⟩ : ∃ u, vs.toArray[k.toNat]? = some (.int y u) := by obtain ⟨u, hu⟩ := ints_at hi hy; exact ⟨u, by rw [List.getElem?_toArray]; exact hu⟩
  exact tail_any hl.typeIs slot_list_getitem.lookup (wpAny_getItem_list hl h0 hfit hu (hq u)) hs
theorem lenI {Q : Value → Shared → Prop} {xs : List Int} (S : St K L env gl al m n h) (hm : (a, IntsP xs) ∈ m ++ (n ++ L)) (hfit : (xs.length : Int) < 2 ^ 63)
    (hq : ∀ t tk', Q (.int xs.length t) ⟨h, g, d, tk', os⟩) : wpAny (model prog w) A (call (.builtin "len") [.ref a]) Q E ⟨h, g, d, tk, os⟩ := by
  obtain ⟨vs, hi, hl⟩ := S.isInts hm
  have e := hi.length
  have e' : (vs.toArray.size : Int) = xs.length := by rw [List.size_toArray, e]
  exact call_len_list hl (e'.symm ▸ hfit) (e'.symm ▸ hq _ _)

theorem ifB {b : Bool} {X Y : Prop} (h1 : b = true → X) (h2 : b = false → Y) : if b = true then X else Y := by cases b <;> simp_all
theorem ifD {p : Prop} [Decidable p] {X Y : Prop} (h1 : p → X) (h2 : ¬ p → Y) : if decide p = true then X else Y := by by_cases h : p <;> simp_all
theorem ifE {a b : Int} {X Y : Prop} (h1 : a = b → X) (h2 : a ≠ b → Y) : if (a == b) = true then X else Y := by by_cases h : a = b <;> simp_all
theorem ifN {a b : Int} {X Y : Prop} (h1 : a ≠ b → X) (h2 : a = b → Y) : if (a != b) = true then X else Y := by by_cases h : a = b <;> simp_all
theorem ifF {X Y : Prop} (h : Y) : if false = true then X else Y := h
theorem ifT {X Y : Prop} (h : X) : if true = true then X else Y := h
def LoopR (N : Shared → Prop) (Q : Flow → Shared → Prop) (X : Value → Shared → Prop) : Result → Shared → Prop := fun r s => match r with
  | .ok .next => N s
  | .ok f => Q f s
  | .error e => X e s
def LoopB (I N : Shared → Prop) (Q : Flow → Shared → Prop) : Flow → Shared → Prop := fun f s => match f with
  | .next => I s
  | .cont => I s
  | .brk => N s
  | .ret v => Q (.ret v) s
section
variable {rest : List Stmt} {Q : Flow → Shared → Prop}
theorem xFor {M : Model} {s : Shared} {target iter : PySem.Expr} {body : List Stmt} {q : Pos} (hq : wpAny M A (eval iter env) (fun x s₁ => wpAny M A (pyIter x) (fun it s₂ =>
      codeAny M A (.forLoop target it body [] env) (LoopR (fun s' => wpAny M A (execs rest env) Q E s') Q (cameBackBy M A env E)) s₂) E s₁) E s)
    (hs : ∀ x, foldedSetIterable iter env x = pure x := by intro _; rfl) : wpAny M A (execs (.For target iter body [] q :: rest) env) Q E s := by
  refine wpAny_execs_cons (wpAny_For (wpAny_mono hq (fun x s₁ h₁ => wpAny_mono h₁ (fun it s₂ h₂ => ?_) fun _ _ x => x) fun _ _ x => x) hs)
  refine codeAny_mono h₂ fun r s' hr => ?_
  cases r with
  | error e => exact hr
  | ok f => cases f <;> exact hr
theorem xWhile {M : Model} {s : Shared} {t : PySem.Expr} {body : List Stmt} {q : Pos} (hq :
      codeAny M A (.whileLoop t body [] env) (LoopR (fun s' => wpAny M A (execs rest env) Q E s') Q (cameBackBy M A env E)) s) :
    wpAny M A (execs (.While t body [] q :: rest) env) Q E s := by
  refine wpAny_execs_cons (wpAny_While ?_)
  refine codeAny_mono hq fun r s' hr => ?_
  cases r with
  | error e => exact hr
  | ok f => cases f <;> exact hr
end
inductive LI (K : Frag) (L : LT) (env : Env) (gl : List (Str × Value)) (g : Array GenState) (d : Drawn) (os : OsState) (len : Nat) (M : Nat → LT → LT) (I : Nat → AL → LT → LT → Prop) (k : Nat) (s : Shared) : Prop
  | mk (i : Nat) (al : AL) (m n : LT) (h : Heap) (tk : Nat) (e : s = ⟨h, g, d, tk, os⟩) (hi : i ≤ len) (hk : k = len - i) (S : St K L env gl al (M i m) n h) (j : I i al m n)
inductive LR (K : Frag) (L : LT) (env : Env) (gl : List (Str × Value)) (g : Array GenState) (d : Drawn) (os : OsState) (lo hi : Int) (it : Addr) (I : Int → AL → LT → LT → Prop) (k : Nat) (s : Shared) : Prop
  | mk (i : Int) (al : AL) (m n : LT) (h : Heap) (tk : Nat) (e : s = ⟨h, g, d, tk, os⟩) (h1 : lo ≤ i) (h2 : i ≤ hi) (hk : k = (hi - i).toNat) (S : St K L env gl al ((it, RIterP i (hi - i) 1) :: m) n h) (j : I i al m n)
inductive LJ (K : Frag) (L : LT) (env : Env) (gl : List (Str × Value)) (g : Array GenState) (d : Drawn) (os : OsState) (J : AL → LT → LT → Prop) (s : Shared) : Prop
  | mk (al : AL) (m n : LT) (h : Heap) (tk : Nat) (e : s = ⟨h, g, d, tk, os⟩) (S : St K L env gl al m n h) (j : J al m n)
inductive LW (K : Frag) (L : LT) (env : Env) (gl : List (Str × Value)) (g : Array GenState) (d : Drawn) (os : OsState) (k : Nat) (I : Nat → AL → LT → LT → Prop) (s : Shared) : Prop
  | mk (k' : Nat) (hk : k' < k) (j : LJ K L env gl g d os (I k') s)
theorem forRange {N : Shared → Prop} {Q : Flow → Shared → Prop} {X : Value → Shared → Prop} {target : PySem.Expr} {body : List Stmt} {lo hi : Int} {it : Addr} (I : Int → AL → LT → LT → Prop) (hh : A.handled = none) (hle : lo ≤ hi)
    (S : St K L env gl al ((it, RIterP lo (hi - lo) 1) :: m) n h) (i0 : I lo al m n)
    (turn : ∀ i al m n h tk t p E Q', lo ≤ i → i < hi → I i al m n → (∀ al m n h tk, I (i + 1) al m n → St K L env gl al (p :: m) n h → Q' .next ⟨h, g, d, tk, os⟩ ∧ Q' .cont ⟨h, g, d, tk, os⟩) → (∀ s, N s → Q' .brk s) → (∀ v s, Q (.ret v) s → Q' (.ret v) s) →
      St K L env gl al (p :: m) n h → wpAny (model prog w) A (assign target env (.int i t)) (fun _ s₂ => wpAny (model prog w) A (execs body env) Q' E s₂) E ⟨h, g, d, tk, os⟩)
    (done : ∀ al m n h tk, I hi al m n → St K L env gl al m n h → N ⟨h, g, d, tk, os⟩)
    (ht : ∀ v, letOwnedTupleGo target (.ref it) v = pure () := by intro _; rfl) : codeAny (model prog w) A (.forLoop target (.ref it) body [] env) (LoopR N Q X) ⟨h, g, d, tk, os⟩ := by
  refine codeAny_forLoop (LR K L env gl g d os lo hi it I) (fun k s hs => ?_) (hi - lo).toNat
    ⟨lo, al, m, n, h, tk, rfl, Int.le_refl _, hle, rfl, S, i0⟩ ht
  obtain ⟨i, al, m, n, h, tk, rfl, h1, h2, rfl, S, i0⟩ := hs
  obtain ⟨o, ho, rfl⟩ := S.get (.head _)
  by_cases hi' : i < hi
  · refine wpAny_pyNext_range_item ho (by lia  ) fun h' h3 h4 => ?_
    have S' : St K L env gl al ((it, RIterP (i + 1) (hi - (i + 1)) 1) :: m) n h' := S.up .head (fun b o hb e => (h4.2 b hb).trans e) ⟨_, h3, by show _ = _; rw [show hi - i - 1 = hi - (i + 1) by lia  ]⟩
    refine wpAny_mono (turn i al m n h' _ _ _ _ (LoopB (LR K L env gl g d os lo hi it I (hi - (i + 1)).toNat) N Q) h1 hi' i0 (fun al m n h tk i1 S => have j : LR K L env gl g d os lo hi it I (hi - (i + 1)).toNat ⟨h, g, d, tk, os⟩ := ⟨i + 1, al, m, n, h, tk, rfl, by lia  , by lia  , rfl, S, i1⟩; ⟨j, j⟩) (fun _ x => x) (fun _ _ x => x) S') (fun _ s₂ h₂ => wpAny_mono h₂ (fun f s₃ h₃ => ?_) fun _ _ x => x) fun _ _ x => x
    have lt : (hi - (i + 1)).toNat < (hi - i).toNat := by lia  
    cases f with
    | next => exact ⟨_, lt, h₃⟩
    | cont => exact ⟨_, lt, h₃⟩
    | brk => exact h₃
    | ret v => exact h₃
  · refine wpAny_pyNext_range_end hh ho (by lia  ) fun h' hx => ?_
    have e : i = hi := by lia  
    subst e
    exact wpAny_execs_nil (done _ _ _ _ _ i0 (S.end hx))
theorem whileSt {N : Shared → Prop} {Q : Flow → Shared → Prop} {X : Value → Shared → Prop} {test : PySem.Expr} {body : List Stmt} (I : Nat → AL → LT → LT → Prop) (J : AL → LT → LT → Prop) {k : Nat}
    (S : St K L env gl al m n h) (i0 : I k al m n)
    (turn : ∀ k al m n h tk E Q' (X' : Shared → Prop), I k al m n → (∀ k' al m n h tk, k' < k → I k' al m n → St K L env gl al m n h → Q' .next ⟨h, g, d, tk, os⟩ ∧ Q' .cont ⟨h, g, d, tk, os⟩) → (∀ s, N s → Q' .brk s) → (∀ v s, Q (.ret v) s → Q' (.ret v) s) →
      (∀ al m n h tk, J al m n → St K L env gl al m n h → X' ⟨h, g, d, tk, os⟩) →
      St K L env gl al m n h → wpAny (model prog w) A (isTrue test env (eval test env)) (fun b s₂ => if b = true then wpAny (model prog w) A (execs body env) Q' E s₂ else X' s₂) E ⟨h, g, d, tk, os⟩)
    (done : ∀ al m n h tk, J al m n → St K L env gl al m n h → N ⟨h, g, d, tk, os⟩) : codeAny (model prog w) A (.whileLoop test body [] env) (LoopR N Q X) ⟨h, g, d, tk, os⟩ := by
  refine codeAny_whileLoop (fun k => LJ K L env gl g d os (I k)) (fun k s hs => ?_) k ⟨al, m, n, h, tk, rfl, S, i0⟩
  obtain ⟨al, m, n, h, tk, rfl, S, i0⟩ := hs
  refine wpAny_mono (turn k al m n h tk _ (LoopB (LW K L env gl g d os k I) N Q) (LJ K L env gl g d os J) i0 (fun k' al m n h tk hk i1 S => have j : LW K L env gl g d os k I ⟨h, g, d, tk, os⟩ := ⟨k', hk, al, m, n, h, tk, rfl, S, i1⟩; ⟨j, j⟩) (fun _ x => x) (fun _ _ x => x) (fun al m n h tk j S => ⟨al, m, n, h, tk, rfl, S, j⟩) S) (fun b s₂ h₂ => ?_) fun _ _ x => x
  cases b with
  | false =>
    obtain ⟨al, m, n, h, tk, rfl, S, j⟩ := h₂
    exact wpAny_execs_nil (done _ _ _ _ _ j S)
  | true =>
    refine wpAny_mono h₂ (fun f s₃ h₃ => ?_) fun _ _ x => x
    have fin : LW K L env gl g d os k I s₃ → ∃ m', m' < k ∧ LJ K L env gl g d os (I m') s₃ := fun ⟨k', hk, j⟩ => ⟨k', hk, j⟩
    cases f with
    | next => exact fin h₃
    | cont => exact fin h₃
    | brk => exact h₃
    | ret v => exact h₃
theorem call_range {a b : Int} {t u : Tok} {Q : Value → Shared → Prop} (S : St K L env gl al m n h)
    (hq : ∀ r h' tk', St K L env gl al m ((r, RangeP a b 1) :: n) h' → Q (.ref r) ⟨h', g, d, tk', os⟩) : wpAny (model prog w) A (call (.type "range") [.int a t, .int b u]) Q E ⟨h, g, d, tk, os⟩ :=
  call_range_2 (hq _ _ _ (S.push _ rfl ⟨_, _, _, rfl⟩))
theorem small_of {a b : Int} (h0 : 0 ≤ a) (h1 : a ≤ b) (h2 : b ≤ 1000000) : Builtin.Range.small a b 1 = true := by
  unfold Builtin.Range.small
  rw [rangeSize_one]
  unfold Builtin.Range.rangeFitsLong
  have e : (if a < b then b - a else 0) = b - a := by split <;> lia  
  rw [e]
  simp only [Bool.and_eq_true, Bool.or_eq_true, decide_eq_true_eq, beq_iff_eq]
  have : (b + (1 - 1) : Int) = b := by lia  
  simp only [this]
  refine ⟨⟨⟨⟨?_, ?_⟩, ?_⟩, ?_⟩, ?_⟩
  all_goals first | lia   | (right; simp; lia  ) | skip
theorem iter_range {a b : Int} {r : Addr} {Q : Value → Shared → Prop} (S : St K L env gl al m n h) (hm : (r, RangeP a b 1) ∈ m ++ (n ++ L)) (h0 : 0 ≤ a) (h1 : a ≤ b) (h2 : b ≤ 1000000)
    (hq : ∀ it h', St K L env gl al ((it, RIterP a (b - a) 1) :: m) n h' → Q (.ref it) ⟨h', g, d, tk, os⟩) : wpAny (model prog w) A (pyIter (.ref r)) Q E ⟨h, g, d, tk, os⟩ := by
  obtain ⟨o, ho, t, u, v, rfl⟩ := S.get hm
  have e : Builtin.Range.rangeSize a b 1 = b - a := by rw [rangeSize_one]; split <;> lia  
  refine wpAny_pyIter_range ho (small_of h0 h1 h2) (hq _ _ (S.pushM _ rfl ?_))
  show _ = _
  rw [e]
end
end Mine
end
section
open PySem PySem.W PyProof.Rows PySem.Calls
set_option autoImplicit false
namespace Mine
inductive Sc where
  | i (n : Int)
  | s (y : Str)
inductive ScAre : List Value → List Sc → Prop
  | nil : ScAre [] []
  | int (n : Int) (t : Tok) {vs xs} : ScAre vs xs → ScAre (.int n t :: vs) (.i n :: xs)
  | str (y : Str) (t : Tok) {vs xs} : ScAre vs xs → ScAre (.str y t :: vs) (.s y :: xs)
theorem ScAre.un {vs : List Value} {a : Int} {r : List Sc} (x : ScAre vs (.i a :: r)) : ∃ t vs', vs = .int a t :: vs' ∧ ScAre vs' r := by
  cases x with | int _ _ x => exact ⟨_, _, rfl, x⟩
theorem ScAre.uns {vs : List Value} {a : Str} {r : List Sc} (x : ScAre vs (.s a :: r)) : ∃ t vs', vs = .str a t :: vs' ∧ ScAre vs' r := by
  cases x with | str _ _ x => exact ⟨_, _, rfl, x⟩
theorem ScAre.un0 {vs : List Value} (x : ScAre vs []) : vs = [] := by cases x; rfl
theorem ScAre.length {vs : List Value} {r : List Sc} (x : ScAre vs r) : vs.length = r.length := by
  induction x with
  | nil => rfl
  | int _ _ _ ih => simp [ih]
  | str _ _ _ ih => simp [ih]
def RowP (c : Value) (r : List Sc) : OP := fun o => ∃ vs n, ScAre vs r ∧ o.cls = c ∧ o.data = .seq vs.toArray n
inductive RowsIn (c : Value) (l : LT) : List Value → List (List Sc) → Prop
  | nil : RowsIn c l [] []
  | cons {a r vs rs} (hm : (a, RowP c r) ∈ l) : RowsIn c l vs rs → RowsIn c l (.ref a :: vs) (r :: rs)
theorem RowsIn.mono {c : Value} {l l' : LT} {vs rs} (x : RowsIn c l vs rs) (hs : ∀ p ∈ l, p ∈ l') : RowsIn c l' vs rs := by
  induction x with
  | nil => exact .nil
  | cons hm _ ih => exact .cons (hs _ hm) ih
theorem RowsIn.append {c : Value} {l : LT} {vs rs vs' rs'} (x : RowsIn c l vs rs) (y : RowsIn c l vs' rs') : RowsIn c l (vs ++ vs') (rs ++ rs') := by
  induction x with
  | nil => exact y
  | cons hm _ ih => exact .cons hm ih
theorem RowsIn.length {c : Value} {l : LT} {vs rs} (x : RowsIn c l vs rs) : vs.length = rs.length := by
  induction x with
  | nil => rfl
  | cons _ _ ih => simp [ih]
theorem RowsIn.at {c : Value} {l : LT} : ∀ {vs rs} (x : RowsIn c l vs rs) {k : Nat} {r}, rs[k]? = some r → ∃ a, vs[k]? = some (.ref a) ∧ (a, RowP c r) ∈ l
  | _, _, .cons hm _, 0, _, e => by cases e; exact ⟨_, rfl, hm⟩
  | _, _, .cons _ x, k + 1, _, e => x.at (k := k) e

theorem fits {n : Nat} (h : n ≤ 100000) : n ≤ sizeLine := Nat.le_trans h (by decide +kernel)
section
variable {prog : Program} {w : World} {A : Around} {E : Value → Shared → Prop} {h : Heap} {g : Array GenState} {d : Drawn} {tk : Nat} {os : OsState}
variable {K : Frag} {L : LT} {h₁ : Heap} {env : Env} {gl : List (Str × Value)} {al al' : AL} {m m' n n' : LT} {x : Str} {v : Value} {pos : Pos} {a b : Addr} {P P' : OP}

theorem newTupS {vs : List Value} {Q : Value → Shared → Prop} (S : St K L env gl al m n h) (P : OP) (hp : P { cls := .type "tuple", data := .seq vs.toArray })
    (hq : ∀ a h', St K L env gl al m ((a, P) :: n) h' → Q (.ref a) ⟨h', g, d, tk, os⟩) (hsz : vs.length ≤ 100000 := by first | (simp; done) | lia  ) : wpAny (model prog w) A (newTuple vs) Q E ⟨h, g, d, tk, os⟩ :=
  wpAny_newObj_type (hq _ _ (S.push P rfl hp)) (by show vs.toArray.size ≤ sizeLine; rw [List.size_toArray]; exact fits hsz)
theorem newLstS {vs : List Value} {Q : Value → Shared → Prop} (S : St K L env gl al m n h)
    (hq : ∀ a h', St K L env gl al m ((a, ListP vs) :: n) h' → Q (.ref a) ⟨h', g, d, tk, os⟩) (hsz : vs.length ≤ 100000 := by first | (simp; done) | lia  ) : wpAny (model prog w) A (newList vs) Q E ⟨h, g, d, tk, os⟩ :=
  wpAny_newObj_type (hq _ _ (S.push (ListP vs) rfl ⟨_, rfl⟩)) (by show vs.toArray.size ≤ sizeLine; rw [List.size_toArray]; exact fits hsz)
theorem addL {vs ws : List Value} {Q : Value → Shared → Prop} (S : St K L env gl al m n h) (ha : (a, ListP vs) ∈ m ++ (n ++ L)) (hb : (b, ListP ws) ∈ m ++ (n ++ L)) (hsz : vs.length + ws.length ≤ 100000)
    (hq : ∀ a h', St K L env gl al m ((a, ListP (vs ++ ws)) :: n) h' → Q (.ref a) ⟨h', g, d, tk, os⟩) : wpAny (model prog w) A (binaryOp .Add (.ref a) (.ref b)) Q E ⟨h, g, d, tk, os⟩ := by
  obtain ⟨_, ho, k, rfl⟩ := S.get ha
  obtain ⟨_, ho2, k2, rfl⟩ := S.get hb
  have e : vs.toArray ++ ws.toArray = (vs ++ ws).toArray := by simp
  refine concat_meets ⟨_, ho, rfl⟩ ⟨_, ho2, rfl⟩ noFill_list_add seq_list_add PySem.F.slot_list_add PySem.F.entry_list_add (PySem.F.args_list_add_2 _ _) (list_addW a b vs.toArray ws.toArray k k2 _ _ _ _ (by simpa using fits hsz)) ⟨ho, ho2, ?_⟩
  rw [e]
  exact hq _ _ (S.push _ rfl ⟨_, rfl⟩)
theorem appendS {vs : List Value} {y : Value} {Q : Value → Shared → Prop} (S : St K L env gl al m n h) (hm : (a, ListP vs) ∈ m) (U : Up a (ListP (vs ++ [y])) m m') (hsz : vs.length ≤ 100000)
    (hq : ∀ h', St K L env gl al m' n h' → Q .none ⟨h', g, d, tk, os⟩) : wpAny (model prog w) A (call (.builtin "list.append") [.ref a, y]) Q E ⟨h, g, d, tk, os⟩ := by
  obtain ⟨_, ho, k, rfl⟩ := S.get (List.mem_append_left _ hm)
  refine append_at ho (fun h' hs ho' => hq h' (S.up U (fun b o hb e => (hs.2 b hb).trans e) ⟨_, ho', k + 1, ?_⟩)) (by simpa using fits hsz)
  rw [List.push_toArray]
end
end Mine
end
section
open PySem PySem.W PyProof.Rows PySem.Calls
set_option autoImplicit false
namespace Mine
section
variable {prog : Program} {w : World} {A : Around} {E : Value → Shared → Prop} {h : Heap} {g : Array GenState} {d : Drawn} {tk : Nat} {os : OsState}
variable {K : Frag} {L : LT} {h₁ : Heap} {env : Env} {gl : List (Str × Value)} {al al' : AL} {m m' n n' : LT} {x : Str} {v : Value} {pos : Pos} {a b : Addr} {P P' : OP}

theorem newTupUnpack {vs : List Value} {k : Nat} {Q : List Value → Shared → Prop} (S : St K L env gl al m n h) (hh : A.handled = none) (hk : k = vs.length)
    (hq : ∀ h', St K L env gl al m n h' → Q vs ⟨h', g, d, tk, os⟩) (hsz : vs.length ≤ 100000 := by first | (simp; done) | lia  ) :
    wpAny (model prog w) A (newTuple vs) (fun v s₁ => wpAny (model prog w) A (unpackItems v k none) Q E s₁) E ⟨h, g, d, tk, os⟩ := by
  refine wpAny_newObj_type ?_ (by show vs.toArray.size ≤ sizeLine; rw [List.size_toArray]; exact fits hsz)
  have e : k = vs.toArray.size := by rw [List.size_toArray, hk]
  subst e
  refine unpackItems_tuple hh ⟨_, Heap.get?_push_size _ rfl, rfl, _, rfl⟩ fun h' he => ?_
  have := hq h' (S.grown fun b o e => he b o (Nat.ne_of_lt ?_) (Heap.get?_push_of_some _ e))
  · simpa using this
  · exact Nat.lt_of_lt_of_le (Heap.lt_size e) (by show h.objs.size ≤ (h.push _).objs.size; rw [Heap.size_push]; exact Nat.le_succ _)
theorem asgN {M : Model} {s : Shared} {xs : List Value} {ts : List (Value → Sem Unit)} {Q : Unit → Shared → Prop} (hq : wpAny M A (storeName env x v) (fun _ s₁ => wpAny M A (assignInOrder ts xs) Q E s₁) E s) :
    wpAny M A (assignInOrder ((fun v => bindName env x v) :: ts) (v :: xs)) Q E s := assignInOrder_cons (bindName_ hq)
theorem xSwap {M : Model} {s : Shared} {rest : List Stmt} {Q : Flow → Shared → Prop} {elts es : List PySem.Expr} {k k' : Nat} {tp p q : Pos} {sc : Scope} (names : List Str) (henv : { env with scope := sc } = env)
    (hq : wpAny M A (spliced (backTo p (starEach es env))) (fun vs s₁ => wpAny M A (newTuple vs) (fun v s₂ => wpAny M A (unpackItems v names.length none) (fun items s₃ =>
      wpAny M A (assignInOrder (names.reverse.map fun n => bindName env n) items.reverse) (fun _ s₄ => wpAny M A (execs rest env) Q E s₄) E s₃) E s₂) E s₁) E s)
    (hs : swapsWithSole [.Tuple elts k tp] (.Tuple es k' p) q.line env = pure false := by rfl)
    (hw : swappedStores [.Tuple elts k tp] (.Tuple es k' p) { env with scope := sc } = pure (some names) := by rfl) :
    wpAny M A (execs (.Assign [.Tuple elts k tp] (.Tuple es k' p) q :: rest) env) Q E s := wpAny_execs_cons (Assign_Tuple_swapped (names := names) (Tuple_ hq) hs (by rw [henv] at hw; exact hw))
theorem unpackRow {elts : List PySem.Expr} {k : Nat} {r : List Sc} {Q : Unit → Shared → Prop} (S : St K L env gl al m n h) (hm : (a, RowP (.type "tuple") r) ∈ m ++ (n ++ L)) (hh : A.handled = none)
    (hlen : (assignEach elts env).length = r.length) (hstar : (assignEach elts env).findIdx? (·.1) = none)
    (hq : ∀ vs h', ScAre vs r → St K L env gl al m n h' → wpAny (model prog w) A (assignInOrder ((assignEach elts env).map (·.2)) vs) Q E ⟨h', g, d, tk, os⟩) :
    wpAny (model prog w) A (assign (.Tuple elts k pos) env (.ref a)) Q E ⟨h, g, d, tk, os⟩ := by
  obtain ⟨_, ho, vs, q, hv, hcl, hdt⟩ := S.get hm
  have hl := hv.length
  refine assign_Tuple_tuple hh ⟨_, ho, hcl, q, hdt⟩ (by rw [List.size_toArray, hl]; exact hlen) hstar fun h' he => ?_
  exact hq vs h' hv (S.grown fun b o e => he b o (Nat.ne_of_lt (Heap.lt_size e)) e)
theorem xUnpack {M : Model} {s : Shared} {rest : List Stmt} {Q : Flow → Shared → Prop} {elts : List PySem.Expr} {e : PySem.Expr} {k : Nat} {tp q : Pos}
    (hq : wpAny M A (eval e env) (fun v s₁ => wpAny M A (assign (.Tuple elts k tp) env v) (fun _ s₂ => wpAny M A (execs rest env) Q E s₂) E s₁) E s)
    (hs : swapsWithSole [.Tuple elts k tp] e q.line env = pure false := by rfl)
    (hw : swappedStores [.Tuple elts k tp] e env = pure none := by rfl) : wpAny M A (execs (.Assign [.Tuple elts k tp] e q :: rest) env) Q E s := wpAny_execs_cons (Assign_Tuple hq hs hw)
theorem kIn (S : St K L env gl al m n h) (B : Bs K h₁ L) : K.In (Shared.heap ⟨h, g, d, tk, os⟩) := B.K.keeps (S.kb B)
def IfB (J : Shared → Prop) (Q : Flow → Shared → Prop) : Flow → Shared → Prop := fun f s => match f with
  | .next => J s
  | f => Q f s
theorem xIfJ {t : PySem.Expr} {b o rest : List Stmt} {q : Pos} {Q : Flow → Shared → Prop} (S : St K L env gl al m n h) (J : AL → LT → LT → Prop)
    (hq : ∀ Q' : Flow → Shared → Prop, (∀ al m n h tk, J al m n → St K L env gl al m n h → Q' .next ⟨h, g, d, tk, os⟩) → (∀ f s, f ≠ .next → Q f s → Q' f s) →
      wpAny (model prog w) A (isTrue t env (eval t env)) (fun c s₁ => if c = true then wpAny (model prog w) A (execs b env) Q' E s₁ else wpAny (model prog w) A (execs o env) Q' E s₁) E ⟨h, g, d, tk, os⟩)
    (done : ∀ al m n h tk, J al m n → St K L env gl al m n h → wpAny (model prog w) A (execs rest env) Q E ⟨h, g, d, tk, os⟩) :
    wpAny (model prog w) A (execs (.If t b o q :: rest) env) Q E ⟨h, g, d, tk, os⟩ := by
  have fin : ∀ f s, IfB (LJ K L env gl g d os J) Q f s → (match f with | .next => wpAny (model prog w) A (execs rest env) Q E s | f => Q f s) := by
    intro f s hf
    cases f with
    | next => obtain ⟨al, m, n, h, tk, rfl, S, j⟩ := hf; exact done _ _ _ _ _ j S
    | _ => exact hf
  refine wpAny_execs_cons (wpAny_If (wpAny_mono (hq (IfB (LJ K L env gl g d os J) Q) (fun al m n h tk j S => ⟨al, m, n, h, tk, rfl, S, j⟩) (fun f s hf q => by cases f <;> first | exact q | exact absurd rfl hf)) (fun c s₁ h₁ => ?_) fun _ _ x => x))
  cases c
  · exact wpAny_mono h₁ fin fun _ _ x => x
  · exact wpAny_mono h₁ fin fun _ _ x => x
theorem evJ {e : Sem Value} {Q : Value → Shared → Prop} (W : Str) (hq1 : wpAny (model prog w) A e (fun v s' => ∃ tk' t, v = .str W t ∧ s' = ⟨h, g, d, tk', os⟩) E ⟨h, g, d, tk, os⟩) (hq2 : ∀ t tk', Q (.str W t) ⟨h, g, d, tk', os⟩) :
    wpAny (model prog w) A e Q E ⟨h, g, d, tk, os⟩ := wpAny_mono hq1 (fun v s' hv => by obtain ⟨tk', t, rfl, rfl⟩ := hv; exact hq2 t tk') fun _ _ x => x
theorem appN {M : Model} {s : Shared} {rest : List Stmt} {Q : Flow → Shared → Prop} (hq : wpAny M A (execs rest env) Q E s) : wpAny M A (execs ([] ++ rest) env) Q E s := hq
theorem appC {M : Model} {s : Shared} {st : Stmt} {b rest : List Stmt} {Q : Flow → Shared → Prop} (hq : wpAny M A (execs (st :: (b ++ rest)) env) Q E s) : wpAny M A (execs ((st :: b) ++ rest) env) Q E s := hq
end
end Mine
end
section
open PySem PySem.W PyProof.Rows PySem.Calls
set_option autoImplicit false
namespace Mine
section
variable {α : Type} {a b c d e f g h i j k l m n o p q r s t u y : α} {z : List α}
theorem at0 : y ∈ y :: z := .head _
theorem at1 : y ∈ a :: y :: z := .tail _ at0
theorem at2 : y ∈ a :: b :: y :: z := .tail _ at1
theorem at3 : y ∈ a :: b :: c :: y :: z := .tail _ at2
theorem at4 : y ∈ a :: b :: c :: d :: y :: z := .tail _ at3
theorem at5 : y ∈ a :: b :: c :: d :: e :: y :: z := .tail _ at4
theorem at6 : y ∈ a :: b :: c :: d :: e :: f :: y :: z := .tail _ at5
theorem at7 : y ∈ a :: b :: c :: d :: e :: f :: g :: y :: z := .tail _ at6
theorem at8 : y ∈ a :: b :: c :: d :: e :: f :: g :: h :: y :: z := .tail _ at7
theorem at9 : y ∈ a :: b :: c :: d :: e :: f :: g :: h :: i :: y :: z := .tail _ at8
theorem at10 : y ∈ a :: b :: c :: d :: e :: f :: g :: h :: i :: j :: y :: z := .tail _ at9
theorem at11 : y ∈ a :: b :: c :: d :: e :: f :: g :: h :: i :: j :: k :: y :: z := .tail _ at10
theorem at12 : y ∈ a :: b :: c :: d :: e :: f :: g :: h :: i :: j :: k :: l :: y :: z := .tail _ at11
theorem at13 : y ∈ a :: b :: c :: d :: e :: f :: g :: h :: i :: j :: k :: l :: m :: y :: z := .tail _ at12
theorem at14 : y ∈ a :: b :: c :: d :: e :: f :: g :: h :: i :: j :: k :: l :: m :: n :: y :: z := .tail _ at13
theorem at15 : y ∈ a :: b :: c :: d :: e :: f :: g :: h :: i :: j :: k :: l :: m :: n :: o :: y :: z := .tail _ at14
theorem at16 : y ∈ a :: b :: c :: d :: e :: f :: g :: h :: i :: j :: k :: l :: m :: n :: o :: p :: y :: z := .tail _ at15
theorem at17 : y ∈ a :: b :: c :: d :: e :: f :: g :: h :: i :: j :: k :: l :: m :: n :: o :: p :: q :: y :: z := .tail _ at16
theorem at18 : y ∈ a :: b :: c :: d :: e :: f :: g :: h :: i :: j :: k :: l :: m :: n :: o :: p :: q :: r :: y :: z := .tail _ at17
theorem at19 : y ∈ a :: b :: c :: d :: e :: f :: g :: h :: i :: j :: k :: l :: m :: n :: o :: p :: q :: r :: s :: y :: z := .tail _ at18
theorem at20 : y ∈ a :: b :: c :: d :: e :: f :: g :: h :: i :: j :: k :: l :: m :: n :: o :: p :: q :: r :: s :: t :: y :: z := .tail _ at19
end
section
variable {a b c d e f g h i j k l m n o p q r s t u : Str × Option Value} {x : Str} {v : Value} {w : Option Value} {z : AL}
theorem put0 : Put x v ((x, w) :: z) ((x, some v) :: z) := .head
theorem put1 : Put x v (a :: (x, w) :: z) (a :: (x, some v) :: z) := .tail put0
theorem put2 : Put x v (a :: b :: (x, w) :: z) (a :: b :: (x, some v) :: z) := .tail put1
theorem put3 : Put x v (a :: b :: c :: (x, w) :: z) (a :: b :: c :: (x, some v) :: z) := .tail put2
theorem put4 : Put x v (a :: b :: c :: d :: (x, w) :: z) (a :: b :: c :: d :: (x, some v) :: z) := .tail put3
theorem put5 : Put x v (a :: b :: c :: d :: e :: (x, w) :: z) (a :: b :: c :: d :: e :: (x, some v) :: z) := .tail put4
theorem put6 : Put x v (a :: b :: c :: d :: e :: f :: (x, w) :: z) (a :: b :: c :: d :: e :: f :: (x, some v) :: z) := .tail put5
theorem put7 : Put x v (a :: b :: c :: d :: e :: f :: g :: (x, w) :: z) (a :: b :: c :: d :: e :: f :: g :: (x, some v) :: z) := .tail put6
theorem put8 : Put x v (a :: b :: c :: d :: e :: f :: g :: h :: (x, w) :: z) (a :: b :: c :: d :: e :: f :: g :: h :: (x, some v) :: z) := .tail put7
theorem put9 : Put x v (a :: b :: c :: d :: e :: f :: g :: h :: i :: (x, w) :: z) (a :: b :: c :: d :: e :: f :: g :: h :: i :: (x, some v) :: z) := .tail put8
theorem put10 : Put x v (a :: b :: c :: d :: e :: f :: g :: h :: i :: j :: (x, w) :: z) (a :: b :: c :: d :: e :: f :: g :: h :: i :: j :: (x, some v) :: z) := .tail put9
theorem put11 : Put x v (a :: b :: c :: d :: e :: f :: g :: h :: i :: j :: k :: (x, w) :: z) (a :: b :: c :: d :: e :: f :: g :: h :: i :: j :: k :: (x, some v) :: z) := .tail put10
theorem put12 : Put x v (a :: b :: c :: d :: e :: f :: g :: h :: i :: j :: k :: l :: (x, w) :: z) (a :: b :: c :: d :: e :: f :: g :: h :: i :: j :: k :: l :: (x, some v) :: z) := .tail put11
theorem put13 : Put x v (a :: b :: c :: d :: e :: f :: g :: h :: i :: j :: k :: l :: m :: (x, w) :: z) (a :: b :: c :: d :: e :: f :: g :: h :: i :: j :: k :: l :: m :: (x, some v) :: z) := .tail put12
theorem put14 : Put x v (a :: b :: c :: d :: e :: f :: g :: h :: i :: j :: k :: l :: m :: n :: (x, w) :: z) (a :: b :: c :: d :: e :: f :: g :: h :: i :: j :: k :: l :: m :: n :: (x, some v) :: z) := .tail put13
theorem put15 : Put x v (a :: b :: c :: d :: e :: f :: g :: h :: i :: j :: k :: l :: m :: n :: o :: (x, w) :: z) (a :: b :: c :: d :: e :: f :: g :: h :: i :: j :: k :: l :: m :: n :: o :: (x, some v) :: z) := .tail put14
theorem put16 : Put x v (a :: b :: c :: d :: e :: f :: g :: h :: i :: j :: k :: l :: m :: n :: o :: p :: (x, w) :: z) (a :: b :: c :: d :: e :: f :: g :: h :: i :: j :: k :: l :: m :: n :: o :: p :: (x, some v) :: z) := .tail put15
theorem put17 : Put x v (a :: b :: c :: d :: e :: f :: g :: h :: i :: j :: k :: l :: m :: n :: o :: p :: q :: (x, w) :: z) (a :: b :: c :: d :: e :: f :: g :: h :: i :: j :: k :: l :: m :: n :: o :: p :: q :: (x, some v) :: z) := .tail put16
theorem put18 : Put x v (a :: b :: c :: d :: e :: f :: g :: h :: i :: j :: k :: l :: m :: n :: o :: p :: q :: r :: (x, w) :: z) (a :: b :: c :: d :: e :: f :: g :: h :: i :: j :: k :: l :: m :: n :: o :: p :: q :: r :: (x, some v) :: z) := .tail put17
theorem put19 : Put x v (a :: b :: c :: d :: e :: f :: g :: h :: i :: j :: k :: l :: m :: n :: o :: p :: q :: r :: s :: (x, w) :: z) (a :: b :: c :: d :: e :: f :: g :: h :: i :: j :: k :: l :: m :: n :: o :: p :: q :: r :: s :: (x, some v) :: z) := .tail put18
theorem put20 : Put x v (a :: b :: c :: d :: e :: f :: g :: h :: i :: j :: k :: l :: m :: n :: o :: p :: q :: r :: s :: t :: (x, w) :: z) (a :: b :: c :: d :: e :: f :: g :: h :: i :: j :: k :: l :: m :: n :: o :: p :: q :: r :: s :: t :: (x, some v) :: z) := .tail put19
end
def EvI (al : AL) (e : PySem.Expr) (a : Int) : Prop := ∀ (prog : Program) (w : World) (A : Around) (E : Value → Shared → Prop) (K : Frag) (L : LT) (env : Env) (gl : List (Str × Value)) (m n : LT) (h : Heap) (g : Array GenState) (d : Drawn) (tk : Nat) (os : OsState) (Q : Value → Shared → Prop),
  St K L env gl al m n h → (∀ t tk', Q (.int a t) ⟨h, g, d, tk', os⟩) → wpAny (model prog w) A (eval e env) Q E ⟨h, g, d, tk, os⟩
section
variable {al : AL} {e f : PySem.Expr} {a b : Int} {x y : Str} {t u : Tok} {p p' p'' : Pos} {k : Nat}
theorem EvI.nm (hm : (x, some (.int a t)) ∈ al) (hd : (x == ("__debug__" : Str)) = false := by decide +kernel) : EvI al (.Name x p) a := fun _ _ _ _ _ _ _ _ _ _ _ _ _ _ _ _ S hq => S.ld hm (hq _ _) hd
theorem EvI.ct : EvI al (.Constant (.int a) k p) a := fun _ _ _ _ _ _ _ _ _ _ _ _ _ _ _ _ _ hq => cI hq
theorem EvI.add (h1 : EvI al e a) (h2 : EvI al f b) : EvI al (.BinOp e .Add f p) (a + b) := fun _ _ _ _ _ _ _ _ _ _ _ _ _ _ _ _ S hq =>
  wpAny_BinOp (h1 _ _ _ _ _ _ _ _ _ _ _ _ _ _ _ _ S fun _ _ => h2 _ _ _ _ _ _ _ _ _ _ _ _ _ _ _ _ S fun _ _ => addI hq)
theorem EvI.sub (h1 : EvI al e a) (h2 : EvI al f b) : EvI al (.BinOp e .Sub f p) (a - b) := fun _ _ _ _ _ _ _ _ _ _ _ _ _ _ _ _ S hq =>
  wpAny_BinOp (h1 _ _ _ _ _ _ _ _ _ _ _ _ _ _ _ _ S fun _ _ => h2 _ _ _ _ _ _ _ _ _ _ _ _ _ _ _ _ S fun _ _ => subI hq)
variable {prog : Program} {w : World} {A : Around} {E : Value → Shared → Prop} {h : Heap} {g : Array GenState} {d : Drawn} {tk : Nat} {os : OsState}
variable {K : Frag} {L : LT} {env : Env} {gl : List (Str × Value)} {m n : LT}
theorem evI {Q : Value → Shared → Prop} (S : St K L env gl al m n h) (he : EvI al e a) (hq : ∀ t tk', Q (.int a t) ⟨h, g, d, tk', os⟩) : wpAny (model prog w) A (eval e env) Q E ⟨h, g, d, tk, os⟩ := he _ _ _ _ _ _ _ _ _ _ _ _ _ _ _ _ S hq
theorem xAsgI {rest : List Stmt} {Q : Flow → Shared → Prop} {al' : Tok → AL} (S : St K L env gl al m n h) (he : EvI al e a) (U : ∀ t, Put x (.int a t) al (al' t)) (hq : ∀ t h' tk', St K L env gl (al' t) m n h' → wpAny (model prog w) A (execs rest env) Q E ⟨h', g, d, tk', os⟩)
    (hs : swapsWith e (some (.Name x p)) p'.line env = pure false := by rfl) : wpAny (model prog w) A (execs (.Assign [.Name x p] e p' :: rest) env) Q E ⟨h, g, d, tk, os⟩ :=
  xAssign (evI S he fun t _ => S.st (U t) (hq t)) hs
theorem xAugI {rest : List Stmt} {Q : Flow → Shared → Prop} {al' : Tok → AL} (S : St K L env gl al m n h) (hm : (x, some (.int b u)) ∈ al) (he : EvI al e a) (U : ∀ t, Put x (.int (b + a) t) al (al' t)) (hq : ∀ t h' tk', St K L env gl (al' t) m n h' → wpAny (model prog w) A (execs rest env) Q E ⟨h', g, d, tk', os⟩) :
    wpAny (model prog w) A (execs (.AugAssign (.Name x p) .Add e p' :: rest) env) Q E ⟨h, g, d, tk, os⟩ :=
  xAug (S.ldn hm (evI S he fun _ _ => iaddI fun t _ => S.st (U t) (hq t)))
def cmpI : CmpOp → Int → Int → Option Bool
  | .Lt, a, b => some (decide (a < b))
  | .Gt, a, b => some (decide (b < a))
  | .GtE, a, b => some (decide (b ≤ a))
  | .LtE, a, b => some (decide (a ≤ b))
  | .Eq, a, b => some (a == b)
  | .NotEq, a, b => some (a != b)
  | _, _, _ => none
theorem tCmp {Q : Bool → Shared → Prop} {op : CmpOp} {c : Bool} {s : Shared} (hc : cmpI op a b = some c) (hq : Q c s) : wpAny (model prog w) A (compareOp op (.int a t) (.int b u)) (fun c s₃ => wpAny (model prog w) A (truthy c) Q E s₃) E s := by
  cases op <;> cases hc
  · exact tEq hq
  · exact tNe hq
  · exact tLt hq
  · exact tLe hq
  · exact tGt hq
  · exact tGe hq
theorem nCmp {Q : Bool → Shared → Prop} {op : CmpOp} {c : Bool} (S : St K L env gl al m n h) (h1 : (x, some (.int a t)) ∈ al) (h2 : (y, some (.int b u)) ∈ al) (hc : cmpI op a b = some c) (hq : Q c ⟨h, g, d, tk, os⟩) (hm : behindInMarks op (.Name y p') = false := by with_unfolding_all rfl)
    (hd : (x == ("__debug__" : Str)) = false := by decide +kernel) (hd' : (y == ("__debug__" : Str)) = false := by decide +kernel) :
    wpAny (model prog w) A (isTrue (.Compare (.Name x p) [op] [.Name y p'] p'') env (eval (.Compare (.Name x p) [op] [.Name y p'] p'') env)) Q E ⟨h, g, d, tk, os⟩ := wpAny_isTrue_Compare1 (S.ld h1 (S.ld h2 (tCmp hc hq) hd') hd) (hm := hm)
theorem vCmp {Q : Bool → Shared → Prop} {op : CmpOp} {c : Bool} (S : St K L env gl al m n h) (h1 : EvI al e a) (h2 : EvI al f b) (hc : cmpI op a b = some c) (hq : ∀ tk', Q c ⟨h, g, d, tk', os⟩) (hm : behindInMarks op f = false := by with_unfolding_all rfl) :
    wpAny (model prog w) A (isTrue (.Compare e [op] [f] p'') env (eval (.Compare e [op] [f] p'') env)) Q E ⟨h, g, d, tk, os⟩ := wpAny_isTrue_Compare1 (evI S h1 fun _ _ => evI S h2 fun _ _ => tCmp hc (hq _)) (hm := hm)
end
end Mine
end
section
open PySem PySem.W PyProof.Rows PySem.Calls PyProof.V PySem.Spec PySem.SeqAt
set_option autoImplicit false
namespace Mine
theorem IntsAre.snoc {vs : List Value} {xs : List Int} {x : Int} {t : Tok} (h : IntsAre vs xs) : IntsAre (vs ++ [.int x t]) (xs ++ [x]) := IntsAre.append h (.cons _ _ .nil)
theorem ints_snoc : ∀ {xs : List Int} {vs : List Value} {x : Int}, IntsAre vs (xs ++ [x]) → ∃ us t, vs = us ++ [.int x t] ∧ IntsAre us xs
  | [], _, _, .cons _ t .nil => ⟨[], t, rfl, .nil⟩
  | _ :: r, _, _, .cons k t h => by
    obtain ⟨us, u, rfl, h'⟩ := ints_snoc h
    exact ⟨_ :: us, u, rfl, .cons k t h'⟩
theorem ints_erase : ∀ {vs : List Value} {xs : List Int} {k : Int}, IntsAre vs xs → k ∈ xs → ∃ j, j < vs.length ∧ (∀ (h : j < vs.length), isInt k vs[j] = true) ∧ (∀ i (h : i < vs.length), i < j → isInt k vs[i] = false) ∧ IntsAre (vs.eraseIdx j) (xs.erase k)
  | _, _, _, .nil, hm => by cases hm
  | _, _, k, .cons (vs := vs) (ns := ns) y t r, hm => by
    by_cases e : y = k
    · subst e
      refine ⟨0, by simp, fun _ => by simp [isInt], fun i _ hi => by lia  , ?_⟩
      rw [List.erase_cons_head]; exact r
    · have hm' : k ∈ ns := by rcases List.mem_cons.mp hm with q | q; exact absurd q.symm e; exact q
      obtain ⟨j, h1, h2, h3, h4⟩ := ints_erase r hm'
      refine ⟨j + 1, by simp; lia  , fun _ => h2 h1, fun i hi hlt => ?_, ?_⟩
      · cases i with
        | zero => simp [isInt, e]
        | succ i => exact h3 i (by simp at hi; lia  ) (by lia  )
      · rw [List.erase_cons_tail (by simp [e])]
        exact .cons _ _ h4
theorem ints_none : ∀ {vs : List Value} {xs : List Int} {k : Int}, IntsAre vs xs → k ∉ xs → ∀ i (h : i < vs.length), isInt k vs[i] = false
  | _, _, _, .nil, _, i, h => by simp at h
  | _, _, k, .cons y t r, hm, i, h => by
    rw [List.mem_cons, not_or] at hm
    cases i with
    | zero => simp [isInt]; exact fun e => hm.1 e.symm
    | succ i => exact ints_none r hm.2 i (by simp at h; lia  )
theorem eqGives_int {vs : List Value} {xs : List Int} (hi : IntsAre vs xs) (k : Int) (t : Tok) : ∀ y, y ∈ vs.toArray → MeetsSeq.EqGives y (.int k t) (isInt k y) := fun y hy => eq_isInt k t hi y (by simpa using hy)

section
variable {prog : Program} {w : World} {A : Around} {E : Value → Shared → Prop} {h : Heap} {g : Array GenState} {d : Drawn} {tk : Nat} {os : OsState}
variable {K : Frag} {L : LT} {h₁ : Heap} {env : Env} {gl : List (Str × Value)} {al al' : AL} {m m' n n' : LT} {x : Str} {v : Value} {pos : Pos} {a b : Addr} {P P' : OP}

theorem methL {Q : Value → Shared → Prop} {o e : PySem.Expr} {y : Str} {ap pos : Pos} {r : List PySem.Expr} {id : String} (slot : Slot "list" y id) (hty : typeOf (.builtin id) = pure (.type "method_descriptor"))
    (hq : wpAny (model prog w) A (eval o env) (fun ov s₁ => (s₁.TypeIs ov "list" ∧ (∀ a, ov = .ref a → ∃ ob, s₁.heap.get? a = some ob ∧ ob.dict = none)) ∧
      wpAny (model prog w) A (spliced (backTo pos (starEach (e :: r) env))) (fun vs s₂ => wpAny (model prog w) A (call (.builtin id) (ov :: vs)) Q E s₂) E s₁) E ⟨h, g, d, tk, os⟩)
    (hbase : attributeBase o y env (eval o env) = eval o env := by rfl)
    (hfew : ((backTo pos (starEach (e :: r) env)).all (fun x => !x.1) && (backToKw pos (keywordEach [] env)).all (fun x => x.1.isSome)
      && decide ((e :: r).length + ([] : List Keyword).length + (if ([] : List Keyword).isEmpty then 0 else 1) < 30)) = true := by rfl)
    (hline : (ap.endLine == pos.line) = true := by rfl) (he : starEach (e :: r) env = (false, eval e env) :: starEach r env := by rfl) (hplain : (backTo pos (starEach r env)).any (·.1) = false := by rfl) :
    wpAny (model prog w) A (eval (.Call (.Attribute o y ap) (e :: r) [] pos) env) Q E ⟨h, g, d, tk, os⟩ :=
  wpAny_Call_method hbase hfew hline PySem.F.plainAttrs_list slot hty (wpAny_mono hq (fun ov s₁ h₁ => ⟨h₁.1.1, h₁.1.2, by
    have h2 := h₁.2
    rw [he] at h2 ⊢
    exact callWith_builtin (by show (false || (backTo pos (starEach r env)).any (·.1)) = false; rw [hplain]; rfl) (evalArgs_plain h2)⟩) fun _ _ x => x)
theorem methL0 {Q : Value → Shared → Prop} {o : PySem.Expr} {y : Str} {ap pos : Pos} {id : String} (slot : Slot "list" y id) (hty : typeOf (.builtin id) = pure (.type "method_descriptor"))
    (hq : wpAny (model prog w) A (eval o env) (fun ov s₁ => (s₁.TypeIs ov "list" ∧ (∀ a, ov = .ref a → ∃ ob, s₁.heap.get? a = some ob ∧ ob.dict = none)) ∧ wpAny (model prog w) A (call (.builtin id) [ov]) Q E s₁) E ⟨h, g, d, tk, os⟩)
    (hbase : attributeBase o y env (eval o env) = eval o env := by rfl)
    (hline : (ap.endLine == pos.line) = true := by rfl) :
    wpAny (model prog w) A (eval (.Call (.Attribute o y ap) [] [] pos) env) Q E ⟨h, g, d, tk, os⟩ :=
  wpAny_Call_method hbase (by rfl) hline PySem.F.plainAttrs_list slot hty (wpAny_mono hq (fun ov s₁ h₁ => ⟨h₁.1.1, h₁.1.2, callWith_builtin (by rfl) (evalArgs_nil3 h₁.2)⟩) fun _ _ x => x)
theorem St.lst {vs : List Value} (S : St K L env gl al m n h) (hm : (a, ListP vs) ∈ m ++ (n ++ L)) : (⟨h, g, d, tk, os⟩ : Shared).TypeIs (.ref a) "list" ∧ (∀ b, Value.ref a = .ref b → ∃ ob, h.get? b = some ob ∧ ob.dict = none) := by
  obtain ⟨_, ho, k, rfl⟩ := S.get hm
  exact ⟨⟨_, ho, rfl⟩, fun b e => by cases e; exact ⟨_, ho, rfl⟩⟩
theorem St.lstI {xs : List Int} (S : St K L env gl al m n h) (hm : (a, IntsP xs) ∈ m ++ (n ++ L)) : (⟨h, g, d, tk, os⟩ : Shared).TypeIs (.ref a) "list" ∧ (∀ b, Value.ref a = .ref b → ∃ ob, h.get? b = some ob ∧ ob.dict = none) := by
  obtain ⟨_, ho, vs, _, k, rfl⟩ := S.get hm
  exact ⟨⟨_, ho, rfl⟩, fun b e => by cases e; exact ⟨_, ho, rfl⟩⟩

theorem popV {vs : List Value} {y : Value} {Q : Value → Shared → Prop} (S : St K L env gl al m n h) (hm : (a, ListP (vs ++ [y])) ∈ m) (U : Up a (ListP vs) m m') (hsz : vs.length ≤ 1000)
    (hq : ∀ h', St K L env gl al m' n h' → Q y ⟨h', g, d, tk, os⟩) : wpAny (model prog w) A (call (.builtin "list.pop") [.ref a]) Q E ⟨h, g, d, tk, os⟩ := by
  obtain ⟨_, ho, k, rfl⟩ := S.get (List.mem_append_left _ hm)
  have hk : (vs ++ [y]).toArray.size - 1 = vs.length := by rw [List.size_toArray, List.length_append]; rfl
  have hy : (vs ++ [y]).toArray[(vs ++ [y]).toArray.size - 1]? = some y := by rw [hk]; simp
  refine call_meets PySem.F.slot_list_pop ⟨_, ho, rfl⟩ PySem.F.entry_list_pop (PySem.F.args_list_pop_1 _) (PySem.MeetsSeq.list_pop_last a _ k y hy (fits (by simp; lia  ))) ⟨ho, hq _ (S.up U (fun b o hb e => (Heap.get?_update_ne _ _ _ _ hb).trans e) ⟨_, Heap.get?_update_self _ ho rfl, ?_⟩)⟩
  have e : (vs ++ [y]).toArray.eraseIdxIfInBounds ((vs ++ [y]).toArray.size - 1) = vs.toArray := by
    rw [hk]
    apply Array.toList_inj.mp
    simp [List.eraseIdx_append_of_length_le]
  simp only [Obj.mapSeq, e]
  exact ⟨_, rfl⟩
theorem popI {xs : List Int} {y : Int} {Q : Value → Shared → Prop} (S : St K L env gl al m n h) (hm : (a, IntsP (xs ++ [y])) ∈ m) (U : Up a (IntsP xs) m m') (hsz : xs.length ≤ 1000)
    (hq : ∀ t h', St K L env gl al m' n h' → Q (.int y t) ⟨h', g, d, tk, os⟩) : wpAny (model prog w) A (call (.builtin "list.pop") [.ref a]) Q E ⟨h, g, d, tk, os⟩ := by
  obtain ⟨_, ho, vs, hi, k, rfl⟩ := S.get (List.mem_append_left _ hm)
  obtain ⟨us, t, rfl, hi'⟩ := ints_snoc hi
  have hl := hi'.length
  have hk : (us ++ [Value.int y t]).toArray.size - 1 = us.length := by rw [List.size_toArray, List.length_append]; rfl
  have hy : (us ++ [Value.int y t]).toArray[(us ++ [Value.int y t]).toArray.size - 1]? = some (.int y t) := by rw [hk]; simp
  refine call_meets PySem.F.slot_list_pop ⟨_, ho, rfl⟩ PySem.F.entry_list_pop (PySem.F.args_list_pop_1 _) (PySem.MeetsSeq.list_pop_last a _ k _ hy (fits (by simp; lia  ))) ⟨ho, hq _ _ (S.up U (fun b o hb e => (Heap.get?_update_ne _ _ _ _ hb).trans e) ⟨_, Heap.get?_update_self _ ho rfl, ?_⟩)⟩
  have e : (us ++ [Value.int y t]).toArray.eraseIdxIfInBounds ((us ++ [Value.int y t]).toArray.size - 1) = us.toArray := by
    rw [hk]
    apply Array.toList_inj.mp
    simp [List.eraseIdx_append_of_length_le]
  simp only [Obj.mapSeq, e]
  exact ⟨us, hi', _, rfl⟩
theorem appendI {xs : List Int} {y : Int} {t : Tok} {Q : Value → Shared → Prop} (S : St K L env gl al m n h) (hm : (a, IntsP xs) ∈ m) (U : Up a (IntsP (xs ++ [y])) m m') (hsz : xs.length ≤ 1000)
    (hq : ∀ h', St K L env gl al m' n h' → Q .none ⟨h', g, d, tk, os⟩) : wpAny (model prog w) A (call (.builtin "list.append") [.ref a, .int y t]) Q E ⟨h, g, d, tk, os⟩ := by
  obtain ⟨_, ho, vs, hi, k, rfl⟩ := S.get (List.mem_append_left _ hm)
  have hl := hi.length
  refine append_at ho (fun h' hs ho' => hq h' (S.up U (fun b o hb e => (hs.2 b hb).trans e) ⟨_, ho', vs ++ [.int y t], IntsAre.snoc hi, k + 1, ?_⟩)) (fits (by simp; lia  ))
  rw [List.push_toArray]
theorem removeI {xs : List Int} {y : Int} {t : Tok} {Q : Value → Shared → Prop} (S : St K L env gl al m n h) (hm : (a, IntsP xs) ∈ m) (hy : y ∈ xs) (U : Up a (IntsP (xs.erase y)) m m') (hsz : xs.length ≤ 1000)
    (hq : ∀ h', St K L env gl al m' n h' → Q .none ⟨h', g, d, tk, os⟩) : wpAny (model prog w) A (call (.builtin "list.remove") [.ref a, .int y t]) Q E ⟨h, g, d, tk, os⟩ := by
  obtain ⟨_, ho, vs, hi, k, rfl⟩ := S.get (List.mem_append_left _ hm)
  have hl := hi.length
  obtain ⟨j, j1, j2, j3, j4⟩ := ints_erase hi hy
  refine call_meets PySem.F.slot_list_remove ⟨_, ho, rfl⟩ PySem.F.entry_list_remove (PySem.F.args_list_remove_2 _ _)
    (MeetsSeq.list_remove a vs.toArray k (.int y t) (isInt y) (eqGives_int hi y t) j (by simpa using j1) (by simpa using j2 j1) (fun i hi hlt => by simpa using j3 i (by simpa using hi) hlt) (fits (by simp; lia  )))
    ⟨ho, hq _ (S.up U (fun b o hb e => (Heap.get?_update_ne _ _ _ _ hb).trans e) ⟨_, Heap.get?_update_self _ ho rfl, vs.eraseIdx j, j4, ?_⟩)⟩
  have e : vs.toArray.eraseIdxIfInBounds j = (vs.eraseIdx j).toArray := by
    apply Array.toList_inj.mp
    simp
  simp only [Obj.mapSeq, e]
  exact ⟨_, rfl⟩
theorem countI {xs : List Int} {y : Int} {t : Tok} {Q : Value → Shared → Prop} (S : St K L env gl al m n h) (hm : (a, IntsP xs) ∈ m ++ (n ++ L))
    (hq : ∀ t tk', Q (.int (xs.count y : Nat) t) ⟨h, g, d, tk', os⟩) : wpAny (model prog w) A (call (.builtin "list.count") [.ref a, .int y t]) Q E ⟨h, g, d, tk, os⟩ := by
  obtain ⟨vs, hi, hl⟩ := S.isInts hm
  exact count_list_ints hl hi (hq _ _)
theorem gVal {Q : Value → Shared → Prop} {value slice : PySem.Expr} {vs : List Value} {k : Int} {t : Tok} {y : Value} (S : St K L env gl al m n h) (hm : (a, ListP vs) ∈ m ++ (n ++ L))
    (h0 : 0 ≤ k) (hfit : k < 2 ^ 63) (hy : vs[k.toNat]? = some y) (hq : Q y ⟨h, g, d, tk, os⟩)
    (hs : subscripted slice false (.ref a) (.int k t) = operate [.ref a, .int k t] (getItem (.ref a) (.int k t)) := by with_unfolding_all rfl) :
    wpAny (model prog w) A (subscriptTail value slice (.ref a) (.int k t)) Q E ⟨h, g, d, tk, os⟩ := by
  have hl := S.isList hm
  exact tail_any hl.typeIs slot_list_getitem.lookup (wpAny_getItem_list hl h0 hfit (by rw [List.getElem?_toArray]; exact hy) hq) hs
theorem lenV {vs : List Value} {Q : Value → Shared → Prop} (S : St K L env gl al m n h) (hm : (a, ListP vs) ∈ m ++ (n ++ L)) (hfit : (vs.length : Int) < 2 ^ 63)
    (hq : ∀ t tk', Q (.int vs.length t) ⟨h, g, d, tk', os⟩) : wpAny (model prog w) A (call (.builtin "len") [.ref a]) Q E ⟨h, g, d, tk, os⟩ := by
  have hl := S.isList hm
  have e' : (vs.toArray.size : Int) = vs.length := by rw [List.size_toArray]
  exact call_len_list hl (e'.symm ▸ hfit) (e'.symm ▸ hq _ _)
theorem sc_at : ∀ {vs : List Value} {r : List Sc} {k : Nat} {c : Sc}, ScAre vs r → r[k]? = some c → ∃ y, vs[k]? = some y ∧ ScAre [y] [c]
  | _, _, 0, _, .int n t _, e => by cases e; exact ⟨_, rfl, .int _ _ .nil⟩
  | _, _, 0, _, .str n t _, e => by cases e; exact ⟨_, rfl, .str _ _ .nil⟩
  | _, _, k + 1, _, .int _ _ r, e => sc_at (k := k) r e
  | _, _, k + 1, _, .str _ _ r, e => sc_at (k := k) r e
theorem sc3 {vs : List Value} {a b c : Int} (x : ScAre vs [.i a, .i b, .i c]) : ∃ t u w, vs = [.int a t, .int b u, .int c w] := by
  obtain ⟨t0, v0, rfl, x1⟩ := x.un
  obtain ⟨t1, v1, rfl, x2⟩ := x1.un
  obtain ⟨t2, v2, rfl, x3⟩ := x2.un
  rw [x3.un0]
  exact ⟨t0, t1, t2, rfl⟩
theorem sc1 {y : Value} {a : Int} (x : ScAre [y] [.i a]) : ∃ t, y = .int a t := by cases x; exact ⟨_, rfl⟩
theorem gRow {Q : Value → Shared → Prop} {value slice : PySem.Expr} {r : List Sc} {k : Nat} {t : Tok} {c : Sc} (S : St K L env gl al m n h) (hm : (a, RowP (.type "tuple") r) ∈ m ++ (n ++ L))
    (hk : r[k]? = some c) (hl : r.length ≤ 100) (hq : ∀ y, ScAre [y] [c] → Q y ⟨h, g, d, tk, os⟩)
    (hs : subscripted slice false (.ref a) (.int k t) = operate [.ref a, .int k t] (getItem (.ref a) (.int k t)) := by with_unfolding_all rfl) :
    wpAny (model prog w) A (subscriptTail value slice (.ref a) (.int k t)) Q E ⟨h, g, d, tk, os⟩ := by
  obtain ⟨_, ho, vs, q, hv, hcl, hdt⟩ := S.get hm
  obtain ⟨y, hy, hc⟩ := sc_at hv hk
  have hlt : k < r.length := by rcases List.getElem?_eq_some_iff.mp hk with ⟨z, _⟩; exact z
  have hll := hv.length
  refine item_tupleT (l := vs) ⟨_, ho, hcl, q, hdt⟩ (by lia  ) (by lia  ) (j := k) ?_ hy (hq y hc) hs
  unfold seqIndex?
  have : (k : Int) < vs.length := by lia  
  simp
  lia  

def scD : Sc → PyData
  | .i n => .int n
  | .s y => .str y
def rowD (r : List Sc) : PyData := .tuple (r.map scD)
theorem sc_reads {hp : Heap} : ∀ {vs : List Value} {r : List Sc}, ScAre vs r → ReadsAll hp vs (r.map scD) []
  | _, _, .nil => .nil
  | _, _, .int k t r => ReadsAll.cons (as := []) (bs := []) (Reads.int (h := hp) k t) (sc_reads (hp := hp) r)
  | _, _, .str k t r => ReadsAll.cons (as := []) (bs := []) (Reads.str (h := hp) k t) (sc_reads (hp := hp) r)
theorem St.readRow {r : List Sc} (S : St K L env gl al m n h) (hm : (a, RowP (.type "tuple") r) ∈ m ++ (n ++ L)) : Reads h (.ref a) (rowD r) [] := by
  obtain ⟨_, ho, vs, q, hv, hcl, hdt⟩ := S.get hm
  exact Reads.tuple ho hcl hdt (by simpa using sc_reads hv)
theorem St.readRows (S : St K L env gl al m n h) : ∀ {vs : List Value} {rs : List (List Sc)}, RowsIn (.type "tuple") (m ++ (n ++ L)) vs rs → ReadsAll h vs (rs.map rowD) []
  | _, _, .nil => .nil
  | _, _, .cons hm x => by simpa using ReadsAll.cons (S.readRow hm) (S.readRows x)
theorem St.readList {vs : List Value} {rs : List (List Sc)} (S : St K L env gl al m n h) (hm : (a, ListP vs) ∈ m ++ (n ++ L)) (x : RowsIn (.type "tuple") (m ++ (n ++ L)) vs rs) : Reads h (.ref a) (.list (rs.map rowD)) [a] := by
  obtain ⟨_, ho, q, rfl⟩ := S.get hm
  exact Reads.list ho rfl rfl (by simpa using S.readRows x)
def scOk : Sc → Bool
  | .i _ => true
  | .s y => PyData.strOk y
theorem lay_row : ∀ {r : List Sc}, (r.all scOk) = true → PyData.canLayAll0 (r.map scD) = true
  | [], _ => by simp [PyData.canLayAll0]
  | .i n :: r, h => by simp only [List.all_cons, Bool.and_eq_true] at h; simp [PyData.canLayAll0, scD, PyData.canLay0, lay_row h.2]
  | .s n :: r, h => by
    simp only [List.all_cons, Bool.and_eq_true] at h
    have h1 : PyData.strOk n = true := h.1
    simp [PyData.canLayAll0, scD, PyData.canLay0, lay_row h.2, h1]
theorem dep_row : ∀ (r : List Sc), PyData.depthAll (r.map scD) ≤ 1
  | [] => by simp [PyData.depthAll]
  | .i n :: r => by have := dep_row r; simp only [List.map_cons, PyData.depthAll, scD, PyData.depth]; lia  
  | .s n :: r => by have := dep_row r; simp only [List.map_cons, PyData.depthAll, scD, PyData.depth]; lia  
theorem shaped_row {r : List Sc} (h : (r.all scOk) = true) : shaped (rowD r) = true := by
  have h1 := dep_row r
  have h2 : PyData.depth (rowD r) ≤ 64 := by simp only [rowD, PyData.depth]; lia  
  show ((rowD r).canLay0 && decide ((rowD r).depth ≤ 64)) = true
  rw [Bool.and_eq_true]
  exact ⟨by simp only [rowD, PyData.canLay0]; exact lay_row h, decide_eq_true h2⟩
theorem lay_rows : ∀ {rs : List (List Sc)}, (rs.all (·.all scOk)) = true → PyData.canLayAll0 (rs.map rowD) = true
  | [], _ => by simp [PyData.canLayAll0]
  | r :: rs, h => by
    simp only [List.all_cons, Bool.and_eq_true] at h
    simp [PyData.canLayAll0, rowD, PyData.canLay0, lay_row h.1]
    exact lay_rows h.2
theorem dep_rows : ∀ (rs : List (List Sc)), PyData.depthAll (rs.map rowD) ≤ 3
  | [] => by simp [PyData.depthAll]
  | r :: rs => by have h1 := dep_rows rs; have h2 := dep_row r; simp only [List.map_cons, PyData.depthAll, rowD, PyData.depth]; lia  
theorem shaped_rows {rs : List (List Sc)} (h : (rs.all (·.all scOk)) = true) : shaped (.list (rs.map rowD)) = true := by
  have h1 := dep_rows rs
  have h2 : PyData.depth (.list (rs.map rowD)) ≤ 64 := by simp only [PyData.depth]; lia  
  show ((PyData.list (rs.map rowD)).canLay0 && decide ((PyData.list (rs.map rowD)).depth ≤ 64)) = true
  rw [Bool.and_eq_true]
  exact ⟨by simp only [PyData.canLay0]; exact lay_rows h, decide_eq_true h2⟩
theorem mix_row : ∀ (r q : List Sc), noMixAll (r.map scD) (q.map scD) = true
  | [], [] => by simp [noMixAll]
  | [], _ :: _ => by simp [noMixAll]
  | _ :: _, [] => by simp [noMixAll]
  | .i _ :: r, .i _ :: q => by simp [noMixAll, noMix, scD, mix_row r q]
  | .i _ :: r, .s _ :: q => by simp [noMixAll, noMix, scD, mix_row r q]
  | .s _ :: r, .i _ :: q => by simp [noMixAll, noMix, scD, mix_row r q]
  | .s _ :: r, .s _ :: q => by simp [noMixAll, noMix, scD, mix_row r q]
theorem mix_rows : ∀ (r q : List (List Sc)), noMixAll (r.map rowD) (q.map rowD) = true
  | [], [] => by simp [noMixAll]
  | [], _ :: _ => by simp [noMixAll]
  | _ :: _, [] => by simp [noMixAll]
  | r :: rs, q :: qs => by simp [noMixAll, noMix, rowD, mix_row r q]; exact mix_rows rs qs
theorem neRows {vs us : List Value} {rs qs : List (List Sc)} {Q : Value → Shared → Prop} (S : St K L env gl al m n h) (h1 : (a, ListP vs) ∈ m ++ (n ++ L)) (x1 : RowsIn (.type "tuple") (m ++ (n ++ L)) vs rs) (h2 : (b, ListP us) ∈ m ++ (n ++ L))
    (x2 : RowsIn (.type "tuple") (m ++ (n ++ L)) us qs) (o1 : (rs.all (·.all scOk)) = true) (o2 : (qs.all (·.all scOk)) = true) (hu : A.units + 64 < cLine) (e : rs = qs) (hq : Q (.bool false) ⟨h, g, d, tk, os⟩) :
    wpAny (model prog w) A (compareOp .NotEq (.ref a) (.ref b)) Q E ⟨h, g, d, tk, os⟩ := by
  subst e
  exact ne_dataH_same (S.readList h1 x1) (S.readList h2 x2) (shaped_rows o1) (shaped_rows o2) hu (by simp only [noMix]; exact mix_rows _ _) (by rw [PyProof.Rows.same_refl]; exact hq)
theorem eqNil {vs us : List Value} {rs : List (List Sc)} {Q : Value → Shared → Prop} (S : St K L env gl al m n h) (h1 : (a, ListP vs) ∈ m ++ (n ++ L)) (x1 : RowsIn (.type "tuple") (m ++ (n ++ L)) vs rs) (h2 : (b, ListP []) ∈ m ++ (n ++ L))
    (o1 : (rs.all (·.all scOk)) = true) (hu : A.units + 64 < cLine) (hq : Q (.bool (decide (rs = []))) ⟨h, g, d, tk, os⟩) :
    wpAny (model prog w) A (compareOp .Eq (.ref a) (.ref b)) Q E ⟨h, g, d, tk, os⟩ := by
  refine eq_dataH_same (S.readList h1 x1) (S.readList h2 .nil) (shaped_rows o1) (shaped_rows rfl) hu (by simp only [noMix]; exact mix_rows _ _) ?_
  have : PySem.Spec.same (.list (rs.map rowD)) (.list (([] : List (List Sc)).map rowD)) = decide (rs = []) := by cases rs <;> simp [PySem.Spec.same, PySem.Spec.sameAll]
  rw [this]; exact hq
theorem nePair {p q p' q' : Int} {Q : Value → Shared → Prop} (S : St K L env gl al m n h) (h1 : (a, RowP (.type "tuple") [.i p, .i q]) ∈ m ++ (n ++ L)) (h2 : (b, RowP (.type "tuple") [.i p', .i q']) ∈ m ++ (n ++ L)) (hu : A.units + 64 < cLine)
    (hq : Q (.bool (!decide (p = p' ∧ q = q'))) ⟨h, g, d, tk, os⟩) : wpAny (model prog w) A (compareOp .NotEq (.ref a) (.ref b)) Q E ⟨h, g, d, tk, os⟩ := by
  refine ne_dataH_same (S.readRow h1) (S.readRow h2) (shaped_row rfl) (shaped_row rfl) hu (by simp only [noMix, rowD]; exact mix_row _ _) ?_
  have : PySem.Spec.same (rowD [.i p, .i q]) (rowD [.i p', .i q']) = decide (p = p' ∧ q = q') := by
    simp only [rowD, List.map_cons, List.map_nil, scD, PySem.Spec.same, PySem.Spec.sameAll, Bool.and_true]
    by_cases h1 : p = p' <;> by_cases h2 : q = q' <;> simp [h1, h2]
  rw [this]; exact hq
end
end Mine
end
section
open PySem PySem.W PyProof.Rows PySem.Calls PyProof.V PySem.Spec PySem.SeqAt
set_option autoImplicit false
namespace Mine
def EnumP (it : Addr) (i : Int) : OP := fun o => ∃ old, o = { cls := .type "enumerate", dict := none, data := .fields #[.none, .bool false, .ref it, rawInt i, .none, old], slots := #[] }
section
variable {prog : Program} {w : World} {A : Around} {E : Value → Shared → Prop} {h : Heap} {g : Array GenState} {d : Drawn} {tk : Nat} {os : OsState}
variable {K : Frag} {L : LT} {h₁ : Heap} {env : Env} {gl : List (Str × Value)} {al al' : AL} {m m' n n' : LT} {x : Str} {v : Value} {pos : Pos} {a b : Addr} {P P' : OP}

theorem St.up2 {P1 P2 P1' P2' : OP} {h' : Heap} (S : St K L env gl al ((a, P1) :: (b, P2) :: m) n h) (hs : ∀ c o, c ≠ a → c ≠ b → h.get? c = some o → h'.get? c = some o) (ha : ∃ o, h'.get? a = some o ∧ P1' o) (hb : ∃ o, h'.get? b = some o ∧ P2' o) :
    St K L env gl al ((a, P1') :: (b, P2') :: m) n h' := by
  have nd := S.led.nd
  refine ⟨⟨fun p hp => ?_, nd⟩, S.env⟩
  have nd' : ((env.locals, FrP al) :: (a, P1) :: (b, P2) :: (m ++ (n ++ L))).map (·.1) |>.Nodup := nd
  simp only [List.map_cons, List.nodup_cons, List.mem_cons, not_or] at nd'
  rcases List.mem_cons.mp hp with rfl | hp
  · obtain ⟨o, e, q⟩ := S.led.at_ _ (.head _)
    exact ⟨o, hs _ _ nd'.1.1 nd'.1.2.1 e, q⟩
  · rcases List.mem_cons.mp hp with rfl | hp
    · exact ha
    · rcases List.mem_cons.mp hp with rfl | hp
      · exact hb
      · have hm : p.1 ∈ (m ++ (n ++ L)).map (·.1) := List.mem_map_of_mem (f := (·.1)) hp
        obtain ⟨o, e, q⟩ := S.led.at_ p (.tail _ (.tail _ (.tail _ hp)))
        exact ⟨o, hs _ _ (fun e => nd'.2.1.2 (e ▸ hm)) (fun e => nd'.2.2.1 (e ▸ hm)) e, q⟩
theorem St.ends {h' : Heap} {p : Addr × OP} (S : St K L env gl al (p :: (b, P) :: m) n h) (hx : Heap.ExtBut b h h') : St K L env gl al m n h' := by
  have S' : St K L env gl al ((b, P) :: m) n h := S.drop
  exact S'.end hx

theorem forList {N : Shared → Prop} {Q : Flow → Shared → Prop} {X : Value → Shared → Prop} {target : PySem.Expr} {body : List Stmt} {l it : Addr} {len : Nat} (I : Nat → AL → LT → LT → Prop) (V : Nat → Value → Prop) (hh : A.handled = none)
    (S : St K L env gl al ((it, LIterP l 0) :: m) n h) (i0 : I 0 al m n)
    (hl : ∀ i al m n h p, I i al m n → St K L env gl al (p :: m) n h → ∃ vs : List Value, h.IsList l vs.toArray ∧ vs.length = len ∧ ∀ x, vs[i]? = some x → V i x)
    (turn : ∀ i al m n h tk p E x Q', i < len → V i x → I i al m n → (∀ al m n h tk, I (i + 1) al m n → St K L env gl al (p :: m) n h → Q' .next ⟨h, g, d, tk, os⟩ ∧ Q' .cont ⟨h, g, d, tk, os⟩) → (∀ s, N s → Q' .brk s) → (∀ v s, Q (.ret v) s → Q' (.ret v) s) →
      St K L env gl al (p :: m) n h → wpAny (model prog w) A (assign target env x) (fun _ s₂ => wpAny (model prog w) A (execs body env) Q' E s₂) E ⟨h, g, d, tk, os⟩)
    (done : ∀ al m n h tk, I len al m n → St K L env gl al m n h → N ⟨h, g, d, tk, os⟩)
    (ht : ∀ v, letOwnedTupleGo target (.ref it) v = pure () := by intro _; with_unfolding_all rfl) : codeAny (model prog w) A (.forLoop target (.ref it) body [] env) (LoopR N Q X) ⟨h, g, d, tk, os⟩ := by
  refine codeAny_forLoop (LI K L env gl g d os len (fun i m => (it, LIterP l i) :: m) I) (fun k s hs => ?_) len
    ⟨0, al, m, n, h, tk, rfl, Nat.zero_le _, rfl, S, i0⟩ ht
  obtain ⟨i, al, m, n, h, tk, rfl, h2, rfl, S, i0⟩ := hs
  obtain ⟨o, ho, hc, hd⟩ := S.get (.head _)
  obtain ⟨vs, hvs, hlen, hV⟩ := hl i al m n h _ i0 S
  by_cases hi' : i < len
  · obtain ⟨x, hx⟩ : ∃ x, vs[i]? = some x := ⟨_, List.getElem?_eq_getElem (by lia  )⟩
    refine wpAny_pyNext_list_item ⟨o, ho, hc, hd⟩ hvs (by rw [List.getElem?_toArray]; exact hx) fun h' h3 h4 => ?_
    have S' : St K L env gl al ((it, LIterP l (i + 1)) :: m) n h' := S.up .head (fun b o hb e => (h4.2 b hb).trans e) (by obtain ⟨o, a, b, c⟩ := h3; exact ⟨o, a, b, c⟩)
    refine wpAny_mono (turn i al m n h' _ _ _ x (LoopB (LI K L env gl g d os len (fun i m => (it, LIterP l i) :: m) I (len - (i + 1))) N Q) hi' (hV x hx) i0 (fun al m n h tk i1 S => have j : LI K L env gl g d os len (fun i m => (it, LIterP l i) :: m) I (len - (i + 1)) ⟨h, g, d, tk, os⟩ := ⟨i + 1, al, m, n, h, tk, rfl, hi', rfl, S, i1⟩; ⟨j, j⟩) (fun _ x => x) (fun _ _ x => x) S') (fun _ s₂ h₂ => wpAny_mono h₂ (fun f s₃ h₃ => ?_) fun _ _ x => x) fun _ _ x => x
    have lt : len - (i + 1) < len - i := by lia  
    cases f with
    | next => exact ⟨_, lt, h₃⟩
    | cont => exact ⟨_, lt, h₃⟩
    | brk => exact h₃
    | ret v => exact h₃
  · refine wpAny_pyNext_list_end hh ⟨o, ho, hc, hd⟩ hvs (by rw [List.getElem?_toArray]; exact List.getElem?_eq_none (by lia  )) fun h' hx => ?_
    have e : i = len := by lia  
    subst e
    exact wpAny_execs_nil (done _ _ _ _ _ i0 (S.end hx))
theorem forEnum {N : Shared → Prop} {Q : Flow → Shared → Prop} {X : Value → Shared → Prop} {elts : List PySem.Expr} {x1 : Nat} {tp : Pos} {body : List Stmt} {l e it : Addr} {len : Nat} (I : Nat → AL → LT → LT → Prop) (V : Nat → AL → LT → LT → Value → Prop) (hh : A.handled = none)
    (S : St K L env gl al ((e, EnumP it 0) :: (it, LIterP l 0) :: m) n h) (i0 : I 0 al m n)
    (h2 : (assignEach elts env).length = 2) (hstar : (assignEach elts env).findIdx? (·.1) = none)
    (hl : ∀ i al m n h p q, I i al m n → St K L env gl al (p :: q :: m) n h → ∃ vs : List Value, h.IsList l vs.toArray ∧ vs.length = len ∧ ∀ x, vs[i]? = some x → V i al m n x)
    (turn : ∀ i al m n h tk t p q E x Q', i < len → V i al m n x → I i al m n → (∀ al m n h tk, I (i + 1) al m n → St K L env gl al (p :: q :: m) n h → Q' .next ⟨h, g, d, tk, os⟩ ∧ Q' .cont ⟨h, g, d, tk, os⟩) → (∀ s, N s → Q' .brk s) → (∀ v s, Q (.ret v) s → Q' (.ret v) s) →
      St K L env gl al (p :: q :: m) n h → wpAny (model prog w) A (assignInOrder ((assignEach elts env).map (·.2)) [.int (i : Nat) t, x]) (fun _ s₂ => wpAny (model prog w) A (execs body env) Q' E s₂) E ⟨h, g, d, tk, os⟩)
    (done : ∀ al m n h tk, I len al m n → St K L env gl al m n h → N ⟨h, g, d, tk, os⟩) : codeAny (model prog w) A (.forLoop (.Tuple elts x1 tp) (.ref e) body [] env) (LoopR N Q X) ⟨h, g, d, tk, os⟩ := by
  refine codeAny_forLoop_any (LI K L env gl g d os len (fun i m => (e, EnumP it (i : Nat)) :: (it, LIterP l i) :: m) I) (fun k s hs => ?_) len
    ⟨0, al, m, n, h, tk, rfl, Nat.zero_le _, rfl, S, i0⟩
  obtain ⟨i, al, m, n, h, tk, rfl, hle, rfl, S, i0⟩ := hs
  obtain ⟨_, he, old, rfl⟩ := S.get (.head _)
  obtain ⟨o, ho, hc, hd⟩ := S.get (.tail _ (.head _))
  obtain ⟨vs, hvs, hlen, hV⟩ := hl i al m n h _ _ i0 S
  have hei : e ≠ it := fun q => by
    subst q
    rw [he] at ho
    cases ho
    simp at hc
  by_cases hi' : i < len
  · obtain ⟨x, hx⟩ : ∃ x, vs[i]? = some x := ⟨_, List.getElem?_eq_getElem (by lia  )⟩
    refine wpAny_pyNext_enum_item he ⟨o, ho, hc, hd⟩ hvs (by rw [List.getElem?_toArray]; exact hx) hei fun h1 e1 l1 t1 z1 k1 => ?_
    refine wpAny_letOwnedTupleGo_enum e1 fun h2' e2 s2 => ?_
    have ne : h.objs.size ≠ e := Nat.ne_of_gt (Heap.lt_size he)
    have S' : St K L env gl al ((e, EnumP it ((i + 1 : Nat) : Int)) :: (it, LIterP l (i + 1)) :: m) n h2' := S.up2 (fun c o c1 c2 q => (s2.2 c c1).trans (k1 c o c1 c2 q)) ⟨_, e2, x, by push_cast; rfl⟩
      (by obtain ⟨o, a, b, c⟩ := l1; exact ⟨o, (s2.2 it (Ne.symm hei)).trans a, b, c⟩)
    refine assign_Tuple_tuple (items := #[.int i tk, x]) hh ⟨_, (s2.2 _ ne).trans t1, rfl, _, rfl⟩ h2 hstar fun h3 x3 => ?_
    have S3 := S'.grown (h' := h3) fun b o q => x3 b o (Nat.ne_of_lt (Heap.lt_size q)) q
    refine wpAny_mono (turn i al m n h3 _ tk _ _ _ x (LoopB (LI K L env gl g d os len (fun i m => (e, EnumP it (i : Nat)) :: (it, LIterP l i) :: m) I (len - (i + 1))) N Q) hi' (hV x hx) i0 (fun al m n h tk i1 S => have j : LI K L env gl g d os len (fun i m => (e, EnumP it (i : Nat)) :: (it, LIterP l i) :: m) I (len - (i + 1)) ⟨h, g, d, tk, os⟩ := ⟨i + 1, al, m, n, h, tk, rfl, hi', rfl, S, i1⟩; ⟨j, j⟩) (fun _ x => x) (fun _ _ x => x) S3) (fun _ s₂ h₂ => wpAny_mono h₂ (fun f s₃ h₃ => ?_) fun _ _ x => x) fun _ _ x => x
    have lt : len - (i + 1) < len - i := by lia  
    cases f with
    | next => exact ⟨_, lt, h₃⟩
    | cont => exact ⟨_, lt, h₃⟩
    | brk => exact h₃
    | ret v => exact h₃
  · refine wpAny_pyNext_enum_end hh he ⟨o, ho, hc, hd⟩ hvs (by rw [List.getElem?_toArray]; exact List.getElem?_eq_none (by lia  )) fun h' hx => ?_
    have e : i = len := by lia  
    subst e
    exact wpAny_execs_nil (done _ _ _ _ _ i0 (S.ends hx))
theorem iter_list {l : Addr} {Q : Value → Shared → Prop} (S : St K L env gl al m n h) (hl : ∃ vs : List Value, h.IsList l vs.toArray)
    (hq : ∀ it h', St K L env gl al ((it, LIterP l 0) :: m) n h' → Q (.ref it) ⟨h', g, d, tk, os⟩) : wpAny (model prog w) A (pyIter (.ref l)) Q E ⟨h, g, d, tk, os⟩ := by
  obtain ⟨vs, hl⟩ := hl
  exact wpAny_pyIter_list hl (hq _ _ (S.pushM _ rfl ⟨rfl, rfl⟩))
theorem call_enum {l : Addr} {Q : Value → Shared → Prop} (S : St K L env gl al m n h) (hl : ∃ vs : List Value, h.IsList l vs.toArray)
    (hq : ∀ e it h', St K L env gl al ((e, EnumP it 0) :: (it, LIterP l 0) :: m) n h' → Q (.ref e) ⟨h', g, d, tk, os⟩) : wpAny (model prog w) A (call (.type "enumerate") [.ref l]) Q E ⟨h, g, d, tk, os⟩ := by
  obtain ⟨vs, hl⟩ := hl
  refine call_enumerate_list hl fun h' he hi hz hk => ?_
  have hn : h.get? h.objs.size = none := Heap.get?_none_of_le (Nat.le_refl _)
  have hn2 : h.get? (h.objs.size + 1) = none := Heap.get?_none_of_le (Nat.le_succ _)
  suffices key : St K L env gl al ((h.objs.size + 1, EnumP h.objs.size 0) :: (h.objs.size, LIterP l 0) :: m) n h' from hq _ _ _ key
  refine ⟨⟨fun p hp => ?_, ?_⟩, S.env⟩
  · rcases List.mem_cons.mp hp with rfl | hp
    · obtain ⟨o, e, q⟩ := S.led.at_ _ (.head _); exact ⟨o, hk _ _ e, q⟩
    · rcases List.mem_cons.mp hp with rfl | hp
      · exact ⟨_, he, .none, rfl⟩
      · rcases List.mem_cons.mp hp with rfl | hp
        · obtain ⟨o, a, b, c⟩ := hi; exact ⟨o, a, b, c⟩
        · obtain ⟨o, e, q⟩ := S.led.at_ _ (.tail _ hp); exact ⟨o, hk _ _ e, q⟩
  · have nd := S.led.nd
    have f : ∀ c, c ∈ ((env.locals, FrP al) :: (m ++ (n ++ L))).map (·.1) → c < h.objs.size := fun c hc => by
      obtain ⟨p, hp, rfl⟩ := List.mem_map.mp hc
      obtain ⟨o, e, _⟩ := S.led.at_ p hp
      exact Heap.lt_size e
    simp only [List.map_cons, List.nodup_cons, List.mem_cons, not_or, List.cons_append] at nd f ⊢
    have f1 := f env.locals (.inl rfl)
    refine ⟨⟨Nat.ne_of_lt (Nat.lt_succ_of_lt f1), Nat.ne_of_lt f1, nd.1⟩, ⟨Nat.succ_ne_self _, fun q => ?_⟩, fun q => ?_, nd.2⟩
    · exact Nat.not_succ_le_self _ (Nat.le_of_lt (f _ (.inr q)))
    · exact Nat.lt_irrefl _ (f _ (.inr q))
theorem iter_enum {e it : Addr} {Q : Value → Shared → Prop} (S : St K L env gl al ((e, EnumP it 0) :: m) n h) (hq : Q (.ref e) ⟨h, g, d, tk, os⟩) : wpAny (model prog w) A (pyIter (.ref e)) Q E ⟨h, g, d, tk, os⟩ := by
  obtain ⟨_, he, old, rfl⟩ := S.get (.head _)
  exact wpAny_pyIter_enum he hq
theorem addLI {xs ys : List Int} {Q : Value → Shared → Prop} (S : St K L env gl al m n h) (ha : (a, IntsP xs) ∈ m ++ (n ++ L)) (hb : (b, IntsP ys) ∈ m ++ (n ++ L)) (hsz : xs.length + ys.length ≤ 100000)
    (hq : ∀ a h', St K L env gl al m ((a, IntsP (xs ++ ys)) :: n) h' → Q (.ref a) ⟨h', g, d, tk, os⟩) : wpAny (model prog w) A (binaryOp .Add (.ref a) (.ref b)) Q E ⟨h, g, d, tk, os⟩ := by
  obtain ⟨_, ho, vs, hv, k, rfl⟩ := S.get ha
  obtain ⟨_, ho2, us, hu, k2, rfl⟩ := S.get hb
  have e : vs.toArray ++ us.toArray = (vs ++ us).toArray := by simp
  have e1 := hv.length
  have e2 := hu.length
  refine concat_meets ⟨_, ho, rfl⟩ ⟨_, ho2, rfl⟩ noFill_list_add seq_list_add PySem.F.slot_list_add PySem.F.entry_list_add (PySem.F.args_list_add_2 _ _) (list_addW a b vs.toArray us.toArray k k2 _ _ _ _ (by simp only [List.size_toArray]; exact fits (by lia  ))) ⟨ho, ho2, ?_⟩
  rw [e]
  exact hq _ _ (S.push (IntsP (xs ++ ys)) rfl ⟨_, IntsAre.append hv hu, _, rfl⟩)
theorem newLstI {vs : List Value} {xs : List Int} {Q : Value → Shared → Prop} (S : St K L env gl al m n h) (hi : IntsAre vs xs)
    (hq : ∀ a h', St K L env gl al m ((a, IntsP xs) :: n) h' → Q (.ref a) ⟨h', g, d, tk, os⟩) (hsz : vs.length ≤ 100000 := by first | (simp; done) | lia  ) : wpAny (model prog w) A (newList vs) Q E ⟨h, g, d, tk, os⟩ :=
  wpAny_newObj_type (hq _ _ (S.push (IntsP xs) rfl ⟨_, hi, _, rfl⟩)) (by show vs.toArray.size ≤ sizeLine; rw [List.size_toArray]; exact fits hsz)
theorem ints_of : ∀ {vs : List Value} {xs : List Int} {k : Nat} {v : Value}, IntsAre vs xs → vs[k]? = some v → ∃ y t, xs[k]? = some y ∧ v = .int y t
  | _, _, 0, _, .cons n t _, e => by cases e; exact ⟨n, t, rfl, rfl⟩
  | _, _, k + 1, _, .cons n t r, e => ints_of (k := k) r e
inductive IntAt (xs : List Int) (r : Nat) (v : Value) : Prop
  | mk (y : Int) (t : Tok) (h : xs[r]? = some y) (e : v = .int y t)
theorem ints_at2 {vs : List Value} {xs : List Int} {k : Nat} {v : Value} (h : IntsAre vs xs) (e : vs[k]? = some v) : IntAt xs k v := let ⟨y, t, a, b⟩ := ints_of h e; ⟨y, t, a, b⟩
theorem any_isInt : ∀ {vs : List Value} {xs : List Int} (k : Int), IntsAre vs xs → vs.any (isInt k) = decide (k ∈ xs)
  | _, _, k, .nil => by simp
  | _, _, k, .cons n t r => by
    have ih := any_isInt k r
    simp only [List.any_cons, ih, List.mem_cons, isInt]
    by_cases e : n = k
    · simp [e]
    · have e' : ¬ k = n := fun q => e q.symm
      simp [e, e']
theorem notInI {xs : List Int} {k : Int} {t : Tok} {Q : Value → Shared → Prop} (S : St K L env gl al m n h) (hm : (a, IntsP xs) ∈ m ++ (n ++ L)) (hq : Q (.bool (!decide (k ∈ xs))) ⟨h, g, d, tk, os⟩) :
    wpAny (model prog w) A (compareOp .NotIn (.int k t) (.ref a)) Q E ⟨h, g, d, tk, os⟩ := by
  obtain ⟨vs, hi, hl⟩ := S.isInts hm
  refine notIn_listAt (isInt k) hl (fun y hy => (eqGives_int hi k t y hy).at _ _) ?_
  have : vs.toArray.any (isInt k) = decide (k ∈ xs) := by rw [List.any_toArray, any_isInt k hi]
  rw [this]; exact hq
end
end Mine
end
section
open PySem PySem.W PyProof.Rows PySem.Calls PyProof.V PySem.Spec PySem.SeqAt
set_option autoImplicit false
namespace Mine
theorem Led.uniq {h : Heap} {l : LT} (D : Led h l) : ∀ {p q : Addr × OP}, p ∈ l → q ∈ l → p.1 = q.1 → p = q := by
  have nd := D.nd
  clear D
  induction l with
  | nil => intro p q hp; cases hp
  | cons a r ih =>
    intro p q hp hq e
    simp only [List.map_cons, List.nodup_cons] at nd
    rcases List.mem_cons.mp hp with h1 | h1
    · rcases List.mem_cons.mp hq with h2 | h2
      · rw [h1, h2]
      · exact absurd (by rw [← h1, e]; exact List.mem_map_of_mem (f := (·.1)) h2) nd.1
    · rcases List.mem_cons.mp hq with h2 | h2
      · exact absurd (by rw [← h2, ← e]; exact List.mem_map_of_mem (f := (·.1)) h1) nd.1
      · exact ih nd.2 h1 h2 e
def FrsIn (l : LT) (outer : List Env) : Prop := ∀ e' ∈ outer, e'.scope.kind ≠ .module ∧ ∃ Lf alf, e'.frame = some Lf ∧ (Lf, FrP alf) ∈ l
theorem frsFun {h : Heap} {l : LT} (D : Led h l) : ∀ {outer : List Env}, FrsIn l outer → ∀ {as : List Addr}, (∀ e' ∈ outer, ∀ Lf, e'.frame = some Lf → Lf ∈ as) → ∀ {h' : Heap}, (∀ b o, h.get? b = some o → h'.get? b = some o) → h'.FunFrames (hideAll h as) outer
  | [], _, _, _, _, _ => trivial
  | e :: r, hf, as, hs, h', hk => by
    obtain ⟨hm, Lf, alf, e1, e2⟩ := hf e (.head _)
    obtain ⟨o, e3, es, ep, e4, _⟩ := D.at_ _ e2
    exact ⟨hm, ⟨Lf, o, e1, hideAll_none _ (hs e (.head _) Lf e1), hk _ _ e3, fun vs q => by rw [e4] at q; cases q⟩, frsFun D (fun e' he' => hf e' (.tail _ he')) (fun e' he' => hs e' (.tail _ he')) hk⟩
theorem led_upto {h h' : Heap} {l : LT} (D : Led h l) {outer : List Env} (F : FrsIn l outer) {as : List Addr} (hs : ∀ a ∈ as, ∃ e' ∈ outer, e'.frame = some a) (h1 : ∀ b o, (hideAll h as).get? b = some o → h'.get? b = some o)
    (h2 : ∀ b o, h.get? b = some o → (∀ vs, o.data ≠ .fields vs) → ∃ sl, h'.get? b = some { o with slots := sl }) : Led h' l := by
  refine ⟨fun p hp => ?_, D.nd⟩
  obtain ⟨o, e, q⟩ := D.at_ p hp
  by_cases ha : p.1 ∈ as
  · obtain ⟨e', he', hf⟩ := hs _ ha
    obtain ⟨_, Lf, alf, e1, e2⟩ := F e' he'
    rw [hf] at e1
    cases e1
    have q2 : p = (p.1, FrP alf) := D.uniq hp e2 rfl
    have q3 : p.2 = FrP alf := congrArg Prod.snd q2
    rw [q3] at q ⊢
    obtain ⟨es, ep, e4, e5, e6⟩ := q
    obtain ⟨sl, e7⟩ := h2 _ o e fun vs q => by rw [e4] at q; cases q
    exact ⟨_, e7, es, ep, e4, e5, e6⟩
  · exact ⟨o, h1 _ _ (hideAll_get _ e ha), q⟩

section
variable {prog : Program} {w : World} {A : Around} {E : Value → Shared → Prop} {h : Heap} {g : Array GenState} {d : Drawn} {tk : Nat} {os : OsState}
variable {K : Frag} {L : LT} {h₁ : Heap} {env : Env} {gl : List (Str × Value)} {al al' : AL} {m m' n n' : LT} {x : Str} {v : Value} {pos : Pos} {a b : Addr} {P P' : OP}

theorem St.caught {Q : Flow → Shared → Prop} {hx' : Heap} {e : Addr} {X : String} {outer : List Env} {np hp : Pos} {b₀ : Stmt} {suite : List Stmt} (S : St K L env gl al m n h) (B : Bs K h₁ L) (hfr : A.frames = some (env :: outer)) (hff : env.frame = some env.locals)
    (hout : FrsIn ((env.locals, FrP al) :: (m ++ (n ++ L))) outer) (hx : Heap.NewExc h hx' e X) (hm : (Str.ofString X, .type X) ∈ gl)
    (hexc : isSubtype (.type X) (.type "BaseException") = pure true) (hnt : isSubtype (.type ((Manifest.find? X).elim "type" fun x => x.metatype)) (.type "tuple") = pure false)
    (hsub : isSubtype (.type X) (.type X) = pure true) (hd : (Str.ofString X == ("__debug__" : Str)) = false)
    (k : ∀ h' tk' E, St K L env gl al m n h' → wpAny (model prog w) (A.mark (some (.ref e))) (execs (b₀ :: suite) env) Q E ⟨h', g, d, tk', os⟩) :
    wpAny (model prog w) A (noteFrame (.ref e) env) (fun _ s₂ => wpAny (model prog w) A (setFlight (.ref e) none) (fun _ s₃ =>
      wpAny (model prog w) A (handleBy (.ref e) env [.ExceptHandler (some (.Name (Str.ofString X) np)) none (b₀ :: suite) hp]) Q E s₃) E s₂) E ⟨hx', g, d, tk, os⟩ := by
  obtain ⟨ob, tp, he, hcls, hdd⟩ := hx.there
  obtain ⟨as, has⟩ : ∃ as, as = (env :: outer).filterMap (·.frame) := ⟨_, rfl⟩
  have F : FrsIn ((env.locals, FrP al) :: (m ++ (n ++ L))) (env :: outer) := fun e' he' => by
    rcases List.mem_cons.mp he' with rfl | he'
    · exact ⟨by rw [S.env.fn]; decide, _, al, hff, .head _⟩
    · exact hout e' he'
  have hin : ∀ e' ∈ env :: outer, ∀ Lf, e'.frame = some Lf → Lf ∈ as := fun e' he' Lf q => by rw [has]; exact List.mem_filterMap.mpr ⟨e', he', q⟩
  have hin' : ∀ a ∈ as, ∃ e' ∈ env :: outer, e'.frame = some a := fun a ha => by rw [has] at ha; exact List.mem_filterMap.mp ha
  have st0 : ∀ b o, (hideAll h as).get? b = some o → h.get? b = some o := fun b o q => of_hideAll as q
  have hen : (hideAll h as).get? e = none := by
    cases q : (hideAll h as).get? e with
    | none => rfl
    | some o => have := st0 _ _ q; rw [hx.new] at this; cases this
  have FF := frsFun S.led F hin hx.keeps
  unfold noteFrame
  simp only [hff]
  refine wpAny_bind (wpAny_field he hdd (x := .none) rfl ?_)
  rw [if_neg (by decide)]
  refine wpAny_entryW (base := hideAll h as) (a0 := tp) hfr FF hff he (fun b o q => hx.keeps b o (st0 b o q)) hen hdd (by show 1 < 6; decide) rfl fun h2 hN => ?_
  obtain ⟨k1, k2, k3, k4⟩ := hN
  refine wpAny_setFlight_noneW k1 k2 k3 fun h3 j1 j2 j3 j4 => ?_
  have L3 : Led h3 ((env.locals, FrP al) :: (m ++ (n ++ L))) := led_upto S.led F hin' j1 fun b o q hn => by
    obtain ⟨sl, q2⟩ := k4 b o (hx.keeps b o q) hn
    exact ⟨sl, j4 _ _ q2 hn⟩
  have S3 : St K L env gl al m n h3 := ⟨L3, S.env⟩
  obtain ⟨ob3, he3, hc3⟩ := j3.at.there
  refine wpAny_handleBy_builtin (X := X) (T := X) (b := true) hexc hnt hsub (S3.gb B hm ⟨rfl, ⟨_, he3, hc3.trans hcls⟩, ?_⟩ hd)
  rw [if_pos rfl]
  refine wpAny_setFlight_noneW j1 j2 j3.at fun h4 i1 i2 i3 i4 => ?_
  refine k h4 _ _ ⟨led_upto S.led F hin' i1 fun b o q hn => ?_, S.env⟩
  obtain ⟨sl, q2⟩ := k4 b o (hx.keeps b o q) hn
  exact ⟨sl, i4 _ _ (j4 _ _ q2 hn) hn⟩
theorem removeNone {xs : List Int} {y : Int} {t : Tok} {Q : Value → Shared → Prop} (S : St K L env gl al m n h) (hm : (a, IntsP xs) ∈ m ++ (n ++ L)) (hy : y ∉ xs) (hh : A.handled = none) (hu : A.units < cLine)
    (hq : ∀ h' tk' e, Heap.NewExc h h' e "ValueError" → E (.ref e) ⟨h', g, d, tk', os⟩) : wpAny (model prog w) A (call (.builtin "list.remove") [.ref a, .int y t]) Q E ⟨h, g, d, tk, os⟩ := by
  obtain ⟨_, ho, vs, hi, k, rfl⟩ := S.get hm
  exact call_meets PySem.F.slot_list_remove ⟨_, ho, rfl⟩ PySem.F.entry_list_remove (PySem.F.args_list_remove_2 _ _)
    (MeetsSeq.list_remove_none a vs.toArray k (.int y t) (isInt y) (eqGives_int hi y t) (fun i hi' => by simpa using ints_none hi hy i (by simpa using hi'))) ⟨ho, hh, hq⟩
theorem xTry {body : List Stmt} {h₀ : ExceptHandler} {hs : List ExceptHandler} {q : Pos} {rest : List Stmt} {Q : Flow → Shared → Prop} {s : Shared}
    (hq : wpAny (model prog w) A (execs body env) (IfB (fun s₁ => wpAny (model prog w) A (execs rest env) Q E s₁) Q)
      (fun e s₁ => wpAny (model prog w) A (noteFrame e env) (fun _ s₂ => wpAny (model prog w) A (setFlight e none) (fun _ s₃ => wpAny (model prog w) A (handleBy e env (h₀ :: hs)) (IfB (fun s₁ => wpAny (model prog w) A (execs rest env) Q E s₁) Q) E s₃) E s₂) E s₁) s) :
    wpAny (model prog w) A (execs (.Try body (h₀ :: hs) [] [] q :: rest) env) Q E s := by
  have e : ∀ f s, IfB (fun s₁ => wpAny (model prog w) A (execs rest env) Q E s₁) Q f s → (match f with | .next => wpAny (model prog w) A (execs rest env) Q E s | f => Q f s) := fun f s hf => by cases f <;> exact hf
  refine wpAny_execs_cons (wpAny_Try_except (wpAny_mono hq (fun f s₁ h₁ => ?_) fun x s₁ h₁ => wpAny_mono h₁ (fun _ s₂ h₂ => wpAny_mono h₂ (fun _ s₃ h₃ => wpAny_mono h₃ e fun _ _ x => x) fun _ _ x => x) fun _ _ x => x))
  cases f with
  | next => exact wpAny_execs_nil h₁
  | _ => exact h₁
end
end Mine
end
section
open PySem PySem.W PyProof.Rows PySem.Calls PyProof.V PySem.Spec PySem.SeqAt
set_option autoImplicit false
namespace Mine
section
variable {prog : Program} {w : World} {A : Around} {E : Value → Shared → Prop} {h : Heap} {g : Array GenState} {d : Drawn} {tk : Nat} {os : OsState}
variable {K : Frag} {L : LT} {h₁ : Heap} {env : Env} {gl : List (Str × Value)} {al al' : AL} {m m' n n' : LT} {x : Str} {v : Value} {pos : Pos} {a b : Addr} {P P' : OP}
abbrev GivesM (L : LT) (g : Array GenState) (d : Drawn) (os : OsState) (ok : LT → LT → Value → Prop) (R : Result → Shared → Prop) : Prop :=
  ∀ h m n v tk, Led h (m ++ (n ++ L)) → ok m n v → R (.ok (.ret v)) ⟨h, g, d, tk, os⟩
def DoesM (prog : Program) (w : World) (mm L : LT) (dep : Nat) (fr : List Env → Prop) (f : Value) (args : List Value) (ok : LT → LT → Value → Prop) : Prop :=
  ∀ (A : Around) (R : Result → Shared → Prop) (h : Heap) (g : Array GenState) (d : Drawn) (tk : Nat) (os : OsState), Rm A dep → (∃ outer, A.frames = some outer ∧ fr outer) → Led h (mm ++ L) → GivesM L g d os ok R →
    codeAny (model prog w) A (.call f ⟨args, []⟩) R ⟨h, g, d, tk, os⟩
theorem enterM {ok : LT → LT → Value → Prop} {mm : LT} {fr : List Env → Prop} {name qual : Str} {params : Arguments} {body : List Stmt} {scope : Scope} {dV kV doc pm cdv ct oc : Value} {an od : Option Addr} {osl : Array (Option Value)} {f : Addr} {args : List Value} {dep : Nat}
    (B : Bs K h₁ L) (ho : K.lookup f = some ⟨oc, od, .func (fnOf name qual params body scope dV kV doc pm an cdv ct), osl⟩) (hcd : codeIn K cdv qual = true)
    (gl : List (Str × Value)) (al : AL) (names : List Str) (hn : al.map (·.1) = names) (binds : List (Str × Value))
    (hbind : ∀ s : Shared, (∀ a o, K.lookup a = some o → s.heap.get? a = some o) → BindsTo s (fnOf name qual params body scope dV kV doc pm an cdv ct) ⟨args, []⟩ binds)
    (hE : ∀ L', EnvOk K (envOf qual scope L' f cdv) names gl)
    (hal : ∀ p ∈ al, ∀ v, p.2 = some v → binds.reverse.lookup p.1 = some v)
    (hloc : (binds.all fun y => scope.names.lookup y.1 == some .local) = true)
    (hd : 1 ≤ dep)
    (hq : ∀ (A : Around) (h : Heap) (g : Array GenState) (d : Drawn) (tk : Nat) (os : OsState) (E : Value → Shared → Prop) (env : Env) (Q : Flow → Shared → Prop), Rm A (dep - 1) → { env with scope := scope } = env → env.frame = some env.locals → (∃ outer, A.frames = some (env :: outer) ∧ fr outer) →
      (∀ h m n v tk, Led h (m ++ (n ++ L)) → ok m n v → Q (.ret v) ⟨h, g, d, tk, os⟩) → (∀ h m n tk, Led h (m ++ (n ++ L)) → ok m n .none → Q .next ⟨h, g, d, tk, os⟩) →
      St K L env gl al mm [] h → wpAny (model prog w) A (execs body env) Q E ⟨h, g, d, tk, os⟩)
    (hco : scope.isCoroutine = false := by rfl) (hgen : scope.isGenerator = false := by rfl) (hk : scope.kind = .function := by rfl)
    (hcell : ∀ x ∈ scope.names, x.2 ≠ .cell := by decide +kernel) : DoesM prog w mm L dep fr (.ref f) args ok := by
  intro A R h g d tk os RM ⟨outer, hA, hF⟩ D G
  have hh := RM.hh
  have hroom := RM.hd
  have hun := RM.hu
  have kb := B.keep D fun _ hp => List.mem_append_right _ hp
  have X := B.K.keeps kb
  obtain ⟨p, loose, mg, mb, T⟩ := B.top
  refine codeAny_call_def (fd := fnOf name qual params body scope dV kV doc pm an cdv ct) (body := body) (binds := binds) (by lia  ) (X _ _ ho) rfl (T.nolimit.keeps kb) (codeRec_of X hcd) rfl (hbind _ X) hcell (fun y hy => beq_iff_eq.mp (List.all_eq_true.mp hloc y hy)) (fun h₀ hns hk₁ => ?_) hco hgen hk
  refine hq (A.deeper _) h₀ g d _ os _ (envOf qual scope h.objs.size f cdv) _ ⟨hh, by show A.depth + 1 + _ < _; lia  , by show A.units + 3 + _ + _ < _; lia  , by show A.depth + 1 + _ ≤ _; have := RM.hD; lia  , by show A.units + 3 + _ ≤ _; have := RM.hU; lia  ⟩ rfl rfl ⟨outer, by show A.frames.map _ = _; rw [hA]; rfl, hF⟩ (fun h m n v tk D o => G h m n v tk D o) (fun h m n tk D o => G h m n .none tk D o) ⟨⟨fun p hp => ?_, ?_⟩, hn ▸ hE _⟩
  · rcases List.mem_cons.mp hp with rfl | hp
    · obtain ⟨o, es, ep, e1, e2, e3, e4⟩ := hns
      exact ⟨o, e1, es, ep, e2, e3, fun y u hy => (e4 y).trans (hal _ hy _ rfl)⟩
    · obtain ⟨o, e, q⟩ := D.at_ p hp
      exact ⟨o, hk₁ _ _ e, q⟩
  · show (h.objs.size :: (mm ++ L).map (·.1)).Nodup
    rw [List.nodup_cons]
    exact ⟨D.new, D.nd⟩

theorem St.callM {mm : LT} {fr : List Env → Prop} {ok : LT → LT → Value → Prop} {f : Value} {args : List Value} {dep : Nat} {Q : Value → Shared → Prop} (S : St K L env gl al (mm ++ m) n h)
    (X : DoesM prog w mm ((env.locals, FrP al) :: (m ++ (n ++ L))) dep fr f args ok) (RM : Rm A dep) (hfr : ∃ outer, A.frames = some outer ∧ fr outer)
    (hq : ∀ h' m' n' v tk', ok m' n' v → St K L env gl al (m' ++ m) (n' ++ n) h' → Q v ⟨h', g, d, tk', os⟩) : wpAny (model prog w) A (PySem.call f args) Q E ⟨h, g, d, tk, os⟩ := by
  refine wpAny_call (X A _ h g d tk os RM hfr (S.led.perm ?_) fun h' m' n' v tk' D o => hq h' m' n' v tk' o ⟨D.perm ?_, S.env⟩)
  · rw [List.append_assoc]; exact List.perm_middle.symm
  · have e1 : (m' ++ (n' ++ (env.locals, FrP al) :: (m ++ (n ++ L)))).Perm ((env.locals, FrP al) :: (m' ++ (n' ++ (m ++ (n ++ L))))) := by
      rw [← List.append_assoc, ← List.append_assoc m' n']; exact List.perm_middle
    refine e1.trans (.cons _ ?_)
    rw [List.append_assoc, List.append_assoc]
    refine List.Perm.append_left _ ?_
    exact List.perm_append_comm_assoc n' m (n ++ L)
theorem St.finM {mm : LT} (S : St K L env gl al (mm ++ m) n h) : Led h (mm ++ ((((env.locals, FrP al) :: (m ++ n))) ++ L)) := by
  have := S.led
  refine this.perm ?_
  rw [List.append_assoc, List.cons_append, List.append_assoc]
  exact List.perm_middle.symm
theorem truI {xs : List Int} {Q : Bool → Shared → Prop} (S : St K L env gl al m n h) (hm : (a, IntsP xs) ∈ m ++ (n ++ L)) (hl : xs.length ≤ 1000) (hq : ∀ tk', Q (!xs.isEmpty) ⟨h, g, d, tk', os⟩) : wpAny (model prog w) A (truthy (.ref a)) Q E ⟨h, g, d, tk, os⟩ := by
  obtain ⟨vs, hi, hL⟩ := S.isInts hm
  have e := hi.length
  refine wpAny_truthy_list hL (by rw [List.size_toArray]; lia  ) ?_
  have : vs.toArray.isEmpty = xs.isEmpty := by rw [List.isEmpty_toArray]; cases hi <;> rfl
  rw [this]; exact hq _
theorem truV {vs : List Value} {Q : Bool → Shared → Prop} (S : St K L env gl al m n h) (hm : (a, ListP vs) ∈ m ++ (n ++ L)) (hl : vs.length ≤ 1000) (hq : ∀ tk', Q (!vs.isEmpty) ⟨h, g, d, tk', os⟩) : wpAny (model prog w) A (truthy (.ref a)) Q E ⟨h, g, d, tk, os⟩ := by
  refine wpAny_truthy_list (S.isList hm) (by rw [List.size_toArray]; lia  ) ?_
  rw [List.isEmpty_toArray]; exact hq _
end
end Mine
end
section
open PySem PySem.W PyProof.Rows PySem.Calls
set_option autoImplicit false
namespace Mine
def atF (x : Str) (es : List DictEntry) : Option Value := (es.find? (·.key.isStr x)).map (·.val)
def AtP (ats : List (Str × Value)) : OP := fun o => ∃ es n, o = dictOf es n ∧ es.length ≤ ats.length ∧ es.any (·.refKey) = false ∧ ∀ x, atF x es = ats.lookup x
def InsP (C dx : Addr) : OP := fun o => o = instObj C dx
theorem isStr_of {k : Value} {x y : Str} (h : k.isStr x = true) : k.isStr y = (x == y) := by
  cases k <;> simp_all [Value.isStr]
theorem atF_put {x y : Str} {hsh : Int} {tk : Tok} {v : Value} : ∀ {es : List DictEntry}, atF y (putL x hsh (.str x tk) v es) = if y = x then some v else atF y es
  | [] => by
    unfold atF putL
    by_cases e : y = x
    · subst e; simp [Value.isStr]
    · have e' : ¬ x = y := fun q => e q.symm
      simp [Value.isStr, e, e']
  | e :: r => by
    have ih := atF_put (x := x) (y := y) (hsh := hsh) (tk := tk) (v := v) (es := r)
    unfold putL
    cases hx : e.key.isStr x with
    | true =>
      have hy := isStr_of (y := y) hx
      simp only [if_true]
      unfold atF
      by_cases q : y = x
      · subst q; simp [hx]
      · have q' : (x == y) = false := by simpa using fun z : x = y => q z.symm
        rw [q'] at hy
        simp [hy, q]
    | false =>
      simp only [Bool.false_eq_true, if_false]
      unfold atF at ih ⊢
      cases hy : e.key.isStr y with
      | true =>
        have : ¬ y = x := fun q => by subst q; rw [hx] at hy; cases hy
        simp [hy, this]
      | false => simp only [List.find?_cons, hy]; exact ih
theorem refKey_put {x : Str} {hsh : Int} {tk : Tok} {v : Value} : ∀ {es : List DictEntry}, es.any (·.refKey) = false → (putL x hsh (.str x tk) v es).any (·.refKey) = false
  | [], _ => rfl
  | e :: r, h => by
    simp only [List.any_cons, Bool.or_eq_false_iff] at h
    unfold putL
    cases hx : e.key.isStr x with
    | true => simp only [if_true, List.any_cons, Bool.or_eq_false_iff]; exact ⟨h.1, h.2⟩
    | false => simp only [Bool.false_eq_true, if_false, List.any_cons, Bool.or_eq_false_iff]; exact ⟨h.1, refKey_put h.2⟩
theorem len_put {x : Str} {hsh : Int} {k v : Value} : ∀ {es : List DictEntry}, (putL x hsh k v es).length ≤ es.length + 1
  | [] => by simp [putL]
  | e :: r => by
    have := len_put (x := x) (hsh := hsh) (k := k) (v := v) (es := r)
    unfold putL; split <;> simp; lia  
theorem getL_of {x : Str} {es : List DictEntry} (h : es.any (·.refKey) = false) : getL x es = some (atF x es) := by
  unfold getL atF
  cases es.find? (·.key.isStr x) with
  | some e => rfl
  | none => simp [h]

def noH : Heap := {}
theorem noH_get (b : Addr) : noH.get? b = none := rfl
section
variable {prog : Program} {w : World} {A : Around} {E : Value → Shared → Prop} {h : Heap} {g : Array GenState} {d : Drawn} {tk : Nat} {os : OsState}
variable {K : Frag} {L : LT} {h₁ : Heap} {env : Env} {gl : List (Str × Value)} {al al' : AL} {m m' n n' : LT} {x : Str} {v : Value} {pos : Pos} {a b : Addr} {P P' : OP}
theorem St.bridge (S : St K L env gl al m n h) {dx : Addr} {o : Obj} (ho : h.get? dx = some o) (U : Up dx P' m m') : ∃ mm rest, Fr noH env.locals h mm ∧ News noH env.locals h ((dx, o) :: rest) ∧ (∀ p ∈ rest, p.1 ≠ dx) ∧
    (∀ h' o', Fr noH env.locals h' mm → News noH env.locals h' ((dx, o') :: rest) → P' o' → St K L env gl al m' n h') := by
  have hdm : dx ∈ (m ++ (n ++ L)).map (·.1) := by rw [List.map_append]; exact List.mem_append_left _ U.mem
  have nd := S.led.nd
  rw [List.map_cons, List.nodup_cons] at nd
  have hnL : ∀ p ∈ m ++ (n ++ L), p.1 ≠ env.locals := fun p hp e => nd.1 (by rw [← e]; exact List.mem_map_of_mem (f := (·.1)) hp)
  obtain ⟨oL, hoL, es, ep, hd, hk, hf⟩ := S.led.at_ _ (.head _)
  have hdL : dx ≠ env.locals := fun e => nd.1 (e ▸ hdm)
  refine ⟨fun y => nsFind es y, ((m ++ (n ++ L)).filter (fun p => decide (p.1 ≠ dx))).map fun p => (p.1, (h.get? p.1).getD default), ⟨⟨oL, es, ep, hoL, hd, hk, fun _ => rfl⟩, fun b o e => (by rw [noH_get] at e; cases e), Nat.zero_le _⟩, ?_, ?_, ?_⟩
  · intro q hq
    rcases List.mem_cons.mp hq with rfl | hq
    · exact ⟨ho, hdL, noH_get _⟩
    · obtain ⟨p, hp, rfl⟩ := List.mem_map.mp hq
      obtain ⟨hp, _⟩ := List.mem_filter.mp hp
      obtain ⟨o, e, _⟩ := S.led.at_ p (.tail _ hp)
      exact ⟨by dsimp only; rw [e]; rfl, hnL p hp, noH_get _⟩
  · intro q hq
    obtain ⟨p, hp, rfl⟩ := List.mem_map.mp hq
    simpa using (List.mem_filter.mp hp).2
  · intro h' o' F N hP
    have nd2 : ((m' ++ (n ++ L)).map (·.1)) = (m ++ (n ++ L)).map (·.1) := (U.app _).keys
    refine ⟨⟨fun p hp => ?_, by rw [List.map_cons, nd2, List.nodup_cons]; exact nd⟩, S.env⟩
    rcases List.mem_cons.mp hp with rfl | hp
    · obtain ⟨o2, es', ep', e1, e2, e3, e4⟩ := F.ns
      exact ⟨o2, e1, es', ep', e2, e3, fun y u hy => (e4 y).trans (hf y u hy)⟩
    · rcases (U.app (n ++ L)).split nd.2 p hp with rfl | ⟨hm, hne⟩
      · exact ⟨o', (N _ (.head _)).1, hP⟩
      · obtain ⟨o2, e, q⟩ := S.led.at_ p (.tail _ hm)
        have := (N (p.1, o2) (.tail _ (List.mem_map.mpr ⟨p, List.mem_filter.mpr ⟨hm, by simpa using hne⟩, by rw [e]; rfl⟩))).1
        exact ⟨o2, this, q⟩
theorem St.inst {i dx C : Addr} {ats : List (Str × Value)} (S : St K L env gl al m n h) (hi : (i, InsP C dx) ∈ m ++ (n ++ L)) (hd : (dx, AtP ats) ∈ m ++ (n ++ L)) :
    ∃ es k, InstAt h i (instObj C dx) C (some (dictOf es k)) ∧ h.get? dx = some (dictOf es k) ∧ es.length ≤ ats.length ∧ es.any (·.refKey) = false ∧ ∀ x, atF x es = ats.lookup x := by
  obtain ⟨o, e, rfl⟩ := S.get hi
  obtain ⟨_, e2, es, k, rfl, q1, q2, q3⟩ := S.get hd
  exact ⟨es, k, ⟨e, rfl, rfl, e2⟩, e2, q1, q2, q3⟩
theorem St.getA {i dx C : Addr} {ats : List (Str × Value)} {name : Str} {attr : Option Value} {expr : Bool} {Q : Value → Shared → Prop} (S : St K L env gl al m n h) (B : Bs K h₁ L) (hi : (i, InsP C dx) ∈ m ++ (n ++ L)) (hd : (dx, AtP ats) ∈ m ++ (n ++ L))
    (hg : plainGet K C name = true) (hh : hasDictIn K C = true) (ha : findIn K (.ref C) name = some attr) (hn : noGet K attr = true) (hl : ats.lookup name = some v) (hv : handedIn v = true)
    (hq : ∀ tk', Q v ⟨h, g, d, tk', os⟩) : wpAny (model prog w) A (getAttr (.ref i) name expr) Q E ⟨h, g, d, tk, os⟩ := by
  obtain ⟨es, k, I, _, _, q2, q3⟩ := S.inst hi hd
  exact get_value (B.K.keeps (S.kb B)) I (plainGet_of hg).1 (findObj_own hh ha hn (by rw [lookIn_dict, getL_of q2, q3, hl])) hv (hq _)
theorem St.setA {i dx C : Addr} {ats : List (Str × Value)} {name : Str} {Q : Unit → Shared → Prop} (S : St (K) L env gl al m n h) (B : Bs K h₁ L) (hi : (i, InsP C dx) ∈ m ++ (n ++ L)) (hd : (dx, AtP ats) ∈ m ++ (n ++ L)) (U : Up dx (AtP ((name, v) :: ats)) m m')
    (hs : findIn K (.ref C) "__setattr__" = some (some (.builtin "object.__setattr__"))) (hp : plainOver K C = true) (ht : takerIn K C name = some none) (hh : hasDictIn K C = true) (hz : ats.length ≤ 500)
    (hq : ∀ h' tk', St K L env gl al m' n h' → Q () ⟨h', g, d, tk', os⟩) : wpAny (model prog w) A (setAttr (.ref i) name v) Q E ⟨h, g, d, tk, os⟩ := by
  obtain ⟨es, k, I, ho, q1, q2, q3⟩ := S.inst hi hd
  obtain ⟨mm, rest, F, N, hr, back⟩ := S.bridge ho U
  have X : K.In h := B.K.keeps (S.kb B)
  have hlen := len_put (x := name) (hsh := PyData.keyHash w.params name) (k := .str name (tk + 1)) (v := v) (es := es)
  refine set_plain (s := ⟨h, g, d, tk, os⟩) X I hs (osa_dict (s := ⟨h, g, d, tk + 1, os⟩) (pre := []) F N X I rfl hp ht hh (by rw [lookIn_dict, getL_of q2]; rfl) (fun p hp => nomatch hp) hr (putName_dict _ _ _ _ _ _) rfl (Nat.le_trans len_put (by lia  )) fun h' F' N' => ?_)
  refine hq _ _ (back h' _ F' N' ⟨_, _, rfl, Nat.le_trans len_put (by simp only [List.length_cons]; lia  ), refKey_put q2, fun y => ?_⟩)
  rw [atF_put, q3, List.lookup_cons]
  by_cases e : y = name
  · subst e; simp
  · have : (y == name) = false := by simpa using e
    rw [if_neg e, this]
end
end Mine
end
section
open PySem PySem.W PyProof.Rows PySem.Calls
set_option autoImplicit false
namespace Mine
section
variable {prog : Program} {w : World} {A : Around} {E : Value → Shared → Prop} {h : Heap} {g : Array GenState} {d : Drawn} {tk : Nat} {os : OsState}
variable {K : Frag} {L : LT} {h₁ : Heap} {env : Env} {gl : List (Str × Value)} {al al' : AL} {m m' n n' : LT} {x : Str} {v : Value} {pos : Pos} {a b : Addr} {P P' : OP}
theorem callMeth {M : Model} {s : Shared} {o : PySem.Expr} {name : Str} {ap pos : Pos} {args : List PySem.Expr} {Q : Value → Shared → Prop}
    (hq : wpAny M A (eval o env) (fun ov s₁ => ∀ pl, wpAny M A (getMethod ov name pl) (fun p s₂ => wpAny M A (callWith pos p.1 p.2 (backTo pos (starEach args env)) []) Q E s₂) E s₁) E s)
    (hbase : attributeBase o name env (eval o env) = eval o env := by rfl)
    (hfew : methodCallForm (args.length + ([] : List Keyword).length) (backTo pos (starEach args env)) (backToKw pos (keywordEach [] env)) = true := by rfl)
    (hline : (ap.endLine == pos.line) = true := by rfl) : wpAny M A (eval (.Call (.Attribute o name ap) args [] pos) env) Q E s := by
  rw [arm_eval_Call, hbase]
  refine wpAny_bind (wpAny_mono hq (fun ov s₁ h₁ => wpAny_bind (wpAny_standAt ?_)) fun _ _ e => e)
  have hpos : methodCallPos true o env ap pos = pure pos := by unfold methodCallPos; simp [hline]
  unfold methodCall
  rw [hfew]
  refine wpAny_bind (wpAny_holding (wpAny_mono (h₁ _) (fun p s₂ h₂ => ?_) fun _ _ e => e))
  exact wpAny_bind (wpAny_of_eq hpos h₂)
theorem selfMeth {i dx C f : Addr} {ats : List (Str × Value)} {name : Str} {pl : Sem Bool} {Q : Value × List Value → Shared → Prop} (S : St K L env gl al m n h) (B : Bs K h₁ L) (hi : (i, InsP C dx) ∈ m ++ (n ++ L)) (hd : (dx, AtP ats) ∈ m ++ (n ++ L))
    (hg : plainGet K C name = true) (hf : findIn K (.ref C) name = some (some (.ref f))) (ht : isFn K (.ref f) = true) (hl : ats.lookup name = none)
    (hq : Q (.ref f, [.ref i]) ⟨h, g, d, tk, os⟩) : wpAny (model prog w) A (getMethod (.ref i) name pl) Q E ⟨h, g, d, tk, os⟩ := by
  obtain ⟨es, k, I, _, _, q2, q3⟩ := S.inst hi hd
  exact method_fn (B.K.keeps (S.kb B)) I (plainGet_of hg).1 (plainGet_of hg).2 hf (beq_iff_eq.mp ht) (by show (lookIn name (dictOf es k)).map _ = _; rw [lookIn_dict, getL_of q2, q3, hl]; rfl) hq
theorem selfCall {i dx C f : Addr} {ats : List (Str × Value)} {name : Str} {o e : PySem.Expr} {r : List PySem.Expr} {ap pos : Pos} {Q : Value → Shared → Prop} (B : Bs K h₁ L)
    (ho : ∀ Q' : Value → Shared → Prop, Q' (.ref i) ⟨h, g, d, tk, os⟩ → wpAny (model prog w) A (eval o env) Q' E ⟨h, g, d, tk, os⟩)
    (S : St K L env gl al m n h) (hi : (i, InsP C dx) ∈ m ++ (n ++ L)) (hd : (dx, AtP ats) ∈ m ++ (n ++ L))
    (hg : plainGet K C name = true) (hf : findIn K (.ref C) name = some (some (.ref f))) (ht : isFn K (.ref f) = true) (hl : ats.lookup name = none) (hk : keepIn K (.ref f) = true)
    (hq : wpAny (model prog w) A (spliced (backTo pos (starEach (e :: r) env))) (fun vs s₁ => K.In s₁.heap ∧ wpAny (model prog w) A (call (.ref f) (.ref i :: vs)) Q E s₁) E ⟨h, g, d, tk, os⟩)
    (hbase : attributeBase o name env (eval o env) = eval o env := by rfl)
    (hfew : methodCallForm ((e :: r).length + ([] : List Keyword).length) (backTo pos (starEach (e :: r) env)) (backToKw pos (keywordEach [] env)) = true := by rfl)
    (hline : (ap.endLine == pos.line) = true := by rfl) (he : starEach (e :: r) env = (false, eval e env) :: starEach r env := by rfl) (hplain : (backTo pos (starEach r env)).any (·.1) = false := by rfl) :
    wpAny (model prog w) A (eval (.Call (.Attribute o name ap) (e :: r) [] pos) env) Q E ⟨h, g, d, tk, os⟩ :=
  callMeth (ho _ fun pl => selfMeth S B hi hd hg hf ht hl (callWith_K B.K hk hq he hplain)) hbase hfew hline
theorem selfCall0 {i dx C f : Addr} {ats : List (Str × Value)} {name : Str} {o : PySem.Expr} {ap pos : Pos} {Q : Value → Shared → Prop} (B : Bs K h₁ L)
    (ho : ∀ Q' : Value → Shared → Prop, Q' (.ref i) ⟨h, g, d, tk, os⟩ → wpAny (model prog w) A (eval o env) Q' E ⟨h, g, d, tk, os⟩)
    (S : St K L env gl al m n h) (hi : (i, InsP C dx) ∈ m ++ (n ++ L)) (hd : (dx, AtP ats) ∈ m ++ (n ++ L))
    (hg : plainGet K C name = true) (hf : findIn K (.ref C) name = some (some (.ref f))) (ht : isFn K (.ref f) = true) (hl : ats.lookup name = none) (hk : keepIn K (.ref f) = true)
    (hq : wpAny (model prog w) A (call (.ref f) [.ref i]) Q E ⟨h, g, d, tk, os⟩)
    (hbase : attributeBase o name env (eval o env) = eval o env := by rfl) (hline : (ap.endLine == pos.line) = true := by rfl) :
    wpAny (model prog w) A (eval (.Call (.Attribute o name ap) [] [] pos) env) Q E ⟨h, g, d, tk, os⟩ :=
  callMeth (ho _ fun pl => selfMeth S B hi hd hg hf ht hl (callWith_K0 (B.K.keeps (S.kb B)) hk hq)) hbase (by rfl) hline
end
end Mine
end
section
open PySem PySem.W PyProof.Rows PySem.Calls
set_option autoImplicit false
namespace Mine
section
variable {prog : Program} {w : World} {A : Around} {E : Value → Shared → Prop} {h : Heap} {g : Array GenState} {d : Drawn} {tk : Nat} {os : OsState}
variable {K : Frag} {L : LT} {h₁ : Heap} {env : Env} {gl : List (Str × Value)} {al al' : AL} {m m' n n' : LT} {x : Str} {v : Value} {pos : Pos} {a b : Addr} {P P' : OP}
variable {M : Model} {s : Shared} {rest : List Stmt} {Q : Flow → Shared → Prop}
theorem xAttr {o e : PySem.Expr} {name : Str} {p q : Pos}
    (hq : wpAny M A (eval e env) (fun v s₁ => wpAny M A (eval o env) (fun ov s₂ => wpAny M A (setAttr ov name v) (fun _ s₃ => wpAny M A (execs rest env) Q E s₃) E s₂) E s₁) E s)
    (hs : swapsWith e (some (.Attribute o name p)) q.line env = pure false := by rfl) : wpAny M A (execs (.Assign [.Attribute o name p] e q :: rest) env) Q E s := wpAny_execs_cons (plainObj_wpAny_Assign_Attribute hq hs)
theorem xTwo {t₁ t₂ e : PySem.Expr} {q : Pos}
    (hq : wpAny M A (eval e env) (fun v s₁ => wpAny M A (assign t₁ env v) (fun _ s₂ => wpAny M A (assign t₂ env v) (fun _ s₃ => wpAny M A (execs rest env) Q E s₃) E s₂) E s₁) E s)
    (he : (assignEach [t₁, t₂] env).map (·.2) = [assign t₁ env, assign t₂ env] := by rfl)
    (hw : swappedStores [t₁, t₂] e env = pure none := by rfl) : wpAny M A (execs (.Assign [t₁, t₂] e q :: rest) env) Q E s := wpAny_execs_cons (wpAny_Assign_two hq he hw)
theorem asgAttr {o : PySem.Expr} {name : Str} {p : Pos} {Q : Unit → Shared → Prop}
    (hq : wpAny M A (eval o env) (fun ov s₂ => wpAny M A (setAttr ov name v) Q E s₂) E s) : wpAny M A (assign (.Attribute o name p) env v) Q E s := by
  intro Γ p hΓ
  simp only [assign_Attribute, Sem.wp_bind', Sem.wp_holding, Sem.wp_cmd_standAt, Sem.wp_release]
  exact Sem.wp_mono M Γ _ (fun ov _ s₂ h₂ => h₂ Γ _ hΓ) (fun _ _ _ h' => h') _ _ (hq Γ _ hΓ)
end
end Mine
end
section
open PySem
set_option autoImplicit false
namespace Mine
def idxs (ys : List Int) (y : Int) (k : Nat) : List Int := ((List.range k).filter fun (j : Nat) => decide (ys[j]? = some y)).map fun (j : Nat) => (j : Int)
theorem idxs_succ (ys : List Int) (y : Int) (k : Nat) : idxs ys y (k + 1) = idxs ys y k ++ (if ys[k]? = some y then [(k : Int)] else []) := by
  unfold idxs
  rw [List.range_succ, List.filter_append, List.map_append]
  congr 1
  by_cases e : ys[k]? = some y <;> simp [e]
theorem idxs_len (ys : List Int) (y : Int) (k : Nat) : (idxs ys y k).length ≤ k := by
  unfold idxs
  rw [List.length_map]
  exact Nat.le_trans (List.length_filter_le _ _) (by simp)
theorem mem_idxs {ys : List Int} {y : Int} {k : Nat} {j : Int} : j ∈ idxs ys y k ↔ 0 ≤ j ∧ j.toNat < k ∧ ys[j.toNat]? = some y := by
  unfold idxs
  rw [List.mem_map]
  constructor
  · rintro ⟨a, ha, rfl⟩
    rw [List.mem_filter, List.mem_range] at ha
    exact ⟨by lia  , by simpa using ha.1, by simpa using ha.2⟩
  · rintro ⟨h0, h1, h2⟩
    exact ⟨j.toNat, by rw [List.mem_filter, List.mem_range]; exact ⟨h1, by simpa using h2⟩, by lia  ⟩
theorem idxs_sorted (ys : List Int) (y : Int) (k : Nat) : (idxs ys y k).Pairwise (· < ·) := by
  unfold idxs
  rw [List.pairwise_map]
  exact (List.Pairwise.filter _ List.pairwise_lt_range).imp fun h => by lia  
def bf (ls : List (Int × Addr)) : Int → Option Value := fun y => (ls.lookup y).map Value.ref
theorem bf_cons (ls : List (Int × Addr)) (y : Int) (a : Addr) : (fun x => if x = y then some (Value.ref a) else bf ls x) = bf ((y, a) :: ls) := by
  funext x
  unfold bf
  rw [List.lookup_cons]
  by_cases e : x = y
  · subst e; simp
  · have : (x == y) = false := by simpa using e
    rw [if_neg e, this]
theorem lookup_mem {ls : List (Int × Addr)} {y : Int} {l : Addr} (h : ls.lookup y = some l) : (y, l) ∈ ls := by
  induction ls with
  | nil => cases h
  | cons p r ih =>
    rw [List.lookup_cons] at h
    cases c : y == p.1 with
    | true =>
      rw [c] at h
      have e : y = p.1 := by simpa using c
      cases h
      subst e
      exact .head _
    | false => rw [c] at h; exact .tail _ (ih h)
theorem lookup_none {ls : List (Int × Addr)} {y : Int} (h : ls.lookup y = none) : y ∉ ls.map (·.1) := by
  induction ls with
  | nil => simp
  | cons p r ih =>
    rw [List.lookup_cons] at h
    cases c : y == p.1 with
    | true => rw [c] at h; cases h
    | false =>
      rw [c] at h
      rw [List.map_cons, List.mem_cons, not_or]
      exact ⟨fun e => by rw [e] at c; simp at c, ih h⟩
theorem idxs_ne {ys : List Int} {k : Nat} {y x : Int} (hy : ys[k]? = some y) (h : x ≠ y) : idxs ys x (k + 1) = idxs ys x k := by
  rw [idxs_succ, hy, if_neg (fun e => h (by cases e; rfl)), List.append_nil]
theorem idxs_eq {ys : List Int} {k : Nat} {y : Int} (hy : ys[k]? = some y) : idxs ys y (k + 1) = idxs ys y k ++ [(k : Int)] := by
  rw [idxs_succ, if_pos hy]
theorem up_ls {F F' : Int → OP} {y : Int} {l : Addr} (hF : ∀ x, x ≠ y → F' x = F x) : ∀ {ls : List (Int × Addr)}, ls.lookup y = some l → (ls.map (·.1)).Nodup → Up l (F' y) (ls.map fun p => (p.2, F p.1)) (ls.map fun p => (p.2, F' p.1))
  | [], h, _ => by cases h
  | p :: r, h, nd => by
    rw [List.map_cons, List.nodup_cons] at nd
    rw [List.lookup_cons] at h
    cases c : y == p.1 with
    | true =>
      rw [c] at h
      have e : y = p.1 := by simpa using c
      cases h
      rw [List.map_cons, List.map_cons]
      have e2 : (r.map fun p => (p.2, F' p.1)) = r.map fun p => (p.2, F p.1) := by
        apply List.map_congr_left
        intro q hq
        rw [hF]
        intro e3
        exact nd.1 (by rw [← e, ← e3]; exact List.mem_map_of_mem (f := (·.1)) hq)
      rw [e2, e]
      exact .head
    | false =>
      rw [c] at h
      have e : p.1 ≠ y := fun q => by rw [q] at c; simp at c
      rw [List.map_cons, List.map_cons, hF _ e]
      exact .tail (up_ls hF h nd.2)
end Mine
end
section
open PySem PySem.W PyProof.Rows PySem.Calls
set_option autoImplicit false
namespace Mine
abbrev HasN (ats : List (Str × Value)) (x : Str) : Prop := ats.lookup x = none
abbrev Has (ats : List (Str × Value)) (x : Str) (v : Value) : Prop := ats.lookup x = some v
section
variable {prog : Program} {w : World} {A : Around} {E : Value → Shared → Prop} {h : Heap} {g : Array GenState} {d : Drawn} {tk : Nat} {os : OsState}
variable {K : Frag} {L : LT} {h₁ : Heap} {env : Env} {gl : List (Str × Value)} {al al' : AL} {m m' n n' : LT} {x : Str} {v : Value} {pos : Pos} {a b : Addr} {P P' : OP}
theorem St.isL {xs : List Int} (S : St K L env gl al m n h) (hm : (a, IntsP xs) ∈ m ++ (n ++ L)) : ∃ vs : List Value, h.IsList a vs.toArray := by
  obtain ⟨vs, _, h⟩ := S.isInts hm; exact ⟨vs, h⟩
theorem St.weakM (S : St K L env gl al m n h) (hm : (a, P) ∈ m) (U : Up a P' m m') (hp : ∀ o, P o → P' o) : St K L env gl al m' n h := by
  obtain ⟨o, ho, q⟩ := S.get (List.mem_append_left _ hm)
  exact S.up U (fun _ _ _ e => e) ⟨o, ho, hp _ q⟩
theorem St.permM (S : St K L env gl al m n h) (p : m.Perm m') : St K L env gl al m' n h := ⟨S.led.perm (.cons _ (p.append_right _)), S.env⟩
theorem St.permN (S : St K L env gl al m n h) (p : n.Perm n') : St K L env gl al m n' h := ⟨S.led.perm (.cons _ (.append_left _ (p.append_right _))), S.env⟩
theorem eCallT0 {Q : Value → Shared → Prop} {id : String} {p : Pos} (S : St K L env gl al m n h) (B : Bs K h₁ L) (hm : (x, .type id) ∈ gl)
    (hq : wpAny (model prog w) A (call (.type id) []) Q E ⟨h, g, d, tk, os⟩) (hd : (x == ("__debug__" : Str)) = false := by decide +kernel) :
    wpAny (model prog w) A (eval (.Call (.Name x p) [] [] pos) env) Q E ⟨h, g, d, tk, os⟩ := Call_Name rfl (S.gb B hm (callWith_type0 hq) hd)
theorem truNone {M : Model} {s : Shared} {Q : Bool → Shared → Prop} (hq : Q false s) : wpAny M A (truthy .none) Q E s := truthy_none hq
theorem unpackTup {elts : List PySem.Expr} {k : Nat} {vs : List Value} {Q : Unit → Shared → Prop} (S : St K L env gl al m n h) (hm : (a, TupP vs) ∈ m ++ (n ++ L)) (hh : A.handled = none)
    (hlen : (assignEach elts env).length = vs.length) (hstar : (assignEach elts env).findIdx? (·.1) = none)
    (hq : ∀ h', St K L env gl al m n h' → wpAny (model prog w) A (assignInOrder ((assignEach elts env).map (·.2)) vs) Q E ⟨h', g, d, tk, os⟩) :
    wpAny (model prog w) A (assign (.Tuple elts k pos) env (.ref a)) Q E ⟨h, g, d, tk, os⟩ := by
  obtain ⟨_, ho, q, rfl⟩ := S.get hm
  refine assign_Tuple_tuple hh ⟨_, ho, rfl, q, rfl⟩ (by rw [List.size_toArray]; exact hlen) hstar fun h' he => ?_
  exact hq h' (S.grown fun b o e => he b o (Nat.ne_of_lt (Heap.lt_size e)) e)
theorem asgSub {M : Model} {s : Shared} {o i : PySem.Expr} {p : Pos} {Q : Unit → Shared → Prop}
    (hq : wpAny M A (eval o env) (fun ov s₁ => wpAny M A (eval i env) (fun iv s₂ => wpAny M A (setItem ov iv v) Q E s₂) E s₁) E s) : wpAny M A (assign (.Subscript o i p) env v) Q E s := by
  intro Γ p hΓ
  simp only [assign_Subscript, Sem.wp_bind', Sem.wp_holding, Sem.wp_cmd_standAt, Sem.wp_release]
  exact Sem.wp_mono M Γ _ (fun ov p₁ s₁ h₁ => Sem.wp_mono M Γ _ (fun iv _ s₂ h₂ => h₂ Γ _ hΓ) (fun _ _ _ h' => h') _ _ (h₁ Γ p₁ hΓ)) (fun _ _ _ h' => h') _ _ (hq Γ _ hΓ)
theorem xSub {M : Model} {s : Shared} {rest : List Stmt} {Q : Flow → Shared → Prop} {o i e : PySem.Expr} {p q : Pos}
    (hq : wpAny M A (eval e env) (fun v s₀ => wpAny M A (eval o env) (fun ov s₁ => wpAny M A (eval i env) (fun iv s₂ => wpAny M A (setItem ov iv v) (fun _ s₃ => wpAny M A (execs rest env) Q E s₃) E s₂) E s₁) E s₀) E s)
    (hs : swapsWith e (some (.Subscript o i p)) q.line env = pure false := by rfl) : wpAny M A (execs (.Assign [.Subscript o i p] e q :: rest) env) Q E s := wpAny_execs_cons (wpAny_Assign_Subscript hq hs)
theorem forListJ {N : Shared → Prop} {Q : Flow → Shared → Prop} {X : Value → Shared → Prop} {target : PySem.Expr} {body : List Stmt} {l it : Addr} {len : Nat} (I : Nat → AL → LT → LT → Prop) (J : AL → LT → LT → Prop) (V : Nat → Value → Prop) (hh : A.handled = none)
    (S : St K L env gl al ((it, LIterP l 0) :: m) n h) (i0 : I 0 al m n)
    (hl : ∀ i al m n h p, I i al m n → St K L env gl al (p :: m) n h → ∃ vs : List Value, h.IsList l vs.toArray ∧ vs.length = len ∧ ∀ x, vs[i]? = some x → V i x)
    (turn : ∀ i al m n h tk p E x Q', i < len → V i x → I i al m n → (∀ al m n h tk, I (i + 1) al m n → St K L env gl al (p :: m) n h → Q' .next ⟨h, g, d, tk, os⟩ ∧ Q' .cont ⟨h, g, d, tk, os⟩) → (∀ al m n h tk, J al m n → St K L env gl al (p :: m) n h → Q' .brk ⟨h, g, d, tk, os⟩) → (∀ v s, Q (.ret v) s → Q' (.ret v) s) →
      St K L env gl al (p :: m) n h → wpAny (model prog w) A (assign target env x) (fun _ s₂ => wpAny (model prog w) A (execs body env) Q' E s₂) E ⟨h, g, d, tk, os⟩)
    (fin : ∀ al m n, I len al m n → J al m n)
    (done : ∀ al m n h tk, J al m n → St K L env gl al m n h → N ⟨h, g, d, tk, os⟩)
    (ht : ∀ v, letOwnedTupleGo target (.ref it) v = pure () := by intro _; rfl) : codeAny (model prog w) A (.forLoop target (.ref it) body [] env) (LoopR N Q X) ⟨h, g, d, tk, os⟩ :=
  forList I V hh S i0 hl (fun i al m n h tk p E x Q' h1 h2 h3 hN hB hR S => turn i al m n h tk p E x Q' h1 h2 h3 hN (fun al m n h tk j S => hB _ (done _ _ _ _ _ j S.drop)) hR S) (fun al m n h tk i1 S => done _ _ _ _ _ (fin _ _ _ i1) S) ht
theorem xWhile0 {test : PySem.Expr} {body rest : List Stmt} {q : Pos} {Q : Flow → Shared → Prop} (S : St K L env gl al m n h)
    (hq : ∀ (E' : Value → Shared → Prop) (N : Shared → Prop), (∀ h' tk', St K L env gl al m n h' → N ⟨h', g, d, tk', os⟩) → wpAny (model prog w) A (isTrue test env (eval test env)) (fun b s₂ => b = false ∧ N s₂) E' ⟨h, g, d, tk, os⟩)
    (done : ∀ h' tk', St K L env gl al m n h' → wpAny (model prog w) A (execs rest env) Q E ⟨h', g, d, tk', os⟩) : wpAny (model prog w) A (execs (.While test body [] q :: rest) env) Q E ⟨h, g, d, tk, os⟩ := by
  refine xWhile ?_
  refine codeAny_whileLoop (fun k s' => s' = ⟨h, g, d, tk, os⟩) (fun k s' hs => ?_) 0 rfl
  subst hs
  refine wpAny_mono (hq _ (fun s => wpAny (model prog w) A (execs rest env) Q E s) done) (fun b s₂ h₂ => ?_) fun _ _ x => x
  obtain ⟨rfl, h₂⟩ := h₂
  exact wpAny_execs_nil h₂
end
end Mine
end
section
open PySem PySem.W PyProof.Rows PySem.Calls
set_option autoImplicit false
namespace Mine
def BoundP (ty id : String) (b : Addr) : OP := fun o => o = { cls := .type ty, data := .fields #[.builtin id, .ref b] }
def DicP (prog : Program) (w : World) (N : Nat) (f : Int → Option Value) : OP := fun o => ∃ kvs, o.IsDictOf (intKind prog w) kvs ∧ kvs.length ≤ N ∧ ∀ k, valueAt kvs k = f k
def SetP : OP := fun o => ∃ led, o = { cls := .type "set", dict := none, data := .set #[] 0 (.fresh 0 0 led) }
def updF (f : Int → Option Value) (k : Int) (v : Value) : Int → Option Value := fun x => if x = k then some v else f x
theorem valueAt_cons {p : Int × Value} {r : List (Int × Value)} {x : Int} : valueAt (p :: r) x = if p.1 = x then some p.2 else valueAt r x := by
  unfold valueAt
  by_cases e : p.1 = x <;> simp [e]
theorem valueAt_map {k : Int} {v : Value} {x : Int} : ∀ {kvs : List (Int × Value)}, valueAt (kvs.map fun kv => if kv.1 = k then (kv.1, v) else kv) x = if x = k then (if kvs.any (fun kv => kv.1 = k) then some v else none) else valueAt kvs x
  | [] => by unfold valueAt; by_cases e : x = k <;> simp [e]
  | p :: r => by
    have ih := valueAt_map (k := k) (v := v) (x := x) (kvs := r)
    rw [List.map_cons, valueAt_cons, ih, valueAt_cons]
    by_cases e1 : p.1 = k
    · by_cases e2 : x = k
      · simp [e1, e2]
      · have : ¬ k = x := fun q => e2 q.symm
        simp [e1, e2, this]
    · by_cases e2 : x = k
      · subst e2
        simp only [List.any_cons, Bool.or_eq_true, decide_eq_true_eq, e1, false_or, if_false, if_true]
      · simp [e1, e2]
theorem valueAt_snoc {k : Int} {v : Value} {x : Int} : ∀ {kvs : List (Int × Value)}, valueAt (kvs ++ [(k, v)]) x = match valueAt kvs x with | some y => some y | none => if x = k then some v else none
  | [] => by
    unfold valueAt
    by_cases e : x = k
    · simp [e]
    · have : ¬ k = x := fun q => e q.symm
      simp [e, this]
  | p :: r => by
    rw [List.cons_append, valueAt_cons, valueAt_cons, valueAt_snoc (kvs := r)]
    by_cases e : p.1 = x <;> simp [e]
theorem valueAt_any {k : Int} : ∀ {kvs : List (Int × Value)}, kvs.any (fun kv => kv.1 = k) = (valueAt kvs k).isSome
  | [] => rfl
  | p :: r => by
    rw [List.any_cons, valueAt_cons, valueAt_any (kvs := r)]
    by_cases e : p.1 = k <;> simp [e]
theorem valueAt_stored {kvs : List (Int × Value)} {k : Int} {v : Value} {x : Int} : valueAt (stored kvs k v) x = if x = k then some v else valueAt kvs x := by
  unfold stored
  by_cases c : kvs.any (fun kv => kv.1 = k) = true
  · rw [if_pos c, valueAt_map, if_pos c]
  · rw [if_neg c, valueAt_snoc]
    have h : valueAt kvs k = none := by
      rw [valueAt_any] at c
      cases q : valueAt kvs k with
      | none => rfl
      | some y => rw [q] at c; exact absurd rfl c
    by_cases e : x = k
    · subst e; simp [h]
    · simp only [e, if_false]
      cases valueAt kvs x <;> rfl

section
variable {prog : Program} {w : World} {A : Around} {E : Value → Shared → Prop} {h : Heap} {g : Array GenState} {d : Drawn} {tk : Nat} {os : OsState}
variable {K : Frag} {L : LT} {h₁ : Heap} {env : Env} {gl : List (Str × Value)} {al al' : AL} {m m' n n' : LT} {x : Str} {v : Value} {pos : Pos} {a b : Addr} {P P' : OP}
theorem mods_ne (hb : b ≠ 1) : (b == sysModules) = false := by simpa [sysModules] using hb
theorem St.big (S : St K L env gl al m n h) (B : Bs K h₁ L) : h.objs.size ≠ 1 := by
  obtain ⟨p, loose, mg, mb, T⟩ := B.top
  have := modules_low (T.nolimit.keeps (S.kb B))
  exact Nat.ne_of_gt this
theorem dNew {Q : Value → Shared → Prop} (S : St K L env gl al m n h) (B : Bs K h₁ L) (hq : ∀ b h', b ≠ 1 → St K L env gl al m ((b, DicP prog w 0 fun _ => none) :: n) h' → Q (.ref b) ⟨h', g, d, tk, os⟩) :
    wpAny (model prog w) A (eval (.Dict [] [] pos) env) Q E ⟨h, g, d, tk, os⟩ := by
  refine wpAny_Dict_empty (hq _ _ (S.big B) (S.push _ rfl ?_))
  obtain ⟨o, ho, hd⟩ := Heap.dictOf_iff.mp (Heap.DictOf.new (knd := intKind prog w) h)
  rw [Heap.get?_push_size _ rfl] at ho
  cases ho
  exact ⟨[], hd, Nat.le_refl _, fun k => rfl⟩
theorem setNew {Q : Value → Shared → Prop} (S : St K L env gl al m n h) (hq : ∀ b h', St K L env gl al m ((b, SetP) :: n) h' → Q (.ref b) ⟨h', g, d, tk, os⟩) :
    wpAny (model prog w) A (call (.type "set") []) Q E ⟨h, g, d, tk, os⟩ := call_set_0 fun led => hq _ _ (S.push _ rfl ⟨led, rfl⟩)
theorem setD {N : Nat} {f : Int → Option Value} {k : Int} {t : Tok} {Q : Unit → Shared → Prop} (S : St K L env gl al m n h) (hm : (b, DicP prog w N f) ∈ m) (U : Up b (DicP prog w (N + 1) (updF f k v)) m m') (hN : N ≤ 1000)
    (hq : ∀ h' tk', St K L env gl al m' n h' → Q () ⟨h', g, d, tk', os⟩) : wpAny (model prog w) A (setItem (.ref b) (.int k t) v) Q E ⟨h, g, d, tk, os⟩ := by
  obtain ⟨o, ho, kvs, hd, hl, hf⟩ := S.get (List.mem_append_left _ hm)
  refine wpAny_setItem_pairs (knd := intKind prog w) (k := k) (by show Value.isInt k (.int k t) = true; simp [Value.isInt]) (Heap.dictOf_iff.mpr ⟨o, ho, hd⟩) (fun h' hm' hs => ?_) (fits (by lia  ))
  obtain ⟨o', ho', hd'⟩ := Heap.dictOf_iff.mp hm'
  exact hq _ _ (S.up U (fun b o hb e => (hs.2 b hb).trans e) ⟨o', ho', _, hd', Nat.le_trans (stored_length_le ..) (by lia  ), fun x => by rw [valueAt_stored, hf]; rfl⟩)
theorem sdD {N : Nat} {f : Int → Option Value} {k : Int} {t : Tok} {Q : Value → Shared → Prop} (S : St K L env gl al m n h) (hb : b ≠ 1) (hm : (b, DicP prog w N f) ∈ m) (U : Up b (DicP prog w (N + 1) (updF f k v)) m m') (hN : N ≤ 1000)
    (h1 : ∀ u tk', f k = some u → Q u ⟨h, g, d, tk', os⟩)
    (h2 : ∀ h' tk', f k = none → St K L env gl al m' n h' → Q v ⟨h', g, d, tk', os⟩) : wpAny (model prog w) A (call (.builtin "dict.setdefault") [.ref b, .int k t, v]) Q E ⟨h, g, d, tk, os⟩ := by
  obtain ⟨o, ho, kvs, hd, hl, hf⟩ := S.get (List.mem_append_left _ hm)
  have hD : (⟨h, g, d, tk, os⟩ : Shared).heap.DictOf (intKind prog w) b kvs := Heap.dictOf_iff.mpr ⟨o, ho, hd⟩
  refine call_meetsIn PySem.F.slot_dict_setdefault hD.typeIs PySem.F.entry_dict_setdefault (PySem.F.args_dict_setdefault_3 _ _ _) (kt_meets_setdefault (intKind prog w) (k := k) b (by show Value.isInt k (.int k t) = true; simp [Value.isInt]) (mods_ne hb) v)
    ⟨kvs, hD, fits (by lia  ), fun u hu => h1 _ _ (by rw [← hf]; exact hu), fun hn h' hmm hs => ?_⟩
  obtain ⟨o', ho', hd'⟩ := Heap.dictOf_iff.mp hmm
  exact h2 _ _ (by rw [← hf]; exact hn) (S.up U (fun b o hb e => (hs.2 b hb).trans e) ⟨o', ho', _, hd', Nat.le_trans (stored_length_le ..) (by lia  ), fun x => by rw [valueAt_stored, hf]; rfl⟩)
theorem getD {N : Nat} {f : Int → Option Value} {k : Int} {t : Tok} {Q : Value → Shared → Prop} (S : St K L env gl al m n h) (hb : b ≠ 1) (hm : (b, DicP prog w N f) ∈ m ++ (n ++ L))
    (hq : ∀ tk', Q ((f k).getD v) ⟨h, g, d, tk', os⟩) : wpAny (model prog w) A (call (.builtin "dict.get") [.ref b, .int k t, v]) Q E ⟨h, g, d, tk, os⟩ := by
  obtain ⟨o, ho, kvs, hd, hl, hf⟩ := S.get hm
  have hD : (⟨h, g, d, tk, os⟩ : Shared).heap.DictOf (intKind prog w) b kvs := Heap.dictOf_iff.mpr ⟨o, ho, hd⟩
  exact call_meetsIn PySem.F.slot_dict_get hD.typeIs PySem.F.entry_dict_get (PySem.F.args_dict_get_3 _ _ _) (meets_dict_get_default (intKind prog w) (k := k) b (by show Value.isInt k (.int k t) = true; simp [Value.isInt]) (mods_ne hb) v)
    ⟨valueAt kvs, hD.mapOf, by rw [hf]; exact hq _⟩
theorem St.dicT {N : Nat} {f : Int → Option Value} (S : St K L env gl al m n h) (hm : (b, DicP prog w N f) ∈ m ++ (n ++ L)) : (⟨h, g, d, tk, os⟩ : Shared).TypeIs (.ref b) "dict" ∧ (∀ c, Value.ref b = .ref c → ∃ ob, h.get? c = some ob ∧ ob.dict = none) := by
  obtain ⟨o, ho, kvs, ⟨es, ep, hx, _⟩, _⟩ := S.get hm
  exact ⟨⟨o, ho, hx.1⟩, fun c e => by cases e; exact ⟨o, ho, hx.2.1⟩⟩
theorem St.dicO {N : Nat} {f : Int → Option Value} (S : St K L env gl al m n h) (hm : (b, DicP prog w N f) ∈ m ++ (n ++ L)) : ∃ es ep, h.get? b = some { cls := .type "dict", dict := none, data := .dict es ep, slots := #[] } := by
  obtain ⟨⟨c, dd, dt, sl⟩, ho, kvs, ⟨es, ep, ⟨h1, h2, h3⟩, h4, _⟩, _⟩ := S.get hm
  dsimp only at h1 h2 h3 h4
  subst h1 h2 h3 h4
  exact ⟨es, ep, ho⟩
theorem methT {T : String} {Q : Value → Shared → Prop} {o e : PySem.Expr} {y : Str} {ap pos : Pos} {r : List PySem.Expr} {id : String} (pa : PlainAttrs T) (slot : Slot T y id) (hty : typeOf (.builtin id) = pure (.type "method_descriptor"))
    (hq : wpAny (model prog w) A (eval o env) (fun ov s₁ => (s₁.TypeIs ov T ∧ (∀ a, ov = .ref a → ∃ ob, s₁.heap.get? a = some ob ∧ ob.dict = none)) ∧
      wpAny (model prog w) A (spliced (backTo pos (starEach (e :: r) env))) (fun vs s₂ => wpAny (model prog w) A (call (.builtin id) (ov :: vs)) Q E s₂) E s₁) E ⟨h, g, d, tk, os⟩)
    (hbase : attributeBase o y env (eval o env) = eval o env := by rfl)
    (hfew : ((backTo pos (starEach (e :: r) env)).all (fun x => !x.1) && (backToKw pos (keywordEach [] env)).all (fun x => x.1.isSome)
      && decide ((e :: r).length + ([] : List Keyword).length + (if ([] : List Keyword).isEmpty then 0 else 1) < 30)) = true := by rfl)
    (hline : (ap.endLine == pos.line) = true := by rfl) (he : starEach (e :: r) env = (false, eval e env) :: starEach r env := by rfl) (hplain : (backTo pos (starEach r env)).any (·.1) = false := by rfl) :
    wpAny (model prog w) A (eval (.Call (.Attribute o y ap) (e :: r) [] pos) env) Q E ⟨h, g, d, tk, os⟩ :=
  wpAny_Call_method hbase hfew hline pa slot hty (wpAny_mono hq (fun ov s₁ h₁ => ⟨h₁.1.1, h₁.1.2, by
    have h2 := h₁.2
    rw [he] at h2 ⊢
    exact callWith_builtin (by show (false || (backTo pos (starEach r env)).any (·.1)) = false; rw [hplain]; rfl) (evalArgs_plain h2)⟩) fun _ _ x => x)
theorem boundKeep {M : Model} {id : String} {q : Addr} (hp : Heap) (X : hp.get? q = some { cls := .type "builtin_function_or_method", data := .fields #[.builtin id, .ref b] }) :
    ∃ k, (k = Keeper.frame ∨ k = Keeper.machine ∨ k = Keeper.boundFrame) ∧ Looks M hp (keeperOf (.ref q)) k :=
  ⟨.machine, .inr (.inl rfl), (Looks.ld (part := none) X).andThen .now⟩
theorem eCallBound {id : String} {q : Addr} {Q : Value → Shared → Prop} {e : PySem.Expr} {r : List PySem.Expr} {p : Pos} (S : St K L env gl al m n h) (hm : (x, some (.ref q)) ∈ al)
    (hq : wpAny (model prog w) A (spliced (backTo pos (starEach (e :: r) env))) (fun vs s₁ => s₁.heap.get? q = some { cls := .type "builtin_function_or_method", data := .fields #[.builtin id, .ref b] } ∧ wpAny (model prog w) A (call (.ref q) vs) Q E s₁) E ⟨h, g, d, tk, os⟩)
    (he : starEach (e :: r) env = (false, eval e env) :: starEach r env := by rfl) (hplain : (backTo pos (starEach r env)).any (·.1) = false := by rfl) (hd : (x == ("__debug__" : Str)) = false := by decide +kernel) :
    wpAny (model prog w) A (eval (.Call (.Name x p) (e :: r) [] pos) env) Q E ⟨h, g, d, tk, os⟩ := by
  refine Call_Name rfl (S.ld hm ?_ hd)
  rw [he] at hq ⊢
  exact callWith_of (P := fun hp => hp.get? q = some { cls := .type "builtin_function_or_method", data := .fields #[.builtin id, .ref b] }) (by show ((false || (backTo pos (starEach r env)).any (·.1)) || false) = false; rw [hplain]; rfl) boundKeep (evalArgs_plain hq)
def sigOk (T id : String) (args : Args) : Prop := (match Manifest.signature? id with | some sig => Bind.checkArgs id { sig with full := s!"{Bind.lastOf T}.{Bind.lastOf id}" } args | none => pure ()) = pure ()
theorem bound_check {T id : String} {s : Shared} {rest : List Value} {Q : Unit → Shared → Prop} {o : Obj} (hb : s.heap.get? b = some o) (hc : o.cls = .type T) (hn : (match o.data with | .cls _ => true | _ => false) = false) (hk : builtinKind id = some .method) (hv : Manifest.varargsMethods.contains id = false) (hs : isSubtype (.type T) (.type "module") = pure false)
    (hsig : sigOk T id ⟨.ref b :: rest, []⟩) (hq : Q () s) : wpAny (model prog w) A (checkBoundCall id ⟨.ref b :: rest, []⟩) Q E s := by
  unfold checkBoundCall
  cases h1 : Manifest.signature? id with
  | none => exact wpAny_pure hq
  | some sig =>
    unfold sigOk at hsig
    rw [h1] at hsig
    have h2 : Bind.checkArgs id { sig with full := s!"{Bind.lastOf T}.{Bind.lastOf id}" } ⟨.ref b :: rest, []⟩ = pure () := hsig
    dsimp only
    rw [hk]
    try dsimp only
    rw [if_neg (by decide)]
    unfold isInstance
    refine wpAny_bind (wpAny_bind (wpAny_typeOf ⟨o, hb, hc⟩ (wpAny_of_eq hs ?_)))
    rw [hv]
    rw [if_neg (by decide)]
    unfold isType
    refine wpAny_bind (wpAny_bind (wpAny_loadPart hb (wpAny_pure ?_)))
    have e : (match o.data with | .cls _ => true | _ => false) = false := hn
    show wpAny _ _ (if (match o.data with | .cls _ => true | _ => false) = true then _ else _) _ _ _
    rw [e, if_neg (by decide)]
    refine wpAny_bind (wpAny_typeOf ⟨o, hb, hc⟩ ?_)
    exact wpAny_of_eq h2 hq
theorem call_bound {id : String} {q : Addr} {B : Builtin} {s : Shared} {rest : List Value} {Sp : PySem.Spec} {Q : Value → Shared → Prop} (hq : s.heap.get? q = some { cls := .type "builtin_function_or_method", data := .fields #[.builtin id, .ref b] })
    (hp : plainId id = true) (entry : entryFor table id = some B) (chk : ∀ (A : Around) (Q : Unit → Shared → Prop) (E : Value → Shared → Prop), Q () s → wpAny (model prog w) A (checkBoundCall id ⟨.ref b :: rest, []⟩) Q E s)
    (g : MeetsIn prog w (B ⟨.ref b :: rest, []⟩) Sp) (hs : Sp A (wants Q E) s) : wpAny (model prog w) A (call (.ref q) rest) Q E s := by
  refine wpAny_call (codeAny_of_tree ?_)
  show wpAny _ _ (callAny (.ref q) _) _ _ _
  refine nd_load hq ?_
  show wpAny _ _ (checkBoundCall id ⟨.ref b :: rest, []⟩ >>= fun _ => again (.builtin id ⟨.ref b :: rest, []⟩)) _ _ _
  refine wpAny_bind (chk _ _ _ ?_)
  refine wpAny_pure ⟨plainId_quiet hp _, codeAny_builtin entry ?_⟩
  rw [Around.under_plainId hp]
  exact g A (wants Q E) s hs
theorem sub_dict_mod : isSubtype (.type "dict") (.type "module") = pure false := by rw [isSubtype_type]; kernel_rfl
theorem sub_set_mod : isSubtype (.type "set") (.type "module") = pure false := by rw [isSubtype_type]; kernel_rfl
theorem callGet {N : Nat} {f : Int → Option Value} {k : Int} {t : Tok} {q : Addr} {Q : Value → Shared → Prop} (S : St K L env gl al m n h) (hb : b ≠ 1) (hm : (b, DicP prog w N f) ∈ m ++ (n ++ L)) (hqm : (q, BoundP "builtin_function_or_method" "dict.get" b) ∈ m ++ (n ++ L))
    (hq : ∀ tk', Q ((f k).getD v) ⟨h, g, d, tk', os⟩) : wpAny (model prog w) A (call (.ref q) [.int k t, v]) Q E ⟨h, g, d, tk, os⟩ := by
  obtain ⟨o, ho, kvs, hd, hl, hf⟩ := S.get hm
  obtain ⟨_, hqo, rfl⟩ := S.get hqm
  have hD : (⟨h, g, d, tk, os⟩ : Shared).heap.DictOf (intKind prog w) b kvs := Heap.dictOf_iff.mpr ⟨o, ho, hd⟩
  obtain ⟨es, ep, hx, hdt, _⟩ := id hd
  refine call_bound hqo (by decide +kernel) PySem.F.entry_dict_get (fun A Q E q0 => bound_check ho hx.1 (by rw [hdt]) (by decide +kernel) (by decide +kernel) sub_dict_mod (by unfold sigOk; rw [signature?_of (id := "dict.get") (n := ['t', 'e', 'g']) (o := ['t', 'c', 'i', 'd']) (by kernel_rfl) PySem.F.owner_dict]; kernel_rfl) q0) (meets_dict_get_default (intKind prog w) (k := k) b (by show Value.isInt k (.int k t) = true; simp [Value.isInt]) (mods_ne hb) v)
    ⟨valueAt kvs, hD.mapOf, by rw [hf]; exact hq _⟩
theorem meets_set_none {k : Int} {t : Tok} : MeetsIn prog w (Builtin.«frozenset.__contains__» ⟨[.ref b, .int k t], []⟩) (fun _ R s => (∃ o, s.heap.get? b = some o ∧ SetP o) ∧ ∀ tk', R (.ok (.ret (.bool false))) { s with toks := tk' }) :=
  .of_wp fun A R s ⟨⟨o, ho, led, e⟩, hr⟩ => by
    have hS : s.heap.SetOf (intKind prog w) b (fun _ => false) 0 := (setObjOf_fresh (knd := intKind prog w) led).setOf (by rw [ho, e]) (by decide +kernel)
    have hkey : (intKind prog w).is k (.int k t) = true := by show Value.isInt k (.int k t) = true; simp [Value.isInt]
    unfold Builtin.«frozenset.__contains__» Builtin.Frozenset.oneOther
    simp only [List.isEmpty_nil, bind_assoc]
    unfold Builtin.Frozenset.addrOf Builtin.Frozenset.withSetAsKey setContains
    refine wpAny_bind (wpAny_pure ?_)
    try dsimp only
    refine wpAny_bind (wpAny_pure ?_)
    try dsimp only
    refine wpAny_bind (wpAny_tryCatch ?_)
    refine wpAny_holding ?_
    refine wpAny_bind ((intKind prog w).pyHash hkey ?_)
    refine wpAny_bind (wpAny_setFind_of (s := { s with toks := s.toks + 1 }) hkey rfl hS fun r hr' => ?_)
    refine wpAny_pure ?_
    show wpAny _ _ (ret (Value.bool r.isSome)) _ _ _
    rw [hr']
    exact wpAny_pure ⟨_, rfl, hr _⟩
theorem has_sig {k : Int} {t : Tok} : sigOk "set" "set.__contains__" ⟨.ref b :: [.int k t], []⟩ := by
  unfold sigOk
  rw [signature?_of (id := "set.__contains__") (n := ['_', '_', 's', 'n', 'i', 'a', 't', 'n', 'o', 'c', '_', '_']) (o := ['t', 'e', 's']) (by kernel_rfl) PySem.F.owner_set]; kernel_rfl
theorem has_check {k : Int} {t : Tok} {led : Bool} {s : Shared} {Q : Unit → Shared → Prop} (ho : s.heap.get? b = some { cls := .type "set", dict := none, data := .set #[] 0 (.fresh 0 0 led) }) (q0 : Q () s) :
    wpAny (model prog w) A (checkBoundCall "set.__contains__" ⟨.ref b :: [.int k t], []⟩) Q E s := by
  have hk1 : builtinKind "set.__contains__" = some .method := by decide +kernel
  have hv1 : Manifest.varargsMethods.contains "set.__contains__" = false := by decide +kernel
  have h1 := @bound_check prog w A E b "set" "set.__contains__" s [.int k t] Q _ ho rfl rfl
  have h2 := h1 hk1
  have h3 := h2 hv1
  have h4 := h3 sub_set_mod
  have h5 := h4 has_sig
  exact h5 q0
theorem callHas {k : Int} {t : Tok} {q : Addr} {Q : Value → Shared → Prop} (S : St K L env gl al m n h) (hm : (b, SetP) ∈ m ++ (n ++ L)) (hqm : (q, BoundP "builtin_function_or_method" "set.__contains__" b) ∈ m ++ (n ++ L))
    (hq : ∀ tk', Q (.bool false) ⟨h, g, d, tk', os⟩) : wpAny (model prog w) A (call (.ref q) [.int k t]) Q E ⟨h, g, d, tk, os⟩ := by
  obtain ⟨o, ho, led, e⟩ := S.get hm
  obtain ⟨_, hqo, rfl⟩ := S.get hqm
  have chk : ∀ (A : Around) (Q : Unit → Shared → Prop) (E : Value → Shared → Prop), Q () ⟨h, g, d, tk, os⟩ → wpAny (model prog w) A (checkBoundCall "set.__contains__" ⟨.ref b :: [.int k t], []⟩) Q E ⟨h, g, d, tk, os⟩ := fun A Q E q0 =>
    has_check (s := ⟨h, g, d, tk, os⟩) (by rw [ho, e]) q0
  exact call_bound (Sp := fun _ R s => (∃ o, s.heap.get? b = some o ∧ SetP o) ∧ ∀ tk', R (.ok (.ret (.bool false))) { s with toks := tk' }) hqo (by decide +kernel) entry_set_contains chk meets_set_none ⟨⟨_, ho, ⟨led, e⟩⟩, hq⟩
end
end Mine
end
section
open PySem PySem.W PyProof.Rows PySem.Calls
set_option autoImplicit false
namespace Mine
abbrev glCh : List (Str × Value) := [("enumerate", .type "enumerate"), ("set", .type "set"), ("len", .builtin "len")]
def nmCh : List Str := ["self", "b", "b2j", "i", "elt", "indices", "junk", "isjunk", "popular", "n"]
abbrev alCh (self b b2j i elt indices junk isjunk popular n : Option Value) : AL := [("self", self), ("b", b), ("b2j", b2j), ("i", i), ("elt", elt), ("indices", indices), ("junk", junk), ("isjunk", isjunk), ("popular", popular), ("n", n)]
inductive Chained (prog : Program) (w : World) (ys : List Int) (n : LT) (b2j bj : Addr) : Prop
  | mk (h1 : b2j ≠ 1) (h2 : (bj, SetP) ∈ n) (ls : List (Int × Addr)) (h3 : (b2j, DicP prog w ys.length (bf ls)) ∈ n) (h4 : ∀ p ∈ ls, (p.2, IntsP (idxs ys p.1 ys.length)) ∈ n) (h5 : ∀ y, ls.lookup y = none → y ∉ ys)
inductive OkCh (prog : Program) (w : World) (ys : List Int) (M : Addr → Addr → Addr → LT) (m n : LT) (v : Value) : Prop
  | mk (e : v = .none) (b2j bj bp : Addr) (e2 : m = M b2j bj bp) (h : Chained prog w ys n b2j bj)
inductive K5a (prog : Program) (w : World) (si ab b2j : Addr) (D : OP) (dx : Addr) (ys : List Int) (k : Nat) (al : AL) (m n : LT) : Prop
  | mk (ls : List (Int × Addr)) (i elt indices : Option Value) (e1 : al = alCh (some (.ref si)) (some (.ref ab)) (some (.ref b2j)) i elt indices none none none none) (e2 : m = (b2j, DicP prog w k (bf ls)) :: (dx, D) :: ls.map (fun p => (p.2, IntsP (idxs ys p.1 k))))
      (h1 : (ls.map (·.1)).Nodup) (h2 : ∀ y, ls.lookup y = none → idxs ys y k = [])
theorem chain_does {prog : Program} {w : World} {h₁ : Heap} {si dx ab : Addr} {ys : List Int} {ats : List (Str × Value)} {L : LT} (P : Params) (B : Bs (K P) h₁ L) (hi : (si, InsP 373 dx) ∈ L) (hb : (ab, IntsP ys) ∈ L)
    (a1 : Has ats "b" (.ref ab)) (a2 : Has ats "isjunk" .none) (a3 : Has ats "autojunk" (.bool false)) (hl : ats.length ≤ 100) (h7 : ys.length ≤ 100) :
    DoesM prog w [(dx, AtP ats)] L 1 (fun _ => True) (.ref 319) [.ref si]
      (OkCh prog w ys fun b2j bj bp => [(dx, AtP (("bpopular", .ref bp) :: ("bjunk", .ref bj) :: ("b2j", .ref b2j) :: ats))]) := by
  refine enterM B (f := 319) (name := _) (qual := _) (params := _) (body := _) (scope := _) (dV := _) (kV := _) (doc := _) (pm := _) (cdv := _) (ct := _) (oc := _) (an := _) (od := _) (osl := _) rfl (by rfl) glCh
    (alCh (some (.ref si)) none none none none none none none none none) nmCh rfl
    [("self", .ref si)] (fun s _ => BindsTo.of_eq rfl) (fun L' => ?_) ?_ (by kernel_rfl!) (by lia  ) ?_
  case refine_1 => exact ⟨rfl, rfl, rfl, by rfl, by decide +kernel, ⟨rfl, .inr ⟨by rfl, by rfl, by decide +kernel⟩⟩, ⟨rfl, .inr ⟨by rfl, by rfl, by decide +kernel⟩⟩, ⟨rfl, .inr ⟨by rfl, by rfl, by decide +kernel⟩⟩, trivial⟩
  case refine_2 => exact hal_of (binds := [("self", .ref si)]) (ns := nmCh.drop 1) (by show (nmCh.take 1).Nodup; decide +kernel)
  rintro A h g d tk os E env Q RM henv hff ⟨outer, hA, hF⟩ G G0 S
  have hh := RM.hh
  have hu := RM.hu
  refine xAssign ?_
  refine Attribute_Name_ ?_
  refine St.ld (by assumption) (by with_reducible exact Mine.at0) ?_
  refine St.getA (by assumption) (by assumption) (by (with_reducible refine List.mem_append_right _ ?_; (with_reducible refine List.mem_append_right _ ?_; with_reducible assumption))) (by (with_reducible refine List.mem_append_left _ ?_; with_reducible exact List.mem_cons_self)) (by rfl) (by rfl) (attr := none) (by rfl) (by rfl) (by first | rfl | assumption) (by rfl) fun _ => ?_
  refine St.st (by assumption) (by with_reducible exact Mine.put1) fun _ _ _ => ?_
  refine xTwo ?_
  refine dNew (by assumption) B fun b2j h' hne S => ?_
  have S := S.promote
  with_reducible refine asgAttr ?_
  refine St.ld (by assumption) (by with_reducible exact Mine.at0) ?_
  refine St.setA (by assumption) (by assumption) (by (with_reducible refine List.mem_append_right _ ?_; (with_reducible refine List.mem_append_right _ ?_; with_reducible assumption))) (by (with_reducible refine List.mem_append_left _ ?_; (with_reducible refine List.mem_cons_of_mem _ ?_; with_reducible exact List.mem_cons_self))) (by with_reducible exact Up.tail (by with_reducible exact Up.head)) (by rfl) (by rfl) (by rfl) (by rfl) (by first | lia   | (simp only [List.length_cons, List.length_nil]; lia  ) | (simp; done)) fun _ _ _ => ?_
  with_reducible refine assign_Name ?_
  refine St.st (by assumption) (by with_reducible exact Mine.put2) fun _ _ _ => ?_
  refine xFor ?_
  refine eCallT (by assumption) (by assumption) (by with_reducible exact Mine.at0) ?_
  refine spC ?_
  refine St.ld (by assumption) (by with_reducible exact Mine.at1) ?_
  with_reducible refine spN ?_
  refine call_enum (by assumption) (St.isL (xs := ys) (by assumption) (by (with_reducible refine List.mem_append_right _ ?_; (with_reducible refine List.mem_append_right _ ?_; with_reducible assumption)))) fun e it h' S => ?_
  refine iter_enum S ?_
  refine forEnum (len := ys.length) (K5a prog w si ab b2j (AtP (("b2j", .ref b2j) :: ats)) dx ys) (fun i _ _ _ v => IntAt ys i v) hh S ⟨[], _, _, _, rfl, rfl, .nil, fun y _ => rfl⟩ rfl rfl ?_ ?_ ?_
  · rintro i al m n h p q ⟨ls, i1, elt, indices, rfl, rfl, nd, hn⟩ S
    obtain ⟨us, hu, hL⟩ := S.isInts (a := ab) (xs := ys) (by (with_reducible refine List.mem_append_right _ ?_; (with_reducible refine List.mem_append_right _ ?_; with_reducible assumption)))
    exact ⟨us, hL, hu.length, fun x hx => ints_at2 hu hx⟩
  · rintro k al m n h tk t p q E v Q1 hk ⟨y, u, hy, rfl⟩ ⟨ls, i1, elt, indices, rfl, rfl, nd, hn⟩ hN1 hB1 hR1 S
    refine assignInOrder_cons (assign_Name ?_)
    refine St.st (by assumption) (by with_reducible exact Mine.put3) fun _ _ _ => ?_
    refine assignInOrder_cons (assign_Name ?_)
    refine St.st (by assumption) (by with_reducible exact Mine.put4) fun _ _ _ => ?_
    refine assignInOrder_nil ?_
    refine xAssign ?_
    refine methT PySem.F.plainAttrs_dict PySem.F.slot_dict_setdefault PySem.F.type_dict_setdefault ?_
    refine St.ld (by assumption) (by with_reducible exact Mine.at2) ?_
    refine ⟨St.dicT (N := k) (f := bf ls) (by assumption) (by (with_reducible refine List.mem_append_left _ ?_; (with_reducible refine List.mem_cons_of_mem _ ?_; (with_reducible refine List.mem_cons_of_mem _ ?_; with_reducible exact List.mem_cons_self)))), ?_⟩
    refine spC ?_
    refine St.ld (by assumption) (by with_reducible exact Mine.at4) ?_
    refine spC ?_
    with_reducible refine List_ ?_
    with_reducible refine spN ?_
    refine newLstI (by assumption) .nil fun nl h' S => ?_
    have S := S.promote
    with_reducible refine spN ?_
    refine sdD S hne (by (with_reducible refine List.mem_cons_of_mem _ ?_; (with_reducible refine List.mem_cons_of_mem _ ?_; (with_reducible refine List.mem_cons_of_mem _ ?_; with_reducible exact List.mem_cons_self)))) (by with_reducible exact Up.tail (by with_reducible exact Up.tail (by with_reducible exact Up.tail (by with_reducible exact Up.head)))) (by lia  ) (fun v tk' hv => ?_) fun h' tk' hv S => ?_
    · have S := S.demote
      obtain ⟨l, hl2, rfl⟩ : ∃ l, ls.lookup y = some l ∧ v = .ref l := by
        unfold bf at hv
        cases c : ls.lookup y with
        | none => rw [c] at hv; cases hv
        | some l => rw [c] at hv; cases hv; exact ⟨l, rfl, rfl⟩
      have hm : (l, IntsP (idxs ys y k)) ∈ ls.map (fun p => (p.2, IntsP (idxs ys p.1 k))) := List.mem_map.mpr ⟨_, lookup_mem hl2, rfl⟩
      have U : Up l (IntsP (idxs ys y k ++ [(k : Int)])) (ls.map fun p => (p.2, IntsP (idxs ys p.1 k))) (ls.map fun p => (p.2, IntsP (idxs ys p.1 (k + 1)))) := by
        rw [← idxs_eq hy]
        exact up_ls (F := fun x => IntsP (idxs ys x k)) (F' := fun x => IntsP (idxs ys x (k + 1))) (fun x hx => by rw [idxs_ne hy hx]) hl2 nd
      have il := idxs_len ys y k
      refine St.st (by assumption) (by with_reducible exact Mine.put5) fun _ _ _ => ?_
      refine xExpr (by assumption) ?_
      refine methL PySem.F.slot_list_append PySem.F.type_list_append ?_
      refine St.ld (by assumption) (by with_reducible exact Mine.at5) ?_
      refine ⟨St.lstI (xs := idxs ys y k) (by assumption) (by (with_reducible refine List.mem_append_left _ ?_; (with_reducible refine List.mem_cons_of_mem _ ?_; (with_reducible refine List.mem_cons_of_mem _ ?_; (with_reducible refine List.mem_cons_of_mem _ ?_; (with_reducible refine List.mem_cons_of_mem _ ?_; with_reducible assumption)))))), ?_⟩
      refine spC ?_
      refine St.ld (by assumption) (by with_reducible exact Mine.at3) ?_
      with_reducible refine spN ?_
      refine appendI (by assumption) (xs := idxs ys y k) (by (with_reducible refine List.mem_cons_of_mem _ ?_; (with_reducible refine List.mem_cons_of_mem _ ?_; (with_reducible refine List.mem_cons_of_mem _ ?_; (with_reducible refine List.mem_cons_of_mem _ ?_; with_reducible assumption))))) (.tail (.tail (.tail (.tail U)))) (by lia  ) fun h' S => ?_
      skip
      have S := S.weakM (a := b2j) (P := DicP prog w k (bf ls)) (P' := DicP prog w (k + 1) (bf ls)) (by (with_reducible refine List.mem_cons_of_mem _ ?_; (with_reducible refine List.mem_cons_of_mem _ ?_; with_reducible exact List.mem_cons_self))) (.tail (.tail .head)) (fun o hx => by obtain ⟨kvs, x, y, z⟩ := hx; exact ⟨kvs, x, Nat.le_succ_of_le y, z⟩)
      exact xEnd (hN1 _ _ _ _ _ ⟨ls, _, _, _, rfl, rfl, nd, fun x hx => by rw [idxs_ne hy (fun e => by rw [e, hl2] at hx; cases hx)]; exact hn x hx⟩ S).1
    · have hl2 : ls.lookup y = none := by
        unfold bf at hv
        cases c : ls.lookup y with
        | none => rfl
        | some l => rw [c] at hv; cases hv
      have hy0 := lookup_none hl2
      refine St.st (by assumption) (by with_reducible exact Mine.put5) fun _ _ _ => ?_
      refine xExpr (by assumption) ?_
      refine methL PySem.F.slot_list_append PySem.F.type_list_append ?_
      refine St.ld (by assumption) (by with_reducible exact Mine.at5) ?_
      refine ⟨St.lstI (xs := []) (by assumption) (by (with_reducible refine List.mem_append_left _ ?_; with_reducible exact List.mem_cons_self)), ?_⟩
      refine spC ?_
      refine St.ld (by assumption) (by with_reducible exact Mine.at3) ?_
      with_reducible refine spN ?_
      refine appendI (by assumption) (xs := []) (by with_reducible exact List.mem_cons_self) .head (by simp) fun h' S => ?_
      skip
      have e1 : updF (bf ls) y (.ref nl) = bf ((y, nl) :: ls) := bf_cons ls y nl
      have e2 : (ls.map fun p => (p.2, IntsP (idxs ys p.1 k))) = ls.map fun p => (p.2, IntsP (idxs ys p.1 (k + 1))) := by
        apply List.map_congr_left
        intro z hz
        rw [idxs_ne hy (fun e => hy0 (by rw [← e]; exact List.mem_map_of_mem (f := (·.1)) hz))]
      have e3 : [(k : Int)] = idxs ys y (k + 1) := by rw [idxs_eq hy, hn y hl2]; rfl
      rw [e1, e2, List.nil_append, e3] at S
      have S := S.permM (m' := p :: q :: (b2j, DicP prog w (k + 1) (bf ((y, nl) :: ls))) :: (dx, AtP (("b2j", .ref b2j) :: ats)) :: (nl, IntsP (idxs ys y (k + 1))) :: ls.map fun p => (p.2, IntsP (idxs ys p.1 (k + 1)))) (List.perm_middle (l₁ := [p, q, (b2j, DicP prog w (k + 1) (bf ((y, nl) :: ls))), (dx, AtP (("b2j", .ref b2j) :: ats))]).symm)
      refine xEnd (hN1 _ _ _ _ _ ⟨(y, nl) :: ls, _, _, _, rfl, rfl, by rw [List.map_cons, List.nodup_cons]; exact ⟨hy0, nd⟩, fun x hx => ?_⟩ S).1
      rw [List.lookup_cons] at hx
      cases c : x == y with
      | true => rw [c] at hx; cases hx
      | false =>
        rw [c] at hx
        rw [idxs_ne hy (fun e => by rw [e] at c; simp at c)]
        exact hn x hx
  · rintro al m n h tk ⟨ls, i1, elt, indices, rfl, rfl, nd, hn⟩ S
    refine xTwo ?_
    refine eCallT0 (by assumption) (by assumption) (by with_reducible exact Mine.at1) ?_
    refine setNew (by assumption) fun bj h' S => ?_
    with_reducible refine asgAttr ?_
    refine St.ld (by assumption) (by with_reducible exact Mine.at0) ?_
    refine St.setA (by assumption) (by assumption) (by (with_reducible refine List.mem_append_right _ ?_; (with_reducible refine List.mem_append_right _ ?_; with_reducible assumption))) (by (with_reducible refine List.mem_append_left _ ?_; (with_reducible refine List.mem_cons_of_mem _ ?_; with_reducible exact List.mem_cons_self))) (by with_reducible exact Up.tail (by with_reducible exact Up.head)) (by rfl) (by rfl) (by rfl) (by rfl) (by first | lia   | (simp only [List.length_cons, List.length_nil]; lia  ) | (simp; done)) fun _ _ _ => ?_
    with_reducible refine assign_Name ?_
    refine St.st (by assumption) (by with_reducible exact Mine.put6) fun _ _ _ => ?_
    refine xAssign ?_
    refine Attribute_Name_ ?_
    refine St.ld (by assumption) (by with_reducible exact Mine.at0) ?_
    refine St.getA (by assumption) (by assumption) (by (with_reducible refine List.mem_append_right _ ?_; (with_reducible refine List.mem_append_right _ ?_; with_reducible assumption))) (by (with_reducible refine List.mem_append_left _ ?_; (with_reducible refine List.mem_cons_of_mem _ ?_; with_reducible exact List.mem_cons_self))) (by rfl) (by rfl) (attr := none) (by rfl) (by rfl) (by first | rfl | assumption) (by rfl) fun _ => ?_
    refine St.st (by assumption) (by with_reducible exact Mine.put7) fun _ _ _ => ?_
    refine xIf ?_
    refine isTrue_plain ?_
    refine St.ld (by assumption) (by with_reducible exact Mine.at7) ?_
    with_reducible refine truNone ?_
    refine ifF ?_
    with_reducible refine appN ?_
    refine xTwo ?_
    refine eCallT0 (by assumption) (by assumption) (by with_reducible exact Mine.at1) ?_
    refine setNew (by assumption) fun bp h' S => ?_
    with_reducible refine asgAttr ?_
    refine St.ld (by assumption) (by with_reducible exact Mine.at0) ?_
    refine St.setA (by assumption) (by assumption) (by (with_reducible refine List.mem_append_right _ ?_; (with_reducible refine List.mem_append_right _ ?_; with_reducible assumption))) (by (with_reducible refine List.mem_append_left _ ?_; (with_reducible refine List.mem_cons_of_mem _ ?_; with_reducible exact List.mem_cons_self))) (by with_reducible exact Up.tail (by with_reducible exact Up.head)) (by rfl) (by rfl) (by rfl) (by rfl) (by first | lia   | (simp only [List.length_cons, List.length_nil]; lia  ) | (simp; done)) fun _ _ _ => ?_
    with_reducible refine assign_Name ?_
    refine St.st (by assumption) (by with_reducible exact Mine.put8) fun _ _ _ => ?_
    refine xAssign ?_
    refine eCallB (by assumption) (by assumption) (by with_reducible exact Mine.at2) ?_
    refine spC ?_
    refine St.ld (by assumption) (by with_reducible exact Mine.at1) ?_
    with_reducible refine spN ?_
    refine lenI (xs := ys) (by assumption) (by (with_reducible refine List.mem_append_right _ ?_; (with_reducible refine List.mem_append_right _ ?_; with_reducible assumption))) (by lia  ) fun _ _ => ?_
    refine St.st (by assumption) (by with_reducible exact Mine.put9) fun _ _ _ => ?_
    refine xIf ?_
    with_reducible refine isTrue_and ?_
    refine isTrue_plain ?_
    refine Attribute_Name_ ?_
    refine St.ld (by assumption) (by with_reducible exact Mine.at0) ?_
    refine St.getA (by assumption) (by assumption) (by (with_reducible refine List.mem_append_right _ ?_; (with_reducible refine List.mem_append_right _ ?_; with_reducible assumption))) (by (with_reducible refine List.mem_append_left _ ?_; (with_reducible refine List.mem_cons_of_mem _ ?_; with_reducible exact List.mem_cons_self))) (by rfl) (by rfl) (attr := none) (by rfl) (by rfl) (by first | rfl | assumption) (by rfl) fun _ => ?_
    with_reducible refine wpAny_truthy_bool ?_
    refine ifF ?_
    refine ifF ?_
    with_reducible refine appN ?_
    refine xEnd (G0 _ [(dx, AtP (("bpopular", .ref bp) :: ("bjunk", .ref bj) :: ("b2j", .ref b2j) :: ats))] _ _ (St.finM (mm := [(dx, AtP (("bpopular", .ref bp) :: ("bjunk", .ref bj) :: ("b2j", .ref b2j) :: ats))]) (m := (b2j, DicP prog w ys.length (bf ls)) :: ls.map fun p => (p.2, IntsP (idxs ys p.1 ys.length))) (St.permM (by assumption) (List.Perm.swap ..))) ⟨rfl, b2j, bj, bp, rfl, hne, by (with_reducible refine List.mem_cons_of_mem _ ?_; (with_reducible refine List.mem_append_right _ ?_; (with_reducible refine List.mem_cons_of_mem _ ?_; with_reducible exact List.mem_cons_self))), ls, by (with_reducible refine List.mem_cons_of_mem _ ?_; (with_reducible refine List.mem_append_left _ ?_; with_reducible exact List.mem_cons_self)), fun p hp => ?_, fun y hy hys => ?_⟩)
    · refine List.mem_cons_of_mem _ (List.mem_append_left _ (List.mem_cons_of_mem _ (List.mem_map.mpr ⟨p, hp, rfl⟩)))
    · obtain ⟨j, hj, e⟩ := List.mem_iff_getElem.mp hys
      have : (j : Int) ∈ idxs ys y ys.length := mem_idxs.mpr ⟨by lia  , by simpa using hj, by simpa using (List.getElem?_eq_some_iff.mpr ⟨hj, e⟩)⟩
      rw [hn y hy] at this
      cases this

end Mine
end
section
open PySem PySem.W PyProof.Rows PySem.Calls
set_option autoImplicit false
namespace Mine
abbrev wideA : Around := { handled := none, depth := 500, frames := none, guards := none, units := 5000 }
theorem narrow {α : Type} {M : Model} {A : Around} {t : Sem α} {Q : α → Shared → Prop} {E : Value → Shared → Prop} {s : Shared} (h : wpAny M wideA t Q E s) (hh : A.handled = none) (hd : A.depth ≤ 500) (hu : A.units ≤ 5000) : wpAny M A t Q E s :=
  by
  intro Γ p hΓ
  refine h Γ p ⟨hΓ.1.trans hh, Nat.le_trans hΓ.2.1 hd, ?_, ?_, Nat.le_trans hΓ.2.2.2.2 hu⟩
  · intro _ e; cases e
  · intro _ e; cases e
theorem St.ofMem {K : Frag} {L : LT} {env : Env} {gl : List (Str × Value)} {al : AL} {m n : LT} {h h' : Heap} {news : List (Addr × Obj)} {a : Addr} {o : Obj} {P : OP} (S : St K L env gl al m n h) (M : X.Mem h h' [] news) (hm : (a, o) ∈ news) (hp : P o) : St K L env gl al m ((a, P) :: n) h' := by
  have hk : ∀ b o, h.get? b = some o → h'.get? b = some o := fun b o e => M.keep b o e (by simp [X.away])
  obtain ⟨h1, h2⟩ := M.nw _ hm
  refine ⟨(S.led.add (P := P) hk h2 ⟨_, h1, hp⟩).perm ?_, S.env⟩
  show ((a, P) :: (env.locals, FrP al) :: (m ++ (n ++ L))).Perm ((env.locals, FrP al) :: (m ++ (((a, P) :: n) ++ L)))
  refine (List.Perm.swap ..).trans (.cons _ ?_)
  rw [List.cons_append]
  exact List.perm_middle.symm
def NewRow (P : OP) (h : Heap) (g : Array GenState) (d : Drawn) (os : OsState) (v : Value) (s : Shared) : Prop := ∃ a h' tk' o, v = .ref a ∧ s = ⟨h', g, d, tk', os⟩ ∧ (∀ b o, h.get? b = some o → h'.get? b = some o) ∧ h.get? a = none ∧ h'.get? a = some o ∧ P o
theorem NewRow.of {P : OP} {h h' : Heap} {g : Array GenState} {d : Drawn} {tk : Nat} {os : OsState} {news : List (Addr × Obj)} {a : Addr} {o : Obj} (M : X.Mem h h' [] news) (hm : (a, o) ∈ news) (hp : P o) : NewRow P h g d os (.ref a) ⟨h', g, d, tk, os⟩ :=
  ⟨a, h', tk, o, rfl, rfl, fun b o e => M.keep b o e (by simp [X.away]), (M.nw _ hm).2, (M.nw _ hm).1, hp⟩
noncomputable def oD (a : Nat) (p : Params) : Data := (((Mine.kmake.heap_1 p).lookup a).getD default).data
theorem oD0 {w : World} {h : Heap} (KX : (Mine.kmake.heap_1 w.params).In h) : h.get? (nat_lit 0) = some { cls := .type "dict", dict := none, data := oD (nat_lit 0) w.params, slots := #[] } := KX 0 _ rfl
theorem oD3 {w : World} {h : Heap} (KX : (Mine.kmake.heap_1 w.params).In h) : h.get? (nat_lit 3) = some { cls := .type "dict", dict := none, data := oD (nat_lit 3) w.params, slots := #[] } := KX 3 _ rfl
theorem oD265 {w : World} {h : Heap} (KX : (Mine.kmake.heap_1 w.params).In h) : h.get? (nat_lit 265) = some { cls := .type "dict", dict := none, data := oD (nat_lit 265) w.params, slots := #[] } := KX 265 _ rfl
theorem oD141 {w : World} {h : Heap} (KX : (Mine.kmake.heap_1 w.params).In h) : h.get? (nat_lit 141) = some { cls := .type "dict", dict := none, data := oD (nat_lit 141) w.params, slots := #[] } := KX 141 _ rfl
section
local macro_rules | `(tactic| x_close) => `(tactic| exact NewRow.of (by assumption) (by first | exact .head _ | exact .tail _ (.head _) | exact .tail _ (.tail _ (.head _))) ⟨_, _, .int _ _ (.int _ _ (.int _ _ .nil)), rfl, rfl⟩)
theorem match_runF {prog : Program} {w : World} {E : Value → Shared → Prop} {h : Heap} {g : Array GenState} {d : Drawn} {tk : Nat} {os : OsState} (i j k : Int) (t u v : Tok) (KX : (Mine.kmake.heap_1 w.params).In h) (f0 : h.get? (nat_lit 0) = some { cls := .type "dict", dict := none, data := oD (nat_lit 0) w.params, slots := #[] }) (f3 : h.get? (nat_lit 3) = some { cls := .type "dict", dict := none, data := oD (nat_lit 3) w.params, slots := #[] }) (f265 : h.get? (nat_lit 265) = some { cls := .type "dict", dict := none, data := oD (nat_lit 265) w.params, slots := #[] }) :
    wpAny (model prog w) wideA (PySem.call (.ref 266) [.int i t, .int j u, .int k v]) (NewRow (RowP (.ref 266) [.i i, .i j, .i k]) h g d os) E ⟨h, g, d, tk, os⟩ := by
  x_run
theorem match_run {prog : Program} {w : World} {E : Value → Shared → Prop} {h : Heap} {g : Array GenState} {d : Drawn} {tk : Nat} {os : OsState} (i j k : Int) (t u v : Tok) (KX : (Mine.kmake.heap_1 w.params).In h) :
    wpAny (model prog w) wideA (PySem.call (.ref 266) [.int i t, .int j u, .int k v]) (NewRow (RowP (.ref 266) [.i i, .i j, .i k]) h g d os) E ⟨h, g, d, tk, os⟩ := match_runF i j k t u v KX (oD0 KX) (oD3 KX) (oD265 KX)
theorem mism_runF {prog : Program} {w : World} {E : Value → Shared → Prop} {h : Heap} {g : Array GenState} {d : Drawn} {tk : Nat} {os : OsState} (i j k : Int) (t u v : Tok) (KX : (Mine.kmake.heap_1 w.params).In h) (f0 : h.get? (nat_lit 0) = some { cls := .type "dict", dict := none, data := oD (nat_lit 0) w.params, slots := #[] }) (f3 : h.get? (nat_lit 3) = some { cls := .type "dict", dict := none, data := oD (nat_lit 3) w.params, slots := #[] }) (f141 : h.get? (nat_lit 141) = some { cls := .type "dict", dict := none, data := oD (nat_lit 141) w.params, slots := #[] }) :
    wpAny (model prog w) wideA (PySem.call (.ref 142) [.int i t, .int j u, .int k v]) (NewRow (RowP (.ref 142) [.i i, .i j, .i k]) h g d os) E ⟨h, g, d, tk, os⟩ := by
  x_run
theorem mism_run {prog : Program} {w : World} {E : Value → Shared → Prop} {h : Heap} {g : Array GenState} {d : Drawn} {tk : Nat} {os : OsState} (i j k : Int) (t u v : Tok) (KX : (Mine.kmake.heap_1 w.params).In h) :
    wpAny (model prog w) wideA (PySem.call (.ref 142) [.int i t, .int j u, .int k v]) (NewRow (RowP (.ref 142) [.i i, .i j, .i k]) h g d os) E ⟨h, g, d, tk, os⟩ := mism_runF i j k t u v KX (oD0 KX) (oD3 KX) (oD141 KX)
end
end Mine
end
section
open PySem PySem.W PyProof.Rows PySem.Calls
set_option autoImplicit false
namespace Mine
theorem dga_slot : Slot "dict" "__getattribute__" "dict.__getattribute__" := Slot.of (T := "dict") (name := "__getattribute__") (owner := "dict") (n := "__getattribute__") (by rw [typeLookup_type, builtinLookup_eq_fast]; kernel_rfl) (by decide +kernel) (by decide +kernel) (by decide +kernel)
    (.inl (by decide +kernel)) (by rw [isSubtype_type]; kernel_rfl)
theorem sga_slot : Slot "set" "__getattribute__" "set.__getattribute__" := Slot.of (T := "set") (name := "__getattribute__") (owner := "set") (n := "__getattribute__") (by rw [typeLookup_type, builtinLookup_eq_fast]; kernel_rfl) (by decide +kernel) (by decide +kernel) (by decide +kernel)
    (.inl (by decide +kernel)) (by rw [isSubtype_type]; kernel_rfl)
section
variable {prog : Program} {w : World} {A : Around} {E : Value → Shared → Prop} {h : Heap} {g : Array GenState} {d : Drawn} {tk : Nat} {os : OsState}
theorem getAttr_blt {T id : String} {b : Addr} {o : Obj} {name : Str} {P : OP} {Q : Value → Shared → Prop} (slot : Slot T "__getattribute__" id) (hb : h.get? b = some o) (hc : o.cls = .type T)
    (h1 : ∀ t tk', wpAny (model prog w) A (call (.builtin id) [.ref b, .str name t]) (NewRow P h g d os) (fun _ _ => False) ⟨h, g, d, tk', os⟩)
    (hq : ∀ s v, NewRow P h g d os v s → Q v s) : wpAny (model prog w) A (getAttr (.ref b) name true) Q E ⟨h, g, d, tk, os⟩ := by
  have hT : ∀ t', (⟨h, g, d, t', os⟩ : Shared).TypeIs (.ref b) T := fun _ => ⟨_, hb, hc⟩
  unfold getAttr getAttrBy
  refine wpAny_bind (wpAny_mkText (wpAny_holding (wpAny_bind (wpAny_typeOf (hT _) (wpAny_bind (wpAny_of_eq slot.lookup ?_))))))
  show wpAny _ _ (getAttrByItsOwn (.ref b) (.str name tk) (.type T) (.builtin id) true true) _ _ _
  unfold getAttrByItsOwn hookBefore callGetattribute boundAndCalled
  refine wpAny_bind (wpAny_of_eq (show (if onTheHeap (.type T) then typeLookup (.type T) "__getattr__" else pure none) = pure none from rfl) ?_)
  refine wpAny_bind (wpAny_attempt (wpAny_holding ?_))
  show wpAny _ _ (bindSpecial (.builtin id) (.ref b) >>= _) _ _ _
  refine wpAny_bind (wpAny_of_eq (slot.bind _) ?_)
  refine wpAny_mono (h1 _ _) (fun v s' hv => ?_) fun _ _ z => z.elim
  have hv' := hv
  obtain ⟨a, h', tk', o, rfl, rfl, r⟩ := hv
  exact wpAny_pure (hq _ _ hv')
end
section
local macro_rules | `(tactic| x_close) => `(tactic| exact NewRow.of (by assumption) (by first | exact .head _ | exact .tail _ (.head _) | exact .tail _ (.tail _ (.head _))) rfl)
theorem dget_run {prog : Program} {w : World} {E : Value → Shared → Prop} {h : Heap} {g : Array GenState} {d : Drawn} {tk : Nat} {os : OsState} {b : Addr} {es : Array DictEntry} {ep : Nat} {t : Tok} 
    (hb : h.get? b = some { cls := .type "dict", dict := none, data := .dict es ep, slots := #[] }) :
    wpAny (model prog w) wideA (call (.builtin "dict.__getattribute__") [.ref b, .str "get" t]) (NewRow (BoundP "builtin_function_or_method" "dict.get" b) h g d os) E ⟨h, g, d, tk, os⟩ := by
  x_run
theorem sget_run {prog : Program} {w : World} {E : Value → Shared → Prop} {h : Heap} {g : Array GenState} {d : Drawn} {tk : Nat} {os : OsState} {b : Addr} {led : Bool} {t : Tok}
    (hb : h.get? b = some { cls := .type "set", dict := none, data := .set #[] 0 (.fresh 0 0 led) }) :
    wpAny (model prog w) wideA (call (.builtin "set.__getattribute__") [.ref b, .str "__contains__" t]) (NewRow (BoundP "builtin_function_or_method" "set.__contains__" b) h g d os) E ⟨h, g, d, tk, os⟩ := by
  x_run
end
theorem St.ofRow {K : Frag} {L : LT} {env : Env} {gl : List (Str × Value)} {al : AL} {m n : LT} {h h' : Heap} {a : Addr} {o : Obj} {P : OP} (S : St K L env gl al m n h) (hk : ∀ b o, h.get? b = some o → h'.get? b = some o) (h2 : h.get? a = none) (h1 : h'.get? a = some o) (hp : P o) : St K L env gl al m ((a, P) :: n) h' := by
  refine ⟨(S.led.add (P := P) hk h2 ⟨_, h1, hp⟩).perm ?_, S.env⟩
  show ((a, P) :: (env.locals, FrP al) :: (m ++ (n ++ L))).Perm ((env.locals, FrP al) :: (m ++ (((a, P) :: n) ++ L)))
  refine (List.Perm.swap ..).trans (.cons _ ?_)
  rw [List.cons_append]
  exact List.perm_middle.symm
section
variable {w : World} {A : Around} {E : Value → Shared → Prop} {h : Heap} {g : Array GenState} {d : Drawn} {tk : Nat} {os : OsState}
variable {K : Frag} {L : LT} {env : Env} {gl : List (Str × Value)} {al : AL} {m n : LT} {b : Addr}
theorem getGet {N : Nat} {f : Int → Option Value} {Q : Value → Shared → Prop} (S : St K L env gl al m n h) (hm : (b, DicP PySem.Challenge.pw_il0152_01 w N f) ∈ m ++ (n ++ L)) (hh : A.handled = none) (hd : A.depth ≤ 500) (hu : A.units ≤ 5000)
    (hq : ∀ q h' tk', St K L env gl al m ((q, BoundP "builtin_function_or_method" "dict.get" b) :: n) h' → Q (.ref q) ⟨h', g, d, tk', os⟩) : wpAny (model PySem.Challenge.pw_il0152_01 w) A (getAttr (.ref b) "get" true) Q E ⟨h, g, d, tk, os⟩ := by
  obtain ⟨es, ep, ho⟩ := S.dicO hm
  refine getAttr_blt dga_slot ho rfl (fun t tk' => narrow (dget_run ho) hh hd hu) fun s v hr => ?_
  obtain ⟨a, h', tk', o, rfl, rfl, h1, h2, h3, h4⟩ := hr
  exact hq _ _ _ (S.ofRow h1 h2 h3 h4)
theorem getHas {Q : Value → Shared → Prop} (S : St K L env gl al m n h) (hm : (b, SetP) ∈ m ++ (n ++ L)) (hh : A.handled = none) (hd : A.depth ≤ 500) (hu : A.units ≤ 5000)
    (hq : ∀ q h' tk', St K L env gl al m ((q, BoundP "builtin_function_or_method" "set.__contains__" b) :: n) h' → Q (.ref q) ⟨h', g, d, tk', os⟩) : wpAny (model PySem.Challenge.pw_il0152_01 w) A (getAttr (.ref b) "__contains__" true) Q E ⟨h, g, d, tk, os⟩ := by
  obtain ⟨_, ho, led, rfl⟩ := S.get hm
  refine getAttr_blt sga_slot ho rfl (fun t tk' => narrow (sget_run ho) hh hd hu) fun s v hr => ?_
  obtain ⟨a, h', tk', o, rfl, rfl, h1, h2, h3, h4⟩ := hr
  exact hq _ _ _ (S.ofRow h1 h2 h3 h4)
theorem newMatch {i j k : Int} {t u v : Tok} {Q : Value → Shared → Prop} (S : St K L env gl al m n h) (KX : (Mine.kmake.heap_1 w.params).In h) (hh : A.handled = none) (hd : A.depth ≤ 500) (hu : A.units ≤ 5000)
    (hq : ∀ r h' tk', St K L env gl al m ((r, RowP (.ref 266) [.i i, .i j, .i k]) :: n) h' → Q (.ref r) ⟨h', g, d, tk', os⟩) : wpAny (model PySem.Challenge.pw_il0152_01 w) A (PySem.call (.ref 266) [.int i t, .int j u, .int k v]) Q E ⟨h, g, d, tk, os⟩ := by
  refine wpAny_mono (narrow (match_run (E := fun _ _ => False) i j k t u v KX) hh hd hu) (fun v s hr => ?_) fun _ _ z => z.elim
  obtain ⟨a, h', tk', o, rfl, rfl, h1, h2, h3, h4⟩ := hr
  exact hq _ _ _ (S.ofRow h1 h2 h3 h4)
theorem newMism {i j k : Int} {t u v : Tok} {Q : Value → Shared → Prop} (S : St K L env gl al m n h) (KX : (Mine.kmake.heap_1 w.params).In h) (hh : A.handled = none) (hd : A.depth ≤ 500) (hu : A.units ≤ 5000)
    (hq : ∀ r h' tk', St K L env gl al m ((r, RowP (.ref 142) [.i i, .i j, .i k]) :: n) h' → Q (.ref r) ⟨h', g, d, tk', os⟩) : wpAny (model PySem.Challenge.pw_il0152_01 w) A (PySem.call (.ref 142) [.int i t, .int j u, .int k v]) Q E ⟨h, g, d, tk, os⟩ := by
  refine wpAny_mono (narrow (mism_run (E := fun _ _ => False) i j k t u v KX) hh hd hu) (fun v s hr => ?_) fun _ _ z => z.elim
  obtain ⟨a, h', tk', o, rfl, rfl, h1, h2, h3, h4⟩ := hr
  exact hq _ _ _ (S.ofRow h1 h2 h3 h4)
end
end Mine
end
section
open PySem PySem.W PyProof.Rows PySem.Calls
set_option autoImplicit false
namespace Mine
def TItP (r : Addr) (i : Nat) : OP := fun o => o.cls = .type "tuple_iterator" ∧ o.data = .fields #[.ref r, .int i 0]
section
local macro_rules | `(tactic| x_close) => `(tactic| exact NewRow.of (by assumption) (by first | exact .head _ | exact .tail _ (.head _) | exact .tail _ (.tail _ (.head _))) ⟨rfl, rfl⟩)
theorem titer_run {prog : Program} {w : World} {E : Value → Shared → Prop} {h : Heap} {g : Array GenState} {d : Drawn} {tk : Nat} {os : OsState} {r : Addr} {items : Array Value} {n : Nat} {dd : Option Addr} {sl : Array (Option Value)} (KX : (Mine.kmake.heap_1 w.params).In h)
    (hr : h.get? r = some { cls := .ref 266, dict := dd, data := .seq items n, slots := sl }) :
    wpAny (model prog w) wideA (call (.builtin "tuple.__iter__") [.ref r]) (NewRow (TItP r 0) h g d os) E ⟨h, g, d, tk, os⟩ := by
  x_run
theorem titer_run142 {prog : Program} {w : World} {E : Value → Shared → Prop} {h : Heap} {g : Array GenState} {d : Drawn} {tk : Nat} {os : OsState} {r : Addr} {items : Array Value} {n : Nat} {dd : Option Addr} {sl : Array (Option Value)} (KX : (Mine.kmake.heap_1 w.params).In h)
    (hr : h.get? r = some { cls := .ref 142, dict := dd, data := .seq items n, slots := sl }) :
    wpAny (model prog w) wideA (call (.builtin "tuple.__iter__") [.ref r]) (NewRow (TItP r 0) h g d os) E ⟨h, g, d, tk, os⟩ := by
  x_run
theorem titer_runC {w : World} {E : Value → Shared → Prop} {h : Heap} {g : Array GenState} {d : Drawn} {tk : Nat} {os : OsState} {C r : Addr} {items : Array Value} {n : Nat} {dd : Option Addr} {sl : Array (Option Value)} (hC : C = 266 ∨ C = 142) (KX : (Mine.kmake.heap_1 w.params).In h)
    (hr : h.get? r = some { cls := .ref C, dict := dd, data := .seq items n, slots := sl }) :
    wpAny (model PySem.Challenge.pw_il0152_01 w) wideA (call (.builtin "tuple.__iter__") [.ref r]) (NewRow (TItP r 0) h g d os) E ⟨h, g, d, tk, os⟩ := by
  rcases hC with rfl | rfl
  · exact titer_run KX hr
  · exact titer_run142 KX hr
end
theorem tup_bind (self : Value) : bindSpecial (.builtin "tuple.__iter__") self = pure (.builtin "tuple.__iter__", [self]) := PyProof.Rows.slot_tuple_iter.bind self
section
variable {w : World} {A : Around} {E : Value → Shared → Prop} {h : Heap} {g : Array GenState} {d : Drawn} {tk : Nat} {os : OsState} {r it : Addr} {items : Array Value} {n : Nat} {dd : Option Addr} {sl : Array (Option Value)}
theorem match_iter {C : Addr} (hC : C = 266 ∨ C = 142) {Q : Value → Shared → Prop} (KX : (Mine.K w.params).In h) (hr : h.get? r = some { cls := .ref C, dict := dd, data := .seq items n, slots := sl }) (hh : A.handled = none) (hd : A.depth ≤ 500) (hu : A.units ≤ 5000)
    (hq : ∀ it h' tk' o, (∀ b o, h.get? b = some o → h'.get? b = some o) → h.get? it = none → h'.get? it = some o → TItP r 0 o → Q (.ref it) ⟨h', g, d, tk', os⟩) :
    wpAny (model PySem.Challenge.pw_il0152_01 w) A (pyIter (.ref r)) Q E ⟨h, g, d, tk, os⟩ := by
  have L0 : Looks (model PySem.Challenge.pw_il0152_01 w) h (typeOf (.ref r)) (.ref C) := (Looks.ld hr).andThen .now
  have L1 : Looks (model PySem.Challenge.pw_il0152_01 w) h (typeLookup (.ref C) "__iter__") (some (.builtin "tuple.__iter__")) := looks_findIn KX (by rcases hC with rfl | rfl <;> rfl)
  have L2 : Looks (model PySem.Challenge.pw_il0152_01 w) h (specialOf (.ref r) "__iter__") (some (.builtin "tuple.__iter__")) := L0.andThen L1
  have fin : ∀ t, wpAny (model PySem.Challenge.pw_il0152_01 w) A (call (.builtin "tuple.__iter__") [.ref r]) (fun v s => ∃ it h' tk' o, v = .ref it ∧ s = ⟨h', g, d, tk', os⟩ ∧ h'.get? it = some o ∧ o.cls = .type "tuple_iterator" ∧ Q v s) E ⟨h, g, d, t, os⟩ := fun t => by
    refine wpAny_mono (narrow (titer_runC (E := fun _ _ => False) hC KX hr) hh hd hu) (fun v s hv => ?_) fun _ _ z => z.elim
    obtain ⟨it, h', tk', o, rfl, rfl, h1, h2, h3, h4⟩ := hv
    exact ⟨it, h', tk', o, rfl, rfl, h3, h4.1, hq _ _ _ _ h1 h2 h3 h4⟩
  unfold pyIter
  refine wpAny_bind (L2.at ?_)
  dsimp only
  refine wpAny_bind ?_
  unfold callSpecialIfBoundUnlessNone? bindSpecialIfBound?
  refine wpAny_holding (wpAny_bind (wpAny_bind (L2.at ?_)))
  dsimp only
  refine wpAny_bind (wpAny_askSetting (wpAny_ite ?_))
  split
  · rw [tup_bind]
    refine wpAny_bind (wpAny_pure (wpAny_pure ?_))
    dsimp only
    rw [if_neg (by simp)]
    refine wpAny_bind (wpAny_mono (fin tk) (fun v s' hv => ?_) fun _ _ z => z)
    obtain ⟨it, h', tk', o, rfl, rfl, e1, e2, q⟩ := hv
    refine wpAny_pure ?_
    dsimp only
    exact wpAny_bind (wpAny_specialOf (T := "tuple_iterator") ⟨_, e1, e2⟩ slot_tupleiter_next.lookup (wpAny_pure q))
  · refine wpAny_tryCatch ?_
    rw [tup_bind]
    refine wpAny_bind (wpAny_pure (wpAny_pure ?_))
    dsimp only
    rw [if_neg (by simp)]
    refine wpAny_bind (wpAny_mono (fin tk) (fun v s' hv => ?_) fun _ _ z => z)
    obtain ⟨it, h', tk', o, rfl, rfl, e1, e2, q⟩ := hv
    refine wpAny_pure ?_
    dsimp only
    exact wpAny_bind (wpAny_specialOf (T := "tuple_iterator") ⟨_, e1, e2⟩ slot_tupleiter_next.lookup (wpAny_pure q))
def HTit (h : Heap) (it r : Addr) (i : Nat) : Prop := ∃ o, h.get? it = some o ∧ TItP r i o
def HSeq (h : Heap) (r : Addr) (items : Array Value) : Prop := ∃ o n, h.get? r = some o ∧ o.data = .seq items n
theorem HSeq.but {h h' : Heap} {r it : Addr} {items : Array Value} (x : HSeq h r items) (hx : Heap.ExtBut it h h') (hne : r ≠ it) : HSeq h' r items := by
  obtain ⟨o, n, a, b⟩ := x
  exact ⟨o, n, hx _ _ hne a, b⟩
section
variable {prog : Program} {s : Shared}
theorem seq_next_item {i : Nat} {x : Value} {Q : Option Value → Shared → Prop} (hit : HTit s.heap it r i) (hr : HSeq s.heap r items) (hx : items[i]? = some x)
    (hq : ∀ h', HTit h' it r (i + 1) → Heap.SameBut it s.heap h' → Q (some x) { s with heap := h' }) : wpAny (model prog w) A (pyNext (.ref it)) Q E s := by
  obtain ⟨o, ho, hc, hd⟩ := hit
  obtain ⟨ol, nl, hol, hdl⟩ := hr
  have hT : s.TypeIs (.ref it) "tuple_iterator" := ⟨o, ho, hc⟩
  unfold pyNext
  refine wpAny_bind (wpAny_attempt (wpAny_callSpecial?_slot (name := Str.ofString "__next__") hT slot_tupleiter_next (wpAny_call_entry slot_tupleiter_next hT entry_tupleiter_next ?_ (args_tupleiter_next _))))
  show wpAny _ _ (field (.ref it) 0 >>= _) _ _ s
  refine wpAny_bind (wpAny_field ho hd (x := .ref r) rfl ?_)
  rw [if_neg (show ¬ ((Value.ref r == Value.none) = true) from Bool.false_ne_true)]
  refine wpAny_bind (wpAny_field ho hd (x := .int i 0) rfl ?_)
  refine wpAny_bind (wpAny_seqItems hol hdl ?_)
  simp only [Int.toNat_natCast, hx]
  refine wpAny_bind (wpAny_setField ho hd (by simp) (wpAny_pure ⟨x, rfl, wpAny_pure (hq _ ?_ (Heap.SameBut.update ..))⟩))
  refine ⟨_, Heap.get?_update_self _ ho (Obj.isFreed_of_fields (Obj.data_mapFields hd _)), (Obj.cls_mapFields ..).trans hc, ?_⟩
  rw [Obj.data_mapFields hd]
  simp [rawInt]
theorem seq_next_end {i : Nat} {Q : Option Value → Shared → Prop} (hh : A.handled = none) (hit : HTit s.heap it r i) (hr : HSeq s.heap r items) (hx : items[i]? = none)
    (hq : ∀ h', Heap.ExtBut it s.heap h' → Q none { s with heap := h' }) : wpAny (model prog w) A (pyNext (.ref it)) Q E s := by
  obtain ⟨o, ho, hc, hd⟩ := hit
  obtain ⟨ol, nl, hol, hdl⟩ := hr
  have hT : s.TypeIs (.ref it) "tuple_iterator" := ⟨o, ho, hc⟩
  unfold pyNext
  refine wpAny_bind (wpAny_attempt (wpAny_callSpecial?_slot (name := Str.ofString "__next__") hT slot_tupleiter_next (wpAny_call_entry slot_tupleiter_next hT entry_tupleiter_next ?_ (args_tupleiter_next _))))
  show wpAny _ _ (field (.ref it) 0 >>= _) _ _ s
  refine wpAny_bind (wpAny_field ho hd (x := .ref r) rfl ?_)
  rw [if_neg (show ¬ ((Value.ref r == Value.none) = true) from Bool.false_ne_true)]
  refine wpAny_bind (wpAny_field ho hd (x := .int i 0) rfl ?_)
  refine wpAny_bind (wpAny_seqItems hol hdl ?_)
  simp only [Int.toNat_natCast, hx]
  refine wpAny_bind (wpAny_rule (wpAny_bind (wpAny_setField ho hd (by simp) ?_)))
  show wpAny _ _ (newExc (.type "StopIteration") [] >>= _) _ _ _
  simp only [newExc, newTuple]
  refine wpAny_bind (wpAny_bind (wpAny_newObj_type ?_ (by size_fits)))
  refine wpAny_bind (m := firstArgMember _ _) (wpAny_of_eq (a := Value.none) (by first | rfl | (simp only [firstArgMember]; rfl)) ?_)
  refine wpAny_newObj_type ?_ (by size_fits)
  simp only [raiseNew]
  refine wpAny_bind (wpAny_handled ?_)
  first | rw [show A.in1.handled = none from hh] | rw [hh]
  refine wpAny_bind (wpAny_pure (wpAny_throw ?_))
  refine wpAny_bind (wpAny_isInstance (T := "StopIteration") (b := true) ⟨_, Heap.get?_push_size _ rfl, rfl⟩ isSubtype_stop ?_)
  exact wpAny_pure (hq _ (((Heap.SameBut.update ..).extBut.push _).push _))
end
theorem match_items {C : Addr} (hC : C = 266 ∨ C = 142) {a b c : Value} {Q : List Value → Shared → Prop} (KX : (Mine.K w.params).In h) (hr : h.get? r = some { cls := .ref C, dict := dd, data := .seq #[a, b, c] n, slots := sl }) (hh : A.handled = none) (hd : A.depth ≤ 500) (hu : A.units ≤ 5000)
    (hq : ∀ h' tk', (∀ b o, h.get? b = some o → h'.get? b = some o) → Q [a, b, c] ⟨h', g, d, tk', os⟩) :
    wpAny (model PySem.Challenge.pw_il0152_01 w) A (unpackItems (.ref r) 3 none) Q E ⟨h, g, d, tk, os⟩ := by
  have L0 : Looks (model PySem.Challenge.pw_il0152_01 w) h (typeOf (.ref r)) (.ref C) := (Looks.ld hr).andThen .now
  have L1 : Looks (model PySem.Challenge.pw_il0152_01 w) h (typeLookup (.ref C) "__iter__") (some (.builtin "tuple.__iter__")) := looks_findIn KX (by rcases hC with rfl | rfl <;> rfl)
  have L2 : Looks (model PySem.Challenge.pw_il0152_01 w) h (specialOf (.ref r) "__iter__") (some (.builtin "tuple.__iter__")) := L0.andThen L1
  unfold unpackItems notIterableAtAll
  refine wpAny_bind (wpAny_bind (L2.at (wpAny_pure ?_)))
  rw [if_neg (by simp)]
  refine wpAny_bind (wpAny_holding (match_iter hC KX hr hh hd hu fun it h' tk' o hk h0 h1 h2 => ?_))
  have hne : r ≠ it := fun e => by subst e; rw [hr] at h0; cases h0
  have i0 : HTit h' it r 0 := ⟨o, h1, h2⟩
  have s0 : HSeq h' r #[a, b, c] := ⟨_, n, hk _ _ hr, rfl⟩
  have old : ∀ {h1 h2 : Heap}, (∀ b o, h.get? b = some o → h1.get? b = some o) → Heap.ExtBut it h1 h2 → ∀ b o, h.get? b = some o → h2.get? b = some o := fun {h1 h2} k1 k2 b o e => k2 b o (fun q => by subst q; rw [e] at h0; cases h0) (k1 b o e)
  dsimp only
  refine wpAny_bind (wpAny_holding ?_)
  unfold draw
  refine wpAny_bind (seq_next_item (s := ⟨h', g, d, tk', os⟩) i0 s0 (x := a) rfl fun h1 i1 b1 => ?_)
  have s1 := s0.but b1.extBut hne
  have k1 := old hk b1.extBut
  refine wpAny_bind (wpAny_holding ?_)
  unfold draw
  refine wpAny_bind (seq_next_item (s := ⟨h1, g, d, tk', os⟩) i1 s1 (x := b) rfl fun h2 i2 b2 => ?_)
  have s2 := s1.but b2.extBut hne
  have k2 := old k1 b2.extBut
  refine wpAny_bind (wpAny_holding ?_)
  unfold draw
  refine wpAny_bind (seq_next_item (s := ⟨h2, g, d, tk', os⟩) i2 s2 (x := c) rfl fun h3 i3 b3 => ?_)
  have s3 := s2.but b3.extBut hne
  have k3 := old k2 b3.extBut
  refine wpAny_bind (wpAny_holding ?_)
  unfold draw
  refine wpAny_pure (wpAny_pure (wpAny_pure (wpAny_pure ?_)))
  rw [if_neg (by simp)]
  refine wpAny_bind (wpAny_holding (seq_next_end (s := ⟨h3, g, d, tk', os⟩) hh i3 s3 rfl fun h4 b4 => ?_))
  simp only [Option.isSome_none, Bool.false_eq_true, if_false]
  exact wpAny_pure (hq _ _ (old k3 b4))
end
end Mine
end
section
open PySem PySem.W PyProof.Rows PySem.Calls
set_option autoImplicit false
namespace Mine
section
local macro_rules | `(tactic| x_close) => `(tactic| exact NewRow.of (by assumption) (by first | exact .head _ | exact .tail _ (.head _) | exact .tail _ (.tail _ (.head _))) ⟨_, _, .int _ _ (.int _ _ (.int _ _ .nil)), rfl, rfl⟩)
theorem make_runF {prog : Program} {w : World} {E : Value → Shared → Prop} {h : Heap} {g : Array GenState} {d : Drawn} {tk : Nat} {os : OsState} {q a : Addr} {i j k : Int} {t u v : Tok} {dd : Option Addr} {n : Nat} {sl : Array (Option Value)} (KX : (Mine.kmake.heap_1 w.params).In h)
    (hq : h.get? q = some { cls := .type "method", data := .fields #[.ref 220, .ref 266] })
    (ha : h.get? a = some { cls := .type "tuple", dict := dd, data := .seq #[.int i t, .int j u, .int k v] n, slots := sl }) (f0 : h.get? (nat_lit 0) = some { cls := .type "dict", dict := none, data := oD (nat_lit 0) w.params, slots := #[] }) (f3 : h.get? (nat_lit 3) = some { cls := .type "dict", dict := none, data := oD (nat_lit 3) w.params, slots := #[] }) (f265 : h.get? (nat_lit 265) = some { cls := .type "dict", dict := none, data := oD (nat_lit 265) w.params, slots := #[] }) :
    wpAny (model prog w) wideA (PySem.call (.ref q) [.ref a]) (NewRow (RowP (.ref 266) [.i i, .i j, .i k]) h g d os) E ⟨h, g, d, tk, os⟩ := by
  x_run
theorem make_run {prog : Program} {w : World} {E : Value → Shared → Prop} {h : Heap} {g : Array GenState} {d : Drawn} {tk : Nat} {os : OsState} {q a : Addr} {i j k : Int} {t u v : Tok} {dd : Option Addr} {n : Nat} {sl : Array (Option Value)} (KX : (Mine.kmake.heap_1 w.params).In h)
    (hq : h.get? q = some { cls := .type "method", data := .fields #[.ref 220, .ref 266] })
    (ha : h.get? a = some { cls := .type "tuple", dict := dd, data := .seq #[.int i t, .int j u, .int k v] n, slots := sl }) :
    wpAny (model prog w) wideA (PySem.call (.ref q) [.ref a]) (NewRow (RowP (.ref 266) [.i i, .i j, .i k]) h g d os) E ⟨h, g, d, tk, os⟩ := make_runF KX hq ha (oD0 KX) (oD3 KX) (oD265 KX)
end
def NewMap (na q : Addr) (h : Heap) (g : Array GenState) (d : Drawn) (os : OsState) (v : Value) (s : Shared) : Prop := ∃ I T li h' tk', v = .ref I ∧ s = ⟨h', g, d, tk', os⟩ ∧ (∀ b o, h.get? b = some o → h'.get? b = some o) ∧ h.get? I = none ∧ h.get? T = none ∧ h.get? li = none ∧ I ≠ T ∧ T ≠ li ∧ I ≠ li ∧
  h'.get? I = some { cls := .type "map", data := .fields #[.ref T, .ref q] } ∧ (∃ n, h'.get? T = some { cls := .type "tuple", data := .seq #[.ref li] n }) ∧ h'.get? li = some { cls := .type "list_iterator", data := .fields #[.ref na, .int 0 0] }
theorem NewMap.of {na q : Addr} {h h' : Heap} {g : Array GenState} {d : Drawn} {tk : Nat} {os : OsState} {news : List (Addr × Obj)} {I T li : Addr} {n : Nat} (M : X.Mem h h' [] news) (h1 : (I, { cls := .type "map", data := .fields #[.ref T, .ref q] }) ∈ news) (h2 : (T, { cls := .type "tuple", data := .seq #[.ref li] n }) ∈ news)
    (h3 : (li, { cls := .type "list_iterator", data := .fields #[.ref na, .int 0 0] }) ∈ news) : NewMap na q h g d os (.ref I) ⟨h', g, d, tk, os⟩ := by
  have a1 := M.nw _ h1
  have a2 := M.nw _ h2
  have a3 := M.nw _ h3
  refine ⟨I, T, li, h', tk, rfl, rfl, fun b o e => M.keep b o e (by simp [X.away]), a1.2, a2.2, a3.2, ?_, ?_, ?_, a1.1, ⟨n, a2.1⟩, a3.1⟩
  · intro e; subst e; have := a1.1.symm.trans a2.1; simp at this
  · intro e; subst e; have := a2.1.symm.trans a3.1; simp at this
  · intro e; subst e; have := a1.1.symm.trans a3.1; simp at this
section
local macro_rules | `(tactic| x_close) => `(tactic| exact NewMap.of (by assumption) (by first | exact .head _ | exact .tail _ (.head _) | exact .tail _ (.tail _ (.head _)) | exact .tail _ (.tail _ (.tail _ (.head _)))) (by first | exact .head _ | exact .tail _ (.head _) | exact .tail _ (.tail _ (.head _)) | exact .tail _ (.tail _ (.tail _ (.head _)))) (by first | exact .head _ | exact .tail _ (.head _) | exact .tail _ (.tail _ (.head _)) | exact .tail _ (.tail _ (.tail _ (.head _)))))
theorem map_run {prog : Program} {w : World} {E : Value → Shared → Prop} {h : Heap} {g : Array GenState} {d : Drawn} {tk : Nat} {os : OsState} {q na : Addr} {items : Array Value} {n : Nat} (KX : (Mine.kmake.heap_1 w.params).In h)
    (ha : h.get? na = some { cls := .type "list", dict := none, data := .seq items n, slots := #[] }) :
    wpAny (model prog w) wideA (PySem.call (.type "map") [.ref q, .ref na]) (NewMap na q h g d os) E ⟨h, g, d, tk, os⟩ := by
  x_run
end
end Mine
end
section
open PySem PySem.W PyProof.Rows PySem.Calls
set_option autoImplicit false
namespace Mine
theorem map_next_slot : Slot "map" "__next__" "map.__next__" := Slot.of (T := "map") (name := "__next__") (owner := "map") (n := "__next__") (by rw [typeLookup_type, builtinLookup_eq_fast]; kernel_rfl) (by decide +kernel) (by decide +kernel) (by decide +kernel)
    (.inl (by decide +kernel)) (by rw [isSubtype_type]; kernel_rfl)
theorem map_next_entry : entryFor table "map.__next__" = some Builtin.«map.__next__» := entryFor_of_tree (by kernel_rfl)
theorem map_next_args (a : Value) : argsOk "map.__next__" ⟨[a], []⟩ := by unfold argsOk; kernel_rfl
theorem map_iter_slot : Slot "map" "__iter__" "map.__iter__" := Slot.of (T := "map") (name := "__iter__") (owner := "map") (n := "__iter__") (by rw [typeLookup_type, builtinLookup_eq_fast]; kernel_rfl) (by decide +kernel) (by decide +kernel) (by decide +kernel)
    (.inl (by decide +kernel)) (by rw [isSubtype_type]; kernel_rfl)
theorem map_no_len : typeLookup (.type "map") "__len__" = pure none := by rw [typeLookup_type, builtinLookup_eq_fast]; kernel_rfl
theorem map_no_hint : typeLookup (.type "map") "__length_hint__" = pure none := by rw [typeLookup_type, builtinLookup_eq_fast]; kernel_rfl
theorem map_next_tree (I : Value) : Builtin.«map.__next__» ⟨[I], []⟩ = (do
  let some its ← seqItems? (← field I 0) | unsupported "internal:map.__next__"
  let mut items : Array Value := #[]
  for it in its do
    items := items.push (← holding items.toList (Builtin.SmallTypes.nextOf it))
  let result ← holding items.toList (call (← field I 1) items.toList)
  letGo items.toList [result]
  ret result) := rfl
def MapP (T q : Addr) : OP := fun o => o = { cls := .type "map", data := .fields #[.ref T, .ref q] }
def Tup1P (li : Addr) : OP := fun o => ∃ n, o = { cls := .type "tuple", data := .seq #[.ref li] n }
def MakeP : OP := fun o => o = { cls := .type "method", data := .fields #[.ref 220, .ref 266] }
theorem scs3 {vs : List Value} {r : List Sc} (x : ScAre vs r) (i j k : Int) (h : r = [.i i, .i j, .i k]) : ∃ t u w, vs = [.int i t, .int j u, .int k w] := by subst h; exact sc3 x
section
variable {w : World} {A : Around} {E : Value → Shared → Prop} {h : Heap} {g : Array GenState} {d : Drawn} {tk : Nat} {os : OsState}
variable {L : LT} {h₁ : Heap} {env : Env} {gl : List (Str × Value)} {al : AL} {m n : LT} {I T q li na a : Addr} {vs : List Value}
theorem getMake {expr : Bool} {Q : Value → Shared → Prop} (S : St (K w.params) L env gl al m n h) (B : Bs (K w.params) h₁ L)
    (hq : ∀ q h' tk', St (K w.params) L env gl al m ((q, MakeP) :: n) h' → Q (.ref q) ⟨h', g, d, tk', os⟩) : wpAny (model PySem.Challenge.pw_il0152_01 w) A (getAttr (.ref 266) "_make" expr) Q E ⟨h, g, d, tk, os⟩ :=
  cls_bind (s := ⟨h, g, d, tk, os⟩) (B.K.keeps (S.kb B)) (mc := .type "type") (by rfl) (by rfl) (wpAny_call (cm_get (s := ⟨h, g, d, tk + 1, os⟩) (f := .ref 220) (rest := _) (B.K.keeps (S.kb B)) (by rfl) (handed_on rfl (hq _ _ _ (S.push _ rfl rfl)))))
theorem map_item {i : Nat} {ri rj rk : Int} {Q : Option Value → Shared → Prop} (S : St (K w.params) L env gl al ((li, LIterP na i) :: m) n h) (B : Bs (K w.params) h₁ L) (hI : (I, MapP T q) ∈ m ++ (n ++ L)) (hT : (T, Tup1P li) ∈ m ++ (n ++ L)) (hqq : (q, MakeP) ∈ m ++ (n ++ L)) (hna : (na, ListP vs) ∈ m ++ (n ++ L))
    (hx : vs[i]? = some (.ref a)) (ha : (a, RowP (.type "tuple") [.i ri, .i rj, .i rk]) ∈ m ++ (n ++ L)) (hh : A.handled = none) (hd : A.depth ≤ 500) (hu : A.units ≤ 4900)
    (hq : ∀ r h' tk', St (K w.params) L env gl al ((li, LIterP na (i + 1)) :: m) ((r, RowP (.ref 266) [.i ri, .i rj, .i rk]) :: n) h' → Q (some (.ref r)) ⟨h', g, d, tk', os⟩) :
    wpAny (model PySem.Challenge.pw_il0152_01 w) A (pyNext (.ref I)) Q E ⟨h, g, d, tk, os⟩ := by
  obtain ⟨_, hIo, rfl⟩ := S.get (.tail _ hI)
  obtain ⟨_, hTo, nT, rfl⟩ := S.get (.tail _ hT)
  obtain ⟨o, ho, hc, hdd⟩ := S.get (.head _)
  have hty : (⟨h, g, d, tk, os⟩ : Shared).TypeIs (.ref I) "map" := ⟨_, hIo, rfl⟩
  unfold pyNext
  refine wpAny_bind (wpAny_attempt (wpAny_callSpecial?_slot (name := Str.ofString "__next__") hty map_next_slot (wpAny_call_entry map_next_slot hty map_next_entry ?_ (map_next_args _))))
  rw [map_next_tree]
  refine wpAny_bind (wpAny_field hIo rfl (x := .ref T) rfl ?_)
  refine wpAny_bind (wpAny_seqItems hTo rfl ?_)
  dsimp only
  refine wpAny_bind ?_
  rw [← Array.forIn_toList]
  rw [List.forIn_cons]
  refine wpAny_bind (wpAny_bind (wpAny_holding ?_))
  refine wpAny_nextOf_list_item (s := ⟨h, g, d, tk, os⟩) ⟨o, ho, hc, hdd⟩ (S.isList (.tail _ hna)) (by rw [List.getElem?_toArray]; exact hx) fun h1 i1 b1 => ?_
  have S1 : St (K w.params) L env gl al ((li, LIterP na (i + 1)) :: m) n h1 := S.up .head (fun b o hb e => (b1.2 b hb).trans e) (by obtain ⟨o, a, b, c⟩ := i1; exact ⟨o, a, b, c⟩)
  refine wpAny_pure ?_
  dsimp only
  rw [List.forIn_nil]
  refine wpAny_pure ?_
  obtain ⟨_, hIo1, e1⟩ := S1.get (.tail _ hI)
  have e1' := e1
  unfold MapP at e1'
  subst e1'
  refine wpAny_bind (wpAny_field hIo1 rfl (x := .ref q) rfl ?_)
  refine wpAny_bind (wpAny_holding ?_)
  obtain ⟨⟨ca, da, dta, sla⟩, hao, vs3, na3, hv3, hca, hda⟩ := S1.get (.tail _ ha)
  obtain ⟨t, u, w3, rfl⟩ := sc3 hv3
  dsimp only at hca hda
  subst hca hda
  obtain ⟨_, hqo, e2⟩ := S1.get (.tail _ hqq)
  unfold MakeP at e2
  subst e2
  refine wpAny_mono (narrow (make_run (E := fun _ _ => False) (i := ri) (j := rj) (k := rk) (t := t) (u := u) (v := w3) (B.K.keeps (S1.kb B)) hqo hao) hh hd (by show A.units + 1 ≤ 5000; lia  )) (fun v s hr => ?_) fun _ _ z => z.elim
  obtain ⟨r, h2, tk2, o2, rfl, rfl, k1, k2, k3, k4⟩ := hr
  refine wpAny_bind (wpAny_letGo (wpAny_pure ?_))
  exact ⟨_, rfl, wpAny_pure (hq _ _ _ (S1.ofRow k1 k2 k3 k4))⟩
theorem map_end {i : Nat} {Q : Option Value → Shared → Prop} (S : St (K w.params) L env gl al ((li, LIterP na i) :: m) n h) (hI : (I, MapP T q) ∈ m ++ (n ++ L)) (hT : (T, Tup1P li) ∈ m ++ (n ++ L)) (hna : (na, ListP vs) ∈ m ++ (n ++ L))
    (hx : vs[i]? = none) (hh : A.handled = none)
    (hq : ∀ h' tk', St (K w.params) L env gl al m n h' → Q none ⟨h', g, d, tk', os⟩) :
    wpAny (model PySem.Challenge.pw_il0152_01 w) A (pyNext (.ref I)) Q E ⟨h, g, d, tk, os⟩ := by
  obtain ⟨_, hIo, rfl⟩ := S.get (.tail _ hI)
  obtain ⟨_, hTo, nT, rfl⟩ := S.get (.tail _ hT)
  obtain ⟨o, ho, hc, hdd⟩ := S.get (.head _)
  have hty : (⟨h, g, d, tk, os⟩ : Shared).TypeIs (.ref I) "map" := ⟨_, hIo, rfl⟩
  unfold pyNext
  refine wpAny_bind (wpAny_attempt (wpAny_callSpecial?_slot (name := Str.ofString "__next__") hty map_next_slot (wpAny_call_entry map_next_slot hty map_next_entry ?_ (map_next_args _))))
  rw [map_next_tree]
  refine wpAny_bind (wpAny_field hIo rfl (x := .ref T) rfl ?_)
  refine wpAny_bind (wpAny_seqItems hTo rfl ?_)
  dsimp only
  refine wpAny_bind ?_
  rw [← Array.forIn_toList]
  rw [List.forIn_cons]
  refine wpAny_bind (wpAny_bind (wpAny_holding ?_))
  refine wpAny_nextOf_list_end (s := ⟨h, g, d, tk, os⟩) hh ⟨o, ho, hc, hdd⟩ (S.isList (.tail _ hna)) (by rw [List.getElem?_toArray]; exact hx) fun h1 e b1 he => ?_
  obtain ⟨oe, heo, hec⟩ := he
  refine wpAny_bind (wpAny_isInstance (T := "StopIteration") (b := true) ⟨oe, heo, hec⟩ isSubtype_stop ?_)
  exact wpAny_pure (hq _ _ (S.end b1))
theorem map_iter_entry : entryFor table "map.__iter__" = some Builtin.«dict_keyiterator.__iter__» := entryFor_alias (id' := "dict_keyiterator.__iter__") (by kernel_rfl) rfl (by decide +kernel) (by kernel_rfl)
theorem map_iter_args (a : Value) : argsOk "map.__iter__" ⟨[a], []⟩ := by unfold argsOk; kernel_rfl
theorem map_self {Q : Value → Shared → Prop} {s : Shared} (hI : s.TypeIs (.ref I) "map") (hq : Q (.ref I) s) : wpAny (model PySem.Challenge.pw_il0152_01 w) A (pyIter (.ref I)) Q E s := by
  refine wpAny_pyIter_slot hI map_iter_slot (wpAny_call_entry map_iter_slot hI map_iter_entry ?_ (map_iter_args _))
  show wpAny _ _ (ret (.ref I)) _ _ s
  exact wpAny_pure ⟨_, rfl, "map", _, hI, map_next_slot.lookup, hq⟩
end
end Mine
end
section
set_option autoImplicit false
namespace Mine
def Blk (a b : List Int) (alo ahi blo bhi i j k : Int) : Prop := alo ≤ i ∧ i + k ≤ ahi ∧ blo ≤ j ∧ j + k ≤ bhi ∧ 0 ≤ k ∧ ∀ t, 0 ≤ t → t < k → a[(i + t).toNat]? = b[(j + t).toNat]?
def Best (a b : List Int) (alo ahi blo bhi i j k : Int) : Prop :=
  (k = 0 → i = alo ∧ j = blo) ∧ Blk a b alo ahi blo bhi i j k ∧ ∀ i' j' k', Blk a b alo ahi blo bhi i' j' k' → k' ≤ k ∧ (k' = k → 0 < k → i < i' ∨ (i = i' ∧ j ≤ j'))
theorem Best.uniq {a b : List Int} {alo ahi blo bhi i j k i' j' k' : Int} (x : Best a b alo ahi blo bhi i j k) (y : Best a b alo ahi blo bhi i' j' k') : i = i' ∧ j = j' ∧ k = k' := by
  have h1 := x.2.2 _ _ _ y.2.1
  have h2 := y.2.2 _ _ _ x.2.1
  have hk : k = k' := by lia  
  subst hk
  have p := x.2.1.2.2.2.2.1
  by_cases e : k = 0
  · have := x.1 e; have := y.1 e; lia  
  · have := h1.2 rfl (by lia  ); have := h2.2 rfl (by lia  ); lia  
inductive Kept (a b : List Int) : Int → Int → Int → Int → List (Int × Int × Int) → Prop
  | nil {alo ahi blo bhi i j} : Best a b alo ahi blo bhi i j 0 → Kept a b alo ahi blo bhi []
  | node {alo ahi blo bhi i j k l r} : Best a b alo ahi blo bhi i j k → 0 < k → Kept a b alo i blo j l → Kept a b (i + k) ahi (j + k) bhi r → Kept a b alo ahi blo bhi (l ++ (i, j, k) :: r)
theorem Kept.uniq {a b : List Int} {alo ahi blo bhi l} (x : Kept a b alo ahi blo bhi l) : ∀ {l'}, Kept a b alo ahi blo bhi l' → l = l' := by
  induction x with
  | nil h =>
    intro l' y
    cases y with
    | nil h' => rfl
    | node h' hk _ _ => have := h.uniq h'; lia  
  | node h hk _ _ ih1 ih2 =>
    intro l' y
    cases y with
    | nil h' => have := h.uniq h'; lia  
    | node h' hk' y1 y2 =>
      obtain ⟨rfl, rfl, rfl⟩ := h.uniq h'
      rw [ih1 y1, ih2 y2]

theorem Kept.len {a b : List Int} {alo ahi blo bhi l} (x : Kept a b alo ahi blo bhi l) : (l.length : Int) ≤ ahi - alo := by
  induction x with
  | nil h => have := h.2.1; obtain ⟨_, _, _, _, _, _⟩ := this; simp; lia  
  | node h hk _ _ ih1 ih2 =>
    have := h.2.1; obtain ⟨_, _, _, _, _, _⟩ := this
    simp only [List.length_append, List.length_cons]; lia  
def Sofar (a b : List Int) (alo ahi blo bhi p q i j k : Int) : Prop :=
  (k = 0 → i = alo ∧ j = blo) ∧ Blk a b alo ahi blo bhi i j k ∧ (0 < k → i < p ∨ (i = p ∧ j < q)) ∧
  ∀ i' j' k', Blk a b alo ahi blo bhi i' j' k' → (i' < p ∨ (i' = p ∧ j' < q)) → k' ≤ k ∧ (k' = k → 0 < k → i < i' ∨ (i = i' ∧ j ≤ j'))
theorem Sofar.start {a b : List Int} {alo ahi blo bhi : Int} (h1 : alo ≤ ahi) (h2 : blo ≤ bhi) : Sofar a b alo ahi blo bhi alo blo alo blo 0 :=
  ⟨fun _ => ⟨rfl, rfl⟩, ⟨by lia  , by lia  , by lia  , by lia  , by lia  , fun t _ _ => by lia  ⟩, fun h => by lia  , fun i' j' k' B hp => by obtain ⟨b1, b2, b3, b4, b5, _⟩ := B; lia  ⟩
theorem Sofar.row {a b : List Int} {alo ahi blo bhi p i j k : Int} (x : Sofar a b alo ahi blo bhi p bhi i j k) : Sofar a b alo ahi blo bhi (p + 1) blo i j k := by
  refine ⟨x.1, x.2.1, fun h => by have := x.2.2.1 h; lia  , fun i' j' k' B hp => ?_⟩
  obtain ⟨b1, b2, b3, b4, b5, b6⟩ := id B
  by_cases q : i' < p ∨ (i' = p ∧ j' < bhi)
  · exact x.2.2.2 i' j' k' B q
  · have p0 := x.2.1.2.2.2.2.1
    constructor
    · lia  
    · intro e h0; lia  
theorem Sofar.best {a b : List Int} {alo ahi blo bhi i j k : Int} (x : Sofar a b alo ahi blo bhi ahi blo i j k) : Best a b alo ahi blo bhi i j k := by
  refine ⟨x.1, x.2.1, fun i' j' k' B => ?_⟩
  obtain ⟨b1, b2, b3, b4, b5, b6⟩ := id B
  by_cases q : i' < ahi ∨ (i' = ahi ∧ j' < blo)
  · exact x.2.2.2 i' j' k' B q
  · have p0 := x.2.1.2.2.2.2.1
    constructor
    · lia  
    · intro e h0; lia  
theorem Sofar.take {a b : List Int} {alo ahi blo bhi p q i j k r : Int} (x : Sofar a b alo ahi blo bhi p q i j k) (hr : Blk a b alo ahi blo bhi p q r) (hm : ∀ k', Blk a b alo ahi blo bhi p q k' → k' ≤ r) (hk : k < r) :
    Sofar a b alo ahi blo bhi p (q + 1) p q r := by
  have p0 := x.2.1.2.2.2.2.1
  refine ⟨fun e => by lia  , hr, fun _ => by lia  , fun i' j' k' B hp => ?_⟩
  by_cases e : i' < p ∨ (i' = p ∧ j' < q)
  · have := x.2.2.2 i' j' k' B e
    lia  
  · have e1 : i' = p := by lia  
    have e2 : j' = q := by lia  
    subst e1; subst e2
    exact ⟨hm _ B, fun _ _ => by lia  ⟩
theorem Sofar.leave {a b : List Int} {alo ahi blo bhi p q i j k r : Int} (x : Sofar a b alo ahi blo bhi p q i j k) (hm : ∀ k', Blk a b alo ahi blo bhi p q k' → k' ≤ r) (hk : r ≤ k) :
    Sofar a b alo ahi blo bhi p (q + 1) i j k := by
  refine ⟨x.1, x.2.1, fun h => by have := x.2.2.1 h; lia  , fun i' j' k' B hp => ?_⟩
  by_cases e : i' < p ∨ (i' = p ∧ j' < q)
  · exact x.2.2.2 i' j' k' B e
  · have e1 : i' = p := by lia  
    have e2 : j' = q := by lia  
    subst e1; subst e2
    have := hm _ B
    exact ⟨by lia  , fun e h0 => by have := x.2.2.1 h0; lia  ⟩
theorem Blk.zero {a b : List Int} {alo ahi blo bhi p q : Int} (h1 : alo ≤ p) (h2 : p ≤ ahi) (h3 : blo ≤ q) (h4 : q ≤ bhi) : Blk a b alo ahi blo bhi p q 0 := ⟨h1, by lia  , h3, by lia  , by lia  , fun t _ _ => by lia  ⟩
theorem Blk.more {a b : List Int} {alo ahi blo bhi p q k : Int} (x : Blk a b alo ahi blo bhi p q k) (h1 : p + k < ahi) (h2 : q + k < bhi) (e : a[(p + k).toNat]? = b[(q + k).toNat]?) : Blk a b alo ahi blo bhi p q (k + 1) := by
  obtain ⟨b1, b2, b3, b4, b5, b6⟩ := x
  refine ⟨b1, by lia  , b3, by lia  , by lia  , fun t t0 t1 => ?_⟩
  by_cases q : t < k
  · exact b6 t t0 q
  · have : t = k := by lia  
    subst this; exact e
theorem Blk.max {a b : List Int} {alo ahi blo bhi p q k : Int} (x : Blk a b alo ahi blo bhi p q k) (h : ahi ≤ p + k ∨ bhi ≤ q + k ∨ a[(p + k).toNat]? ≠ b[(q + k).toNat]?) : ∀ k', Blk a b alo ahi blo bhi p q k' → k' ≤ k := by
  intro k' y
  obtain ⟨b1, b2, b3, b4, b5, b6⟩ := y
  by_cases c : k' ≤ k
  · exact c
  · rcases h with h | h | h
    · lia  
    · lia  
    · exact absurd (b6 k x.2.2.2.2.1 (by lia  )) h
end Mine
end
section
open PySem
set_option autoImplicit false
namespace Mine
abbrev T3 := Int × Int × Int
def tri (p : T3) : List Sc := [.i p.1, .i p.2.1, .i p.2.2]
def gapR (i ai j bj : Int) : List (List Sc) := if ai - i = 0 ∧ bj - j = 0 then [] else [[.s (if ai - i = 0 then "insert" else if bj - j = 0 then "delete" else "replace"), .i i, .i ai, .i j, .i bj]]
def eqR (p : T3) : List (List Sc) := if 0 < p.2.2 then [[.s "equal", .i p.1, .i (p.1 + p.2.2), .i p.2.1, .i (p.2.1 + p.2.2)]] else []
def stepR (p q : T3) : List (List Sc) := eqR p ++ gapR (p.1 + p.2.2) q.1 (p.2.1 + p.2.2) q.2.1
def codesOf : List T3 → List (List Sc)
  | p :: q :: r => stepR p q ++ codesOf (q :: r)
  | _ => []
theorem codesOf_snoc : ∀ (l : List T3) (p q : T3), codesOf (l ++ [p, q]) = codesOf (l ++ [p]) ++ stepR p q
  | [], p, q => by simp [codesOf]
  | [a], p, q => by simp [codesOf]
  | a :: b :: l, p, q => by
    have := codesOf_snoc (b :: l) p q
    simp only [List.cons_append] at this ⊢
    simp only [codesOf, this, List.append_assoc]
theorem codesOf_take {ks : List T3} {k : Nat} {p q : T3} (hp : ks[k]? = some p) (hq : ks[k + 1]? = some q) : codesOf (ks.take (k + 2)) = codesOf (ks.take (k + 1)) ++ stepR p q := by
  have e1 : ks.take (k + 1) = ks.take k ++ [p] := by rw [List.take_succ, hp]; rfl
  have e2 : ks.take (k + 2) = ks.take k ++ [p, q] := by rw [List.take_succ, hq, e1]; simp
  rw [e1, e2, codesOf_snoc]
theorem codes_len : ∀ ks : List T3, (codesOf ks).length ≤ 2 * ks.length
  | [] => by simp [codesOf]
  | [_] => by simp [codesOf]
  | p :: q :: r => by
    have := codes_len (q :: r)
    have h1 : (eqR p).length ≤ 1 := by unfold eqR; split <;> simp
    have h2 : (gapR (p.1 + p.2.2) q.1 (p.2.1 + p.2.2) q.2.1).length ≤ 1 := by unfold gapR; split <;> simp
    simp only [codesOf, stepR, List.length_append, List.length_cons] at this ⊢
    lia  
end Mine
end
section
open PySem PySem.W PyProof.Rows PySem.Calls
set_option autoImplicit false
namespace Mine
section
variable {w : World} {A : Around} {E : Value → Shared → Prop} {h : Heap} {g : Array GenState} {d : Drawn} {tk : Nat} {os : OsState}
variable {L : LT} {h₁ : Heap} {env : Env} {gl : List (Str × Value)} {al : AL} {m n n0 : LT} {I T q li na Sx : Addr} {vs : List Value} {ts : List T3}
theorem map_loop {R : Result → Shared → Prop} (B : Bs (K w.params) h₁ L) (hI : (I, MapP T q) ∈ n0) (hT : (T, Tup1P li) ∈ n0) (hqq : (q, MakeP) ∈ n0) (hna : (na, ListP vs) ∈ n0) (hw : RowsIn (.type "tuple") n0 vs (ts.map tri)) (h7 : ts.length ≤ 1000)
    (hh : A.handled = none) (hd : A.depth ≤ 500) (hu : A.units ≤ 4800)
    (done : ∀ acc n h tk, St (K w.params) L env gl al ((Sx, ListP acc) :: m) n h → (∀ p ∈ n0, p ∈ n) → RowsIn (.ref 266) n acc (ts.map tri) → R (.ok (.ret .none)) ⟨h, g, d, tk, os⟩) :
    ∀ (k i : Nat) (acc : List Value) (n : LT) (h : Heap) (tk : Nat), ts.length - i = k → i ≤ ts.length → (∀ p ∈ n0, p ∈ n) → St (K w.params) L env gl al ((Sx, ListP acc) :: (li, LIterP na i) :: m) n h → RowsIn (.ref 266) n acc ((ts.take i).map tri) →
      codeAny (model PySem.Challenge.pw_il0152_01 w) A (.builtin "list.extend.loop" ⟨[.ref Sx, .ref I, .none], []⟩) R ⟨h, g, d, tk, os⟩ := by
  have mm : ∀ {p : Addr × OP} {n : LT} {m : LT}, p ∈ n0 → (∀ p ∈ n0, p ∈ n) → p ∈ m ++ (n ++ L) := fun hp hs => List.mem_append_right _ (List.mem_append_left _ (hs _ hp))
  have hlen := hw.length
  rw [List.length_map] at hlen
  intro k
  induction k with
  | zero =>
    intro i acc n h tk hk hi hs S hacc
    have hin : i = ts.length := by lia  
    subst hin
    refine codeAny_builtin PySem.F.entry_extend_loop ?_
    rw [Around.under_plainId PySem.F.plain_extend_loop _]
    show wpAny _ A.in1 (pyNext (.ref I) >>= _) _ _ _
    refine wpAny_bind (map_end (S.permM (.swap ..)) (mm hI hs) (mm hT hs) (mm hna hs) (List.getElem?_eq_none (by lia  )) hh fun h' tk' S => ?_)
    rw [List.take_length] at hacc
    exact wpAny_pure (done _ _ _ _ S hs hacc)
  | succ k ih =>
    intro i acc n h tk hk hi hs S hacc
    have hlt : i < ts.length := by lia  
    obtain ⟨t, ht⟩ : ∃ t, ts[i]? = some t := ⟨_, List.getElem?_eq_getElem hlt⟩
    obtain ⟨a, ha, hr⟩ := hw.at (k := i) (r := tri t) (by rw [List.getElem?_map, ht]; rfl)
    have hal := hacc.length
    rw [List.length_map, List.length_take] at hal
    refine codeAny_builtin PySem.F.entry_extend_loop ?_
    rw [Around.under_plainId PySem.F.plain_extend_loop _]
    show wpAny _ A.in1 (pyNext (.ref I) >>= _) _ _ _
    refine wpAny_bind (map_item (ri := t.1) (rj := t.2.1) (rk := t.2.2) (S.permM (.swap ..)) B (mm hI hs) (mm hT hs) (mm hqq hs) (mm hna hs) ha (mm hr hs) hh hd (by show A.units + 1 ≤ 4900; lia  ) fun r h' tk' S => ?_)
    have S := S.permM (.swap ..)
    obtain ⟨_, hSo, c, rfl⟩ := S.get (.head _)
    show wpAny _ A.in1 (updateSeq Sx (·.push (.ref r)) >>= _) _ _ _
    refine wpAny_bind (wpAny_updateSeq hSo rfl (wpAny_pure ⟨plainId_quiet PySem.F.plain_extend_loop _, ?_⟩) (by rw [List.size_toArray]; exact fits (by lia  )) (by show (acc.toArray.push (Value.ref r)).size ≤ _; rw [Array.size_push, List.size_toArray]; have := fits (n := acc.length) (by lia  ); lia  ))
    have S2 : St (K w.params) L env gl al ((Sx, ListP (acc ++ [.ref r])) :: (li, LIterP na (i + 1)) :: m) ((r, RowP (.ref 266) [.i t.1, .i t.2.1, .i t.2.2]) :: n) (h'.update Sx (Obj.mapSeq (·.push (.ref r)))) :=
      S.up .head (fun b o hb e => (Heap.get?_update_ne _ _ _ _ hb).trans e) ⟨_, Heap.get?_update_self _ hSo rfl, by
        simp only [Obj.mapSeq, List.push_toArray]; exact ⟨_, rfl⟩⟩
    refine ih (i + 1) _ _ _ _ (by lia  ) hlt (fun p hp => .tail _ (hs p hp)) S2 ?_
    have : ts.take (i + 1) = ts.take i ++ [t] := by rw [List.take_add_one, ht]; rfl
    rw [this, List.map_append]
    exact (hacc.mono fun p hp => .tail _ hp).append (.cons (.head _) .nil)
theorem mapList {Q : Value → Shared → Prop} (B : Bs (K w.params) h₁ L) (S : St (K w.params) L env gl al ((li, LIterP na 0) :: m) n h) (hI : (I, MapP T q) ∈ n) (hT : (T, Tup1P li) ∈ n) (hqq : (q, MakeP) ∈ n) (hna : (na, ListP vs) ∈ n) (hw : RowsIn (.type "tuple") n vs (ts.map tri)) (h7 : ts.length ≤ 1000)
    (hh : A.handled = none) (hd : A.depth ≤ 500) (hu : A.units ≤ 4700)
    (hq : ∀ Sx acc n' h' tk', St (K w.params) L env gl al m ((Sx, ListP acc) :: n') h' → (∀ p ∈ n, p ∈ n') → RowsIn (.ref 266) n' acc (ts.map tri) → Q (.ref Sx) ⟨h', g, d, tk', os⟩) :
    wpAny (model PySem.Challenge.pw_il0152_01 w) A (PySem.call (.type "list") [.ref I]) Q E ⟨h, g, d, tk, os⟩ := by
  refine callType_codes (Q₁ := fun obj s₁ => obj = .ref h.objs.size ∧ s₁ = ⟨h.push { cls := .type "list", data := .seq #[] }, g, d, tk, os⟩) PySem.F.called_list (PySem.F.typeCall_list_1 _) PySem.F.entry_list_init
    (code_list_new _ ⟨rfl, rfl⟩) fun obj s₁ h₁ => ?_
  obtain ⟨rfl, rfl⟩ := h₁
  have S1 : St (K w.params) L env gl al ((h.objs.size, ListP []) :: (li, LIterP na 0) :: m) n (h.push { cls := .type "list", data := .seq #[] }) := S.pushM _ rfl ⟨_, rfl⟩
  generalize h.objs.size = Sx at S1 ⊢
  generalize h.push { cls := .type "list", data := .seq #[] } = h1 at S1 ⊢
  obtain ⟨_, hSo, c, rfl⟩ := S1.get (.head _)
  refine ⟨⟨_, hSo, rfl⟩, PySem.F.args_list_init_2 _ _, ?_⟩
  show wpAny _ A.in1.in1 (do let old ← Builtin.List.listItems (.ref Sx); Builtin.List.listUpdate (.ref Sx) (fun _ => #[]); letGo old.toList.reverse; Builtin.List.listExtendWith (.ref Sx) (.ref I) .none) _ _ _
  refine wpAny_bind ?_
  unfold Builtin.List.listItems
  refine wpAny_bind (wpAny_seqItems hSo rfl (wpAny_pure ?_))
  show wpAny _ _ (updateSeq Sx (fun _ => #[]) >>= fun _ => letGo (#[] : Array Value).toList.reverse >>= fun _ => Builtin.List.listExtendWith (.ref Sx) (.ref I) .none) _ _ _
  refine wpAny_bind (wpAny_updateSeq hSo rfl ?_)
  have S2 : St (K w.params) L env gl al ((Sx, ListP []) :: (li, LIterP na 0) :: m) n (h1.update Sx (Obj.mapSeq fun _ => #[])) :=
    S1.up .head (fun b o hb e => (Heap.get?_update_ne _ _ _ _ hb).trans e) ⟨_, Heap.get?_update_self _ hSo rfl, by simp only [Obj.mapSeq]; exact ⟨_, rfl⟩⟩
  generalize h1.update Sx (Obj.mapSeq fun _ => #[]) = h2 at S2 ⊢
  refine wpAny_bind (wpAny_letGo ?_)
  have mI : (I, MapP T q) ∈ (((Sx, ListP []) :: (li, LIterP na 0) :: m) ++ (n ++ L)) := List.mem_append_right _ (List.mem_append_left _ hI)
  obtain ⟨_, hIo, e⟩ := S2.get mI
  unfold MapP at e
  subst e
  have hty : ∀ hx tk', hx.get? I = some { cls := .type "map", data := .fields #[.ref T, .ref q] } → (⟨hx, g, d, tk', os⟩ : Shared).TypeIs (.ref I) "map" := fun hx tk' e => ⟨_, e, rfl⟩
  have hSI : Sx ≠ I := fun e => by
    subst e
    obtain ⟨_, hSo, c, rfl⟩ := S2.get (.head _)
    rw [hIo] at hSo
    simp at hSo
  unfold Builtin.List.listExtendWith
  refine wpAny_bind (wpAny_typeOf (hty _ _ hIo) ?_)
  have h1' : Builtin.List.listSameRef (.ref Sx) (.ref I) = false := by simp [Builtin.List.listSameRef, hSI]
  have h2' : (Value.type "map" == Value.type "list") = false := by decide
  have h3' : (Value.type "map" == Value.type "tuple") = false := by decide
  simp only [h1', h2', h3', Bool.or_false, Bool.false_eq_true, if_false]
  refine wpAny_bind (map_self (hty _ _ hIo) ?_)
  refine wpAny_bind (wpAny_holding ?_)
  unfold Builtin.List.listLengthHint
  refine wpAny_bind (wpAny_specialOf (hty _ _ hIo) map_no_len ?_)
  show wpAny _ _ (specialOf (Value.ref I) (Str.ofString "__length_hint__") >>= _) _ _ _
  refine wpAny_bind (wpAny_specialOf (hty _ _ hIo) map_no_hint ?_)
  refine wpAny_pure ?_
  show wpAny _ _ (rule "list.extend.makes-room" >>= fun _ => Builtin.List.listTouch (.ref Sx) >>= fun _ => again (.builtin "list.extend.loop" ⟨[.ref Sx, .ref I, .none], []⟩)) _ _ _
  refine wpAny_bind (wpAny_rule ?_)
  refine wpAny_bind ?_
  show wpAny _ _ (updateSeq Sx (·.push .none) >>= fun _ => updateSeq Sx (·.pop)) _ _ _
  obtain ⟨_, hSo2, c2, rfl⟩ := S2.get (.head _)
  refine wpAny_bind (wpAny_updateSeq hSo2 rfl ?_)
  have hS3 := Heap.get?_update_self (Obj.mapSeq (·.push Value.none)) hSo2 rfl
  refine wpAny_updateSeq (hz := by seq_fits) hS3 rfl ?_
  have hS4 := Heap.get?_update_self (Obj.mapSeq (·.pop)) hS3 rfl
  have S3 : St (K w.params) L env gl al ((Sx, ListP []) :: (li, LIterP na 0) :: m) n ((h2.update Sx (Obj.mapSeq (·.push Value.none))).update Sx (Obj.mapSeq (·.pop))) :=
    S2.up .head (fun b o hb e => (Heap.get?_update_ne _ _ _ _ hb).trans ((Heap.get?_update_ne _ _ _ _ hb).trans e)) ⟨_, hS4, by simp only [Obj.mapSeq]; exact ⟨_, rfl⟩⟩
  refine wpAny_pure ⟨plainId_quiet PySem.F.plain_extend_loop _, ?_⟩
  refine map_loop (A := A.in1) (ts := ts) B hI hT hqq hna hw h7 hh hd (by show A.units + 1 ≤ 4800; lia  ) (fun acc n' h' tk' S hs hr => ?_) ts.length 0 [] n _ _ rfl (Nat.zero_le _) (fun p hp => hp) S3 .nil
  exact ⟨rfl, hq Sx acc n' h' tk' S.demote hs hr⟩
end
end Mine
end
section
open PySem PySem.W PyProof.Rows PySem.Calls
set_option autoImplicit false
namespace Mine
theorem Led.adds {h h' : Heap} {l news : LT} (D : Led h l) (hk : ∀ b o, h.get? b = some o → h'.get? b = some o) (hn : ∀ p ∈ news, h.get? p.1 = none ∧ ∃ o, h'.get? p.1 = some o ∧ p.2 o) (nd : (news.map (·.1)).Nodup) : Led h' (news ++ l) := by
  refine ⟨fun p hp => ?_, ?_⟩
  · rcases List.mem_append.mp hp with hp | hp
    · exact (hn p hp).2
    · exact (D.keep hk).at_ p hp
  · rw [List.map_append, List.nodup_append]
    refine ⟨nd, D.nd, fun a ha b hb e => ?_⟩
    obtain ⟨p, hp, rfl⟩ := List.mem_map.mp ha
    obtain ⟨q, hq, rfl⟩ := List.mem_map.mp hb
    obtain ⟨o, ho, _⟩ := D.at_ q hq
    rw [← e, (hn p hp).1] at ho
    cases ho
def Still (v₀ : Value) (h : Heap) (g : Array GenState) (d : Drawn) (os : OsState) (v : Value) (s : Shared) : Prop := v = v₀ ∧ ∃ h' tk', s = ⟨h', g, d, tk', os⟩ ∧ ∀ b o, h.get? b = some o → h'.get? b = some o
section
local macro_rules | `(tactic| x_close) => `(tactic| exact ⟨by first | rw [decide_eq_true (by assumption)] | rw [decide_eq_false (by assumption)], _, _, rfl, fun _ _ e => e⟩)
theorem lt_run {prog : Program} {w : World} {E : Value → Shared → Prop} {h : Heap} {g : Array GenState} {d : Drawn} {tk : Nat} {os : OsState} {x y : Addr} {i j k i' j' k' : Int} {t u v t' u' v' : Tok} {dd dd' : Option Addr} {n n' : Nat} {sl sl' : Array (Option Value)} (KX : (Mine.kmake.heap_1 w.params).In h)
    (hx : h.get? x = some { cls := .ref 266, dict := dd, data := .seq #[.int i t, .int j u, .int k v] n, slots := sl })
    (hy : h.get? y = some { cls := .ref 266, dict := dd', data := .seq #[.int i' t', .int j' u', .int k' v'] n', slots := sl' }) (he : i ≠ i') :
    wpAny (model prog w) wideA (PySem.call (.builtin "tuple.__lt__") [.ref x, .ref y]) (Still (.bool (decide (i < i'))) h g d os) E ⟨h, g, d, tk, os⟩ := by
  x_run
end
end Mine
end
section
open PySem PySem.W PyProof.Rows
set_option autoImplicit false
namespace Mine
def HT {α : Type} (κ : Nat → Int) (n : Nat) : KasT α → (α → Prop) → Prop
  | .ret a, Q => Q a
  | .ask i j k, Q => i < n ∧ j < n ∧ κ i ≠ κ j ∧ HT κ n (k (decide (κ i < κ j))) Q
theorem HT.mono {α : Type} {κ : Nat → Int} {n : Nat} : ∀ {t : KasT α} {Q Q' : α → Prop}, HT κ n t Q → (∀ a, Q a → Q' a) → HT κ n t Q'
  | .ret a, _, _, h, hq => hq a h
  | .ask i j k, _, _, h, hq => ⟨h.1, h.2.1, h.2.2.1, h.2.2.2.mono hq⟩
theorem HT.bind {α β : Type} {κ : Nat → Int} {n : Nat} {f : α → KasT β} {Q : β → Prop} : ∀ {t : KasT α}, HT κ n t (fun a => HT κ n (f a) Q) → HT κ n (t.bind f) Q
  | .ret a, h => h
  | .ask i j k, h => ⟨h.1, h.2.1, h.2.2.1, h.2.2.2.bind⟩
section
variable {κ : Nat → Int} {n : Nat}
def Inj (κ : Nat → Int) (n : Nat) : Prop := ∀ i j, i < n → j < n → i ≠ j → κ i ≠ κ j
def Pm (n : Nat) (p : Array Nat) : Prop := p.Perm (List.range n).toArray
def vK (κ : Nat → Int) (p : Array Nat) (k : Nat) : Int := κ (p.getD k 0)
theorem Pm.size {p : Array Nat} (h : Pm n p) : p.size = n := by have := Array.Perm.size_eq h; simpa using this
theorem Pm.lt {p : Array Nat} (h : Pm n p) {k : Nat} (hk : k < n) : p.getD k 0 < n := by
  have hs := h.size
  have e : p.getD k 0 = p[k] := by simp [Array.getD, hs, hk]
  rw [e]
  have hm : p[k] ∈ (List.range n).toArray := (Array.Perm.mem_iff h).mp (Array.getElem_mem _)
  simpa using hm
theorem Pm.ne {p : Array Nat} (h : Pm n p) (hi : Inj κ n) {a b : Nat} (ha : a < n) (hb : b < n) (hab : a ≠ b) : vK κ p a ≠ vK κ p b := by
  have hs := h.size
  refine hi _ _ (h.lt ha) (h.lt hb) fun e => hab ?_
  have nd : p.toList.Nodup := (Array.perm_iff_toList_perm.mp h).nodup_iff.mpr (by simpa using List.nodup_range)
  have e1 : p.getD a 0 = p.toList[a]'(by simpa [hs] using ha) := by simp [Array.getD, hs, ha]
  have e2 : p.getD b 0 = p.toList[b]'(by simpa [hs] using hb) := by simp [Array.getD, hs, hb]
  rw [e1, e2] at e
  exact (List.getElem_inj nd).mp e
theorem getD_of {p q : Array Nat} {a b : Nat} (h : p[a]? = q[b]?) : p.getD a 0 = q.getD b 0 := by
  rw [Array.getD_eq_getD_getElem?, Array.getD_eq_getD_getElem?, h]
theorem vK_bubble {p : Array Nat} (hs : p.size = n) {src d : Nat} (h : src < n) (hd : d ≤ src) (k : Nat) :
    vK κ (bubble p src d) k = if k = src - d then vK κ p src else if src - d < k ∧ k ≤ src then vK κ p (k - 1) else vK κ p k := by
  have e := getElem?_bubble (xs := p) (by lia  ) d hd k
  unfold vK
  repeat' split
  · rw [if_pos ‹_›] at e; rw [getD_of e]
  · rw [if_neg ‹_›, if_pos ‹_›] at e; rw [getD_of e]
  · rw [if_neg ‹_›, if_neg ‹_›] at e; rw [getD_of e]
theorem vK_rev {p : Array Nat} (hs : p.size = n) {m : Nat} (h : m ≤ n) (k : Nat) : vK κ (kas_rev p 0 m) k = if k < m then vK κ p (m - 1 - k) else vK κ p k := by
  have e := getElem?_mirror_all (xs := p) (i := 0) (j := m) (by lia  ) k
  unfold vK kas_rev
  split
  · rw [if_pos ⟨Nat.zero_le _, ‹_›⟩] at e
    rw [getD_of e, show 0 + m - 1 - k = m - 1 - k by lia  ]
  · rw [if_neg (by lia  )] at e; rw [getD_of e]
theorem Pm.rev {p : Array Nat} (h : Pm n p) (i j : Nat) : Pm n (kas_rev p i j) := (mirror_perm p i j _).trans h
theorem Pm.bub {p : Array Nat} (h : Pm n p) (i j : Nat) : Pm n (bubble p i j) := (bubble_perm p i j).trans h
def Asc (κ : Nat → Int) (p : Array Nat) (k : Nat) : Prop := ∀ a b, a < b → b < k → vK κ p a < vK κ p b
def Dsc (κ : Nat → Int) (p : Array Nat) (k : Nat) : Prop := ∀ a b, a < b → b < k → vK κ p b < vK κ p a
theorem Asc.snoc {p : Array Nat} {k : Nat} (h : Asc κ p k) (hk : 1 ≤ k) (hl : vK κ p (k - 1) < vK κ p k) : Asc κ p (k + 1) := by
  intro a b hab hb
  by_cases e : b = k
  · subst e
    by_cases e2 : a = b - 1
    · subst e2; exact hl
    · have := h a (b - 1) (by lia  ) (by lia  ); lia  
  · exact h a b hab (by lia  )
theorem Dsc.snoc {p : Array Nat} {k : Nat} (h : Dsc κ p k) (hk : 1 ≤ k) (hl : vK κ p k < vK κ p (k - 1)) : Dsc κ p (k + 1) := by
  intro a b hab hb
  by_cases e : b = k
  · subst e
    by_cases e2 : a = b - 1
    · subst e2; exact hl
    · have := h a (b - 1) (by lia  ) (by lia  ); lia  
  · exact h a b hab (by lia  )
theorem ht_asc {p : Array Nat} (h : Pm n p) (hi : Inj κ n) : ∀ (f m : Nat), 1 ≤ m → m + f ≤ n → Asc κ p m → HT κ n (kas_asc p f m) (fun r => m ≤ r ∧ r ≤ m + f ∧ Asc κ p r ∧ (r < m + f → vK κ p r < vK κ p (r - 1)))
  | 0, m, _, _, ha => ⟨Nat.le_refl _, Nat.le_refl _, ha, fun q => by lia  ⟩
  | f + 1, m, h1, h2, ha => by
    have hne := h.ne hi (a := m) (b := m - 1) (by lia  ) (by lia  ) (by lia  )
    refine ⟨h.lt (by lia  ), h.lt (by lia  ), hne, ?_⟩
    by_cases c : κ (p.getD m 0) < κ (p.getD (m - 1) 0)
    · rw [decide_eq_true c]; dsimp only; rw [if_pos rfl]
      exact ⟨Nat.le_refl _, by lia  , ha, fun _ => c⟩
    · rw [decide_eq_false c]; dsimp only; rw [if_neg (by simp)]
      refine (ht_asc h hi f (m + 1) (by lia  ) (by lia  ) (ha.snoc h1 ?_)).mono fun r hr => ⟨by lia  , by lia  , hr.2.2.1, fun q => hr.2.2.2 (by lia  )⟩
      unfold vK at hne ⊢; lia  
theorem ht_desc {p : Array Nat} (h : Pm n p) (hi : Inj κ n) : ∀ (f m : Nat), 1 ≤ m → m + f ≤ n → Dsc κ p m → HT κ n (kas_desc f p m 0) (fun r => r.1 = p ∧ r.2.2 = 0 ∧ m ≤ r.2.1 ∧ r.2.1 ≤ m + f ∧ Dsc κ p r.2.1)
  | 0, m, _, _, ha => ⟨rfl, rfl, Nat.le_refl _, Nat.le_refl _, ha⟩
  | f + 1, m, h1, h2, ha => by
    have hne := h.ne hi (a := m) (b := m - 1) (by lia  ) (by lia  ) (by lia  )
    refine ⟨h.lt (by lia  ), h.lt (by lia  ), hne, ?_⟩
    by_cases c : κ (p.getD m 0) < κ (p.getD (m - 1) 0)
    · rw [decide_eq_true c]; dsimp only; rw [if_pos rfl, if_neg (by lia  )]
      exact (ht_desc h hi f (m + 1) (by lia  ) (by lia  ) (ha.snoc h1 c)).mono fun r hr => ⟨hr.1, hr.2.1, by lia  , by lia  , hr.2.2.2.2⟩
    · rw [decide_eq_false c]; dsimp only; rw [if_neg (by simp)]
      refine ⟨h.lt (by lia  ), h.lt (by lia  ), hne.symm, ?_⟩
      have c2 : κ (p.getD (m - 1) 0) < κ (p.getD m 0) := by unfold vK at hne; lia  
      rw [decide_eq_true c2]; dsimp only; rw [if_pos rfl]
      exact ⟨rfl, rfl, Nat.le_refl _, by show m ≤ _; lia  , ha⟩
theorem ht_tail {p : Array Nat} (h : Pm n p) (hi : Inj κ n) {m : Nat} (h1 : 1 ≤ m) (h2 : m ≤ n) (hd : Dsc κ p m) : HT κ n (kas_tail3 m n p) (fun r => Pm n r.2 ∧ 1 ≤ r.1 ∧ r.1 ≤ n ∧ Asc κ r.2 r.1) := by
  unfold kas_tail3
  have ha : Asc κ (kas_rev p 0 m) m := by
    intro a b hab hb
    rw [vK_rev h.size h2, vK_rev h.size h2, if_pos (by lia  ), if_pos hb]
    exact hd _ _ (by lia  ) (by lia  )
  refine HT.bind ((ht_asc (h.rev 0 m) hi (n - m) m h1 (by lia  ) ha).mono fun r hr => ?_)
  exact ⟨h.rev 0 m, by lia  , by show r ≤ n; lia  , hr.2.2.1⟩
theorem ht_count {p : Array Nat} (h : Pm n p) (hi : Inj κ n) (h2 : 2 ≤ n) : HT κ n (kas_count n p) (fun r => Pm n r.2 ∧ 1 ≤ r.1 ∧ r.1 ≤ n ∧ Asc κ r.2 r.1) := by
  unfold kas_count
  refine HT.bind ((ht_asc h hi (n - 1) 1 (Nat.le_refl _) (by lia  ) (fun a b hab hb => by lia  )).mono fun m hm => ?_)
  obtain ⟨m1, m2, m3, m4⟩ := hm
  by_cases e : m = n
  · rw [if_pos (by simpa using e)]
    exact ⟨h, m1, by show m ≤ n; lia  , m3⟩
  · rw [if_neg (by simpa using e)]
    by_cases c : m > 1
    · rw [if_pos c]
      have hlt := m3 0 (m - 1) (by lia  ) (by lia  )
      refine ⟨h.lt (by lia  ), h.lt (by lia  ), h.ne hi (by lia  ) (by lia  ) (by lia  ), ?_⟩
      have hlt : κ (p.getD 0 0) < κ (p.getD (m - 1) 0) := hlt
      rw [decide_eq_true hlt]; dsimp only; rw [if_pos rfl]
      exact ⟨h, m1, by show m ≤ n; lia  , m3⟩
    · rw [if_neg c]
      have : m = 1 := by lia  
      subst this
      have hd : Dsc κ p 2 := by
        intro a b hab hb
        have := m4 (by lia  )
        rw [show a = 1 - 1 by lia  , show b = 1 by lia  ]; exact this
      unfold kas_descPart
      refine HT.bind ((ht_desc h hi (n - (1 + 1)) (1 + 1) (by lia  ) (by lia  ) hd).mono fun r hr => ?_)
      obtain ⟨r1, r2, r3, r4, r5⟩ := hr
      rw [if_neg (by lia  ), r1]
      exact ht_tail h hi (by lia  ) (by lia  ) r5
theorem ht_place {p : Array Nat} (h : Pm n p) (hi : Inj κ n) {k : Nat} (hk : k < n) (ha : Asc κ p k) : ∀ (f l r : Nat), r - l ≤ f → l ≤ r → r ≤ k → (∀ a, a < l → vK κ p a < vK κ p k) → (∀ a, r ≤ a → a < k → vK κ p k < vK κ p a) →
    HT κ n (kas_place p k f l r) (fun x => x ≤ k ∧ (∀ a, a < x → vK κ p a < vK κ p k) ∧ ∀ a, x ≤ a → a < k → vK κ p k < vK κ p a)
  | 0, l, r, h1, h2, h3, h4, h5 => ⟨by show l ≤ k; lia  , h4, fun a ha hk => h5 a (by have : r = l := by lia  
                                                                                      lia  ) hk⟩
  | f + 1, l, r, h1, h2, h3, h4, h5 => by
    unfold kas_place
    by_cases e : l ≥ r
    · rw [if_pos e]
      exact ⟨by show l ≤ k; lia  , h4, fun a ha hk => h5 a (by lia  ) hk⟩
    · rw [if_neg e]
      have hne := h.ne hi (a := k) (b := (l + r) / 2) hk (by lia  ) (by lia  )
      refine ⟨h.lt hk, h.lt (by lia  ), hne, ?_⟩
      by_cases c : κ (p.getD k 0) < κ (p.getD ((l + r) / 2) 0)
      · rw [decide_eq_true c]; dsimp only; rw [if_pos rfl]
        refine ht_place h hi hk ha f l ((l + r) / 2) (by lia  ) (by lia  ) (by lia  ) h4 fun a h6 h7 => ?_
        by_cases q : a = (l + r) / 2
        · subst q; exact c
        · have := ha ((l + r) / 2) a (by lia  ) h7
          unfold vK at this ⊢; lia  
      · rw [decide_eq_false c]; dsimp only; rw [if_neg (by simp)]
        refine ht_place h hi hk ha f ((l + r) / 2 + 1) r (by lia  ) (by lia  ) h3 (fun a h6 => ?_) h5
        have c2 : vK κ p ((l + r) / 2) < vK κ p k := by unfold vK at hne ⊢; lia  
        by_cases q : a = (l + r) / 2
        · subst q; exact c2
        · have := ha a ((l + r) / 2) (by lia  ) (by lia  )
          lia  
theorem ht_bin (hi : Inj κ n) : ∀ (f k : Nat) (p : Array Nat), Pm n p → k + f = n → Asc κ p k → HT κ n (kas_bin f p k) (fun r => Pm n r ∧ Asc κ r n)
  | 0, k, p, h, hk, ha => ⟨h, by rw [← hk]; exact ha⟩
  | f + 1, k, p, h, hk, ha => by
    unfold kas_bin
    refine HT.bind ((ht_place h hi (by lia  ) ha k 0 k (by lia  ) (by lia  ) (Nat.le_refl _) (fun a q => by lia  ) (fun a q1 q2 => by lia  )).mono fun l hl => ?_)
    obtain ⟨l1, l2, l3⟩ := hl
    refine ht_bin hi f (k + 1) _ (h.bub _ _) (by lia  ) fun a b hab hb => ?_
    have B := fun x => vK_bubble (κ := κ) h.size (src := k) (d := k - l) (by lia  ) (by lia  ) x
    rw [B a, B b]
    have e : k - (k - l) = l := by lia  
    rw [e]
    by_cases q1 : a = l
    · rw [if_pos q1, if_neg (by lia  ), if_pos (by lia  )]
      exact l3 _ (by lia  ) (by lia  )
    · rw [if_neg q1]
      by_cases q2 : l < a ∧ a ≤ k
      · rw [if_pos q2, if_neg (by lia  ), if_pos (by lia  )]
        exact ha _ _ (by lia  ) (by lia  )
      · rw [if_neg q2]
        by_cases q3 : b = l
        · rw [if_pos q3]; exact l2 _ (by lia  )
        · rw [if_neg q3]
          by_cases q4 : l < b ∧ b ≤ k
          · rw [if_pos q4]
            by_cases q5 : a = b - 1
            · lia  
            · exact ha _ _ (by lia  ) (by lia  )
          · rw [if_neg q4]; exact ha _ _ hab (by lia  )
theorem ht_sort (hi : Inj κ n) (h2 : 2 ≤ n) : HT κ n (kas_sort n) (fun r => Pm n r ∧ Asc κ r n) := by
  unfold kas_sort
  refine HT.bind ((ht_count (Array.Perm.refl _) hi h2).mono fun r hr => ?_)
  obtain ⟨r1, r2, r3, r4⟩ := hr
  have e : max r.1 1 = r.1 := by lia  
  by_cases c : r.1 < n
  · rw [if_pos c, e]
    exact ht_bin hi _ _ _ r1 (by lia  ) r4
  · rw [if_neg c]
    have : r.1 = n := by lia  
    exact ⟨r1, this ▸ r4⟩
theorem HT.wp {α : Type} {cmp : Nat → Nat → (Bool → Shared → Prop) → Shared → Prop} {P : Shared → Prop} (hc : ∀ i j C s, i < n → j < n → κ i ≠ κ j → P s → (∀ s', P s' → C (decide (κ i < κ j)) s') → cmp i j C s) {G : α → Shared → Prop} :
    ∀ {t : KasT α} {Q : α → Prop} {s : Shared}, HT κ n t Q → P s → (∀ a s', Q a → P s' → G a s') → t.kasWp cmp G s
  | .ret a, _, s, h, p, hq => hq a s h p
  | .ask i j k, _, s, h, p, hq => hc i j _ s h.1 h.2.1 h.2.2.1 p fun s' p' => HT.wp hc h.2.2.2 p' hq
end
end Mine
end
section
open PySem PySem.W PyProof.Rows PySem.Calls
set_option autoImplicit false
namespace Mine
theorem tlt_bind (self : Value) : bindSpecial (.builtin "tuple.__lt__") self = pure (.builtin "tuple.__lt__", [self]) :=
  (Slot.of (T := "tuple") (name := "__lt__") (owner := "tuple") (n := "__lt__") (by rw [typeLookup_type, builtinLookup_eq_fast]; kernel_rfl) (by decide +kernel) (by decide +kernel) (by decide +kernel)
    (.inl (by decide +kernel)) (by rw [isSubtype_type]; kernel_rfl)).bind self
section
variable {w : World} {A : Around} {E : Value → Shared → Prop} {h : Heap} {g : Array GenState} {d : Drawn} {tk : Nat} {os : OsState} {x y : Addr} {i j k i' j' k' : Int} {t u v t' u' v' : Tok} {dd dd' : Option Addr} {n n' : Nat} {sl sl' : Array (Option Value)}
theorem lt_two {Q : Bool → Shared → Prop} (KX : (Mine.K w.params).In h)
    (hx : h.get? x = some { cls := .ref 266, dict := dd, data := .seq #[.int i t, .int j u, .int k v] n, slots := sl })
    (hy : h.get? y = some { cls := .ref 266, dict := dd', data := .seq #[.int i' t', .int j' u', .int k' v'] n', slots := sl' }) (he : i ≠ i') (hh : A.handled = none) (hd : A.depth ≤ 500) (hu : A.units ≤ 5000)
    (hq : ∀ h' tk', (∀ b o, h.get? b = some o → h'.get? b = some o) → Q (decide (i < i')) ⟨h', g, d, tk', os⟩) :
    wpAny (model PySem.Challenge.pw_il0152_01 w) A (oneLt' true (.ref x) (.ref y)) Q E ⟨h, g, d, tk, os⟩ := by
  have L0 : Looks (model PySem.Challenge.pw_il0152_01 w) h (typeOf (.ref x)) (.ref 266) := (Looks.ld hx).andThen .now
  have L1 : Looks (model PySem.Challenge.pw_il0152_01 w) h (typeLookup (.ref 266) "__lt__") (some (.builtin "tuple.__lt__")) := looks_findIn KX (by rfl)
  have L2 : Looks (model PySem.Challenge.pw_il0152_01 w) h (specialOf (.ref x) "__lt__") (some (.builtin "tuple.__lt__")) := L0.andThen L1
  have fin : ∀ t, wpAny (model PySem.Challenge.pw_il0152_01 w) A (PySem.call (.builtin "tuple.__lt__") [.ref x, .ref y]) (fun v s => v = .bool (decide (i < i')) ∧ Q (decide (i < i')) s) E ⟨h, g, d, t, os⟩ := fun t => by
    refine wpAny_mono (narrow (lt_run (E := fun _ _ => False) KX hx hy he) hh hd hu) (fun v s hv => ?_) fun _ _ z => z.elim
    obtain ⟨rfl, h', tk', rfl, hk⟩ := hv
    exact ⟨rfl, hq _ _ hk⟩
  have last : ∀ s', Q (decide (i < i')) s' → wpAny (model PySem.Challenge.pw_il0152_01 w) A (truthOfDropped (.bool (decide (i < i')))) Q E s' := fun s' q => wpAny_truthy_bool q
  rw [oneLt'_eq]
  simp only [if_true]
  refine wpAny_bind (wpAny_cRoomFor (by have : (9900 : Nat) = cLine := by decide +kernel
                                        lia  ) ?_)
  refine wpAny_bind ?_
  unfold callSpecialIfBound? bindSpecialIfBound?
  refine wpAny_holding (wpAny_bind (wpAny_bind (L2.at ?_)))
  dsimp only
  refine wpAny_bind (wpAny_askSetting (wpAny_ite ?_))
  split
  · rw [tlt_bind]
    refine wpAny_bind (wpAny_pure (wpAny_pure ?_))
    dsimp only
    refine wpAny_bind (wpAny_mono (fin tk) (fun v s' hv => ?_) fun _ _ z => z)
    obtain ⟨rfl, q⟩ := hv
    exact wpAny_pure (last _ q)
  · refine wpAny_tryCatch ?_
    rw [tlt_bind]
    refine wpAny_bind (wpAny_pure (wpAny_pure ?_))
    dsimp only
    refine wpAny_bind (wpAny_mono (fin tk) (fun v s' hv => ?_) fun _ _ z => z)
    obtain ⟨rfl, q⟩ := hv
    exact wpAny_pure (last _ q)
end
theorem perm_map_getD {α β : Type} {p : List Nat} {l : List α} (f : Nat → β) (g : α → β) (hp : p.Perm (List.range l.length)) (hf : ∀ k (h : k < l.length), f k = g l[k]) : (p.map f).Perm (l.map g) := by
  refine (hp.map f).trans (List.Perm.of_eq ?_)
  apply List.ext_getElem
  · simp
  · intro k h1 h2
    simp only [List.getElem_map, List.getElem_range]
    exact hf k (by simpa using h2)
section
variable {w : World} {A : Around} {E : Value → Shared → Prop} {h : Heap} {g : Array GenState} {d : Drawn} {tk : Nat} {os : OsState}
variable {L : LT} {h₁ : Heap} {env : Env} {gl : List (Str × Value)} {al : AL} {m n : LT} {Sx : Addr} {vs : List Value} {ts : List T3}
theorem rows_pick (hw : RowsIn (.ref 266) n vs (ts.map tri)) : ∀ (p : List Nat), (∀ k ∈ p, k < ts.length) → RowsIn (.ref 266) n (p.map fun i => vs.getD i Value.none) ((p.map fun i => ts.getD i (0, 0, 0)).map tri)
  | [], _ => .nil
  | k :: p, hp => by
    have hk := hp k (.head _)
    obtain ⟨a, ha, hr⟩ := hw.at (k := k) (r := tri ts[k]) (by rw [List.getElem?_map, List.getElem?_eq_getElem hk]; rfl)
    rw [List.map_cons, List.map_cons, List.map_cons]
    have e1 : vs.getD k Value.none = .ref a := by rw [List.getD_eq_getElem?_getD, ha]; rfl
    have e2 : ts.getD k (0, 0, 0) = ts[k] := by rw [List.getD_eq_getElem?_getD, List.getElem?_eq_getElem hk]; rfl
    rw [e1, e2]
    exact .cons hr (rows_pick hw p fun x hx => hp x (.tail _ hx))
theorem sortS {Q : Value → Shared → Prop} (B : Bs (K w.params) h₁ L) (S : St (K w.params) L env gl al ((Sx, ListP vs) :: m) n h) (hw : RowsIn (.ref 266) n vs (ts.map tri)) (hnd : (ts.map (·.1)).Nodup) (h64 : ts.length < 64)
    (hh : A.handled = none) (hd : A.depth ≤ 500) (hu : A.units ≤ 4900)
    (hq : ∀ (ts' : List T3) (vs' : List Value) (h' : Heap) (tk' : Nat), ts'.Perm ts → ts'.Pairwise (fun a b => a.1 < b.1) → RowsIn (.ref 266) n vs' (ts'.map tri) → St (K w.params) L env gl al ((Sx, ListP vs') :: m) n h' → Q .none ⟨h', g, d, tk', os⟩) :
    wpAny (model PySem.Challenge.pw_il0152_01 w) A (PySem.call (.builtin "list.sort") [.ref Sx]) Q E ⟨h, g, d, tk, os⟩ := by
  have hlen : vs.length = ts.length := by have := hw.length; simpa using this
  obtain ⟨_, ho, c, rfl⟩ := S.get (.head _)
  refine wpAny_call_entry slot_list_sort ⟨_, ho, rfl⟩ entry_list_sort ?_ (args_list_sort _)
  rw [list_sort_plain]
  refine wpAny_bind (listItems_at ho rfl ?_)
  refine wpAny_bind (listUpdate_at ho rfl ?_ (by rw [List.size_toArray]; exact fits (by lia  )) (Nat.zero_le _))
  obtain ⟨e1, ho1⟩ : ∃ e1, (h.update Sx (Obj.mapSeq fun _ => (#[] : Array Value))).get? Sx = some (seqObj "list" #[] e1) := ⟨_, get?_update_seq ho fun _ => #[]⟩
  have S1 : St (K w.params) L env gl al ((Sx, fun o => o = seqObj "list" #[] e1) :: m) n (h.update Sx (Obj.mapSeq fun _ => (#[] : Array Value))) := S.up .head (fun b o hb e => (Heap.get?_update_ne _ _ _ _ hb).trans e) ⟨_, ho1, rfl⟩
  refine wpAny_bind (seqEpoch_at ho1 rfl ?_)
  refine wpAny_bind (wpAny_newTuple ?_ (by show vs.length ≤ _; exact fits (by lia  )))
  refine wpAny_bind (wpAny_newList ?_ (Nat.zero_le _))
  refine wpAny_holding ?_
  show wpAny (model PySem.Challenge.pw_il0152_01 w) _ _ _ _ ⟨((h.update Sx (Obj.mapSeq fun _ => (#[] : Array Value))).push (seqObj "tuple" vs.toArray 0)).push (seqObj "list" #[] 0), g, d, tk, os⟩
  have S2 := S1.grown (h' := ((h.update Sx (Obj.mapSeq fun _ => (#[] : Array Value))).push (seqObj "tuple" vs.toArray 0)).push (seqObj "list" #[] 0)) (fun b o e => Heap.get?_push_of_some _ (Heap.get?_push_of_some _ e))
  generalize ((h.update Sx (Obj.mapSeq fun _ => (#[] : Array Value))).push (seqObj "tuple" vs.toArray 0)).push (seqObj "list" #[] 0) = h2 at S2 ⊢
  dsimp only
  have fin : ∀ (st' : SortSt) (h3 : Heap) (tk3 : Nat) (ts' : List T3) (vs' : List Value), (arrOf st').map (·.2) = vs'.toArray → failedOf st' = none → ts'.Perm ts → ts'.Pairwise (fun a b => a.1 < b.1) → RowsIn (.ref 266) n vs' (ts'.map tri) →
      St (K w.params) L env gl al ((Sx, fun o => o = seqObj "list" #[] e1) :: m) n h3 → vs'.length < 64 →
      wpAny (model PySem.Challenge.pw_il0152_01 w) A.in1 (do
        let sorted := (arrOf st').map (·.2)
        let touched := (← seqEpoch Sx) != e1
        Builtin.List.listUpdate (.ref Sx) fun _ => sorted
        if let some e := failedOf st' then rule "list.sort.comparison-raised"; throw e
        if touched then rule "list.sort.modified"; raiseError "ValueError" "list modified during sort"
        ret .none) (fun fin s' => ∃ v, fin = Fin.done (Flow.ret v) ∧ Q v s') E ⟨h3, g, d, tk3, os⟩ := by
    intro st' h3 tk3 ts' vs' hout hf hp hs hr S3 hl
    obtain ⟨_, ho3, rfl⟩ := S3.get (.head _)
    dsimp only
    rw [hout]
    refine wpAny_bind (seqEpoch_at ho3 rfl ?_)
    refine wpAny_bind (listUpdate_at ho3 rfl ?_ (Nat.zero_le _) (by show vs'.toArray.size ≤ _; rw [List.size_toArray]; exact Nat.le_succ_of_le (fits (n := vs'.length) (by lia  ))))
    rw [hf]
    simp only [bne_self_eq_false, Bool.false_eq_true, if_false]
    refine wpAny_pure ⟨_, rfl, hq ts' vs' _ _ hp hs hr (S3.up .head (fun b o hb e => (Heap.get?_update_ne _ _ _ _ hb).trans e) ?_)⟩
    obtain ⟨c2, hc2⟩ : ∃ c2, (h3.update Sx (Obj.mapSeq fun _ => vs'.toArray)).get? Sx = some (seqObj "list" vs'.toArray c2) := ⟨_, get?_update_seq ho3 fun _ => vs'.toArray⟩
    exact ⟨_, hc2, _, rfl⟩
  by_cases h2' : vs.toArray.size < 2
  · rw [if_pos h2', if_pos h2']
    rw [List.size_toArray] at h2'
    refine wpAny_bind (wpAny_pure ?_)
    rw [StateT.run_pure]
    refine wpAny_bind (wpAny_pure ?_)
    refine fin (SortSt.mk' general' (vs.toArray.zip vs.toArray) #[] 7 none) h2 tk ts vs ?_ rfl (List.Perm.refl _) ?_ hw S2 (by lia  )
    · show (vs.toArray.zip vs.toArray).map (·.2) = vs.toArray
      exact kat_snds (ks := vs) (vs := vs) rfl (st := SortSt.mk' general' (vs.toArray.zip vs.toArray) #[] 7 none) (p := (List.range vs.length).toArray) (by have := kas_range (vs.toArray.zip vs.toArray); rw [show (vs.toArray.zip vs.toArray).size = vs.length by simp] at this; exact this.symm) |>.trans (by
        apply congrArg
        apply List.ext_getElem
        · simp
        · intro k h1 h3
          simp at h1
          simp [h1])
    · match ts, hlen, h2' with
      | [], _, _ => exact .nil
      | [_], _, _ => exact List.pairwise_singleton _ _
      | _ :: _ :: _, e, h => simp at e; lia  
  · rw [if_neg h2', if_neg h2']
    rw [List.size_toArray] at h2'
    have hr : ∀ i, i < vs.length → ∃ a p, vs.getD i .none = .ref a ∧ ts[i]? = some p ∧ (a, RowP (.ref 266) (tri p)) ∈ n := fun i hi => by
      obtain ⟨p, hp⟩ : ∃ p, ts[i]? = some p := ⟨_, List.getElem?_eq_getElem (by lia  )⟩
      obtain ⟨a, ha, hr⟩ := hw.at (k := i) (r := tri p) (by rw [List.getElem?_map, hp]; rfl)
      exact ⟨a, p, by rw [List.getD_eq_getElem?_getD, ha]; rfl, hp, hr⟩
    have hT : ∀ v ∈ vs, Looks (model PySem.Challenge.pw_il0152_01 w) h2 (typeOf v) (.ref 266) := fun v hv => by
      obtain ⟨i, hi, rfl⟩ := List.mem_iff_getElem.mp hv
      obtain ⟨a, p, e, hp, hr⟩ := hr i hi
      have e' : vs[i] = .ref a := by rw [List.getD_eq_getElem?_getD, List.getElem?_eq_getElem hi] at e; exact e
      rw [e']
      obtain ⟨o, ho, _, _, _, hc, _⟩ := S2.get (List.mem_append_right _ (List.mem_append_left _ hr))
      rw [← hc]
      exact (Looks.ld ho).andThen .now
    refine wpAny_bind (kas_kind (s := ⟨h2, g, d, tk, os⟩) (T := .ref 266) (by lia  ) hT (by decide) (by decide) ?_)
    obtain ⟨κ, hκ⟩ : ∃ κ : Nat → Int, κ = fun i => (ts.getD i (0, 0, 0)).1 := ⟨_, rfl⟩
    have hk : ∀ i p, ts[i]? = some p → κ i = p.1 := fun i p e => by rw [hκ]; show (ts.getD i (0, 0, 0)).1 = p.1; rw [List.getD_eq_getElem?_getD, e]; rfl
    have hi : Inj κ vs.length := fun i j h1 h3 hij e => by
      obtain ⟨a, p, _, e1, _⟩ := hr i h1
      obtain ⟨b, q, _, e2, _⟩ := hr j h3
      rw [hk i p e1, hk j q e2] at e
      refine hij ((List.getElem_inj hnd (h₀ := by simp; lia  ) (h₁ := by simp; lia  )).mp ?_)
      obtain ⟨l1, e1⟩ := List.getElem?_eq_some_iff.mp e1
      obtain ⟨l2, e2⟩ := List.getElem?_eq_some_iff.mp e2
      rw [List.getElem_map, List.getElem_map, e1, e2]; exact e
    refine wpAny_bind (wpAny_mono (kat_run (E := E) (κ := oneType') (ks := vs) (Q := fun st' s' => ∃ (p : Array Nat) (h3 : Heap) (tk3 : Nat), s' = ⟨h3, g, d, tk3, os⟩ ∧ p.size = vs.length ∧ arrOf st' = p.map (kas_item (vs.toArray.zip vs.toArray)) ∧ failedOf st' = none ∧ Pm vs.length p ∧ Asc κ p vs.length ∧ St (K w.params) L env gl al ((Sx, fun o => o = seqObj "list" #[] e1) :: m) n h3)
      (G := fun p s' => ∃ h3 tk3, s' = ⟨h3, g, d, tk3, os⟩ ∧ Pm vs.length p ∧ Asc κ p vs.length ∧ St (K w.params) L env gl al ((Sx, fun o => o = seqObj "list" #[] e1) :: m) n h3) rfl (by lia  ) (by lia  ) ?r1 ?r2) ?r3 fun _ _ e => e)
    case r1 =>
      rintro p st' s' hp har hf ⟨h3, tk3, rfl, q1, q2, q3⟩
      exact ⟨p, h3, tk3, rfl, hp, har, hf, q1, q2, q3⟩
    case r2 =>
      refine HT.wp (κ := κ) (n := vs.length) (P := fun s => ∃ h3 tk3, s = ⟨h3, g, d, tk3, os⟩ ∧ St (K w.params) L env gl al ((Sx, fun o => o = seqObj "list" #[] e1) :: m) n h3) ?_ (ht_sort hi (by lia  )) ⟨h2, tk, rfl, S2⟩ (fun p s' hp ⟨h3, tk3, e, S3⟩ => ⟨h3, tk3, e, hp.1, hp.2, S3⟩)
      rintro i j C _ hi1 hj1 hne ⟨h3, tk3, rfl, S3⟩ hC
      obtain ⟨a, p, ea, ep, ra⟩ := hr i hi1
      obtain ⟨b, q, eb, eq, rb⟩ := hr j hj1
      unfold kas_ask
      rw [ea, eb, keyLt'_oneType]
      rw [hk i p ep, hk j q eq] at hne
      obtain ⟨⟨c1, d1, dt1, s1⟩, o1, v1, n1, x1, cc1, dd1⟩ := S3.get (List.mem_append_right _ (List.mem_append_left _ ra))
      obtain ⟨⟨c2, d2, dt2, s2⟩, o2, v2, n2, x2, cc2, dd2⟩ := S3.get (List.mem_append_right _ (List.mem_append_left _ rb))
      obtain ⟨t1, u1, w1, rfl⟩ := sc3 x1
      obtain ⟨t2, u2, w2, rfl⟩ := sc3 x2
      dsimp only at cc1 dd1 cc2 dd2
      subst cc1 dd1 cc2 dd2
      refine lt_two (B.K.keeps (S3.kb B)) o1 o2 hne hh hd (by show A.units + 1 ≤ 5000; lia  ) fun h4 tk4 hkk => ?_
      have := hC ⟨h4, g, d, tk4, os⟩ ⟨h4, tk4, rfl, S3.grown hkk⟩
      rw [hk i p ep, hk j q eq] at this
      exact this
    case r3 =>
      rintro ⟨⟨⟩, st'⟩ s' ⟨p, h3, tk3, rfl, hp, har, hf, q1, q2, q3⟩
      have hpl : p.toList.Perm (List.range vs.length) := by have := Array.perm_iff_toList_perm.mp q1; simpa using this
      have hlt : ∀ k ∈ p.toList, k < ts.length := fun k hk => by have := (hpl.mem_iff).mp hk; rw [List.mem_range] at this; lia  
      have hsz : p.toList.length = vs.length := by simpa using hp
      refine fin st' h3 tk3 (p.toList.map fun i => ts.getD i (0, 0, 0)) (p.toList.map fun i => vs.getD i Value.none) (kat_snds rfl har) hf ?_ ?_ (rows_pick hw _ hlt) q3 (by rw [List.length_map, hsz]; lia  )
      · have := perm_map_getD (p := p.toList) (l := ts) (fun i => ts.getD i (0, 0, 0)) id (by rw [← hlen]; exact hpl) (fun k hk => by rw [List.getD_eq_getElem?_getD, List.getElem?_eq_getElem hk]; rfl)
        rwa [List.map_id] at this
      · rw [List.pairwise_map, List.pairwise_iff_getElem]
        intro a b ha hb hab
        have := q2 a b hab (by lia  )
        unfold vK at this
        rw [hκ] at this
        have ea : p.getD a 0 = p.toList[a] := by
          have : a < p.size := by simpa using ha
          simp [Array.getD, this]
        have eb : p.getD b 0 = p.toList[b] := by
          have : b < p.size := by simpa using hb
          simp [Array.getD, this]
        rw [ea, eb] at this
        exact this
end
end Mine
end
section
open PySem PySem.W PyProof.Rows PySem.Calls
set_option autoImplicit false
namespace Mine
theorem isNot_none_none {M : Model} {A : Around} {E : Value → Shared → Prop} {s : Shared} {Q : Value → Shared → Prop} (h : Q (.bool false) s) : wpAny M A (compareOp .IsNot .none .none) Q E s := wpAny_isNot_self rfl h
section
variable {w : World} {A : Around} {E : Value → Shared → Prop} {h : Heap} {g : Array GenState} {d : Drawn} {tk : Nat} {os : OsState}
variable {L : LT} {h₁ : Heap} {env : Env} {gl : List (Str × Value)} {al : AL} {m n : LT} {I T q li na a : Addr} {vs : List Value} {pos : Pos}
theorem newMapS {Q : Value → Shared → Prop} (S : St (K w.params) L env gl al m n h) (B : Bs (K w.params) h₁ L) (hna : (na, ListP vs) ∈ m ++ (n ++ L)) (hh : A.handled = none) (hd : A.depth ≤ 500) (hu : A.units ≤ 5000)
    (hq : ∀ I T li h' tk', St (K w.params) L env gl al ((li, LIterP na 0) :: m) ((I, MapP T q) :: (T, Tup1P li) :: n) h' → Q (.ref I) ⟨h', g, d, tk', os⟩) : wpAny (model PySem.Challenge.pw_il0152_01 w) A (PySem.call (.type "map") [.ref q, .ref na]) Q E ⟨h, g, d, tk, os⟩ := by
  obtain ⟨_, ho, c, rfl⟩ := S.get hna
  refine wpAny_mono (narrow (map_run (E := fun _ _ => False) (B.K.keeps (S.kb B)) ho) hh hd hu) (fun v s hr => ?_) fun _ _ z => z.elim
  obtain ⟨I, T, li, h', tk', rfl, rfl, k0, k1, k2, k3, n1, n2, n3, o1, ⟨nn, o2⟩, o3⟩ := hr
  refine hq I T li h' tk' ⟨?_, S.env⟩
  refine (Led.adds (news := [(li, LIterP na 0), (I, MapP T q), (T, Tup1P li)]) S.led k0 ?_ ?_).perm ?_
  · intro p hp
    rcases List.mem_cons.mp hp with rfl | hp
    · exact ⟨k3, _, o3, rfl, rfl⟩
    · rcases List.mem_cons.mp hp with rfl | hp
      · exact ⟨k1, _, o1, rfl⟩
      · rcases List.mem_cons.mp hp with rfl | hp
        · exact ⟨k2, _, o2, nn, rfl⟩
        · cases hp
  · simp only [List.map_cons, List.map_nil, List.nodup_cons, List.mem_cons, List.not_mem_nil, or_false, not_or, not_false_eq_true, List.nodup_nil, and_true]
    exact ⟨⟨Ne.symm n3, Ne.symm n2⟩, n1⟩
  · show ((li, LIterP na 0) :: (I, MapP T q) :: (T, Tup1P li) :: (env.locals, FrP al) :: (m ++ (n ++ L))).Perm ((env.locals, FrP al) :: (li, LIterP na 0) :: (m ++ ((I, MapP T q) :: (T, Tup1P li) :: (n ++ L))))
    have e1 : ((env.locals, FrP al) :: (li, LIterP na 0) :: (m ++ ((I, MapP T q) :: (T, Tup1P li) :: (n ++ L)))).Perm ((env.locals, FrP al) :: (li, LIterP na 0) :: ((I, MapP T q) :: (T, Tup1P li) :: (m ++ (n ++ L)))) :=
      .cons _ (.cons _ (List.perm_middle.trans (.cons _ List.perm_middle)))
    refine List.Perm.trans ?_ e1.symm
    exact (List.perm_middle (l₁ := [(li, LIterP na 0), (I, MapP T q), (T, Tup1P li)]) (a := (env.locals, FrP al)) (l₂ := m ++ (n ++ L)))
theorem unpackC {C : Addr} (hC : C = 266 ∨ C = 142) {elts : List PySem.Expr} {kk : Nat} {i j k : Int} {Q : Unit → Shared → Prop} (S : St (K w.params) L env gl al m n h) (B : Bs (K w.params) h₁ L) (hm : (a, RowP (.ref C) [.i i, .i j, .i k]) ∈ m ++ (n ++ L)) (hh : A.handled = none) (hd : A.depth ≤ 500) (hu : A.units ≤ 5000)
    (hlen : (assignEach elts env).length = 3) (hstar : (assignEach elts env).findIdx? (·.1) = none)
    (hq : ∀ t u v h' tk', St (K w.params) L env gl al m n h' → wpAny (model PySem.Challenge.pw_il0152_01 w) A (assignInOrder ((assignEach elts env).map (·.2)) [.int i t, .int j u, .int k v]) Q E ⟨h', g, d, tk', os⟩) :
    wpAny (model PySem.Challenge.pw_il0152_01 w) A (assign (.Tuple elts kk pos) env (.ref a)) Q E ⟨h, g, d, tk, os⟩ := by
  obtain ⟨⟨c1, d1, dt1, s1⟩, o1, v1, n1, x1, cc1, dd1⟩ := S.get hm
  obtain ⟨t1, u1, w1, rfl⟩ := sc3 x1
  dsimp only at cc1 dd1
  subst cc1 dd1
  rw [PyProof.Rows.assign_Tuple]
  refine wpAny_bind (wpAny_standAt ?_)
  unfold unpack
  rw [hlen, hstar]
  refine wpAny_bind (wpAny_holding (match_items hC (B.K.keeps (S.kb B)) o1 hh hd hu fun h' tk' hk => ?_))
  exact hq _ _ _ _ _ (S.grown hk)
theorem unpackM {elts : List PySem.Expr} {kk : Nat} {i j k : Int} {Q : Unit → Shared → Prop} (S : St (K w.params) L env gl al m n h) (B : Bs (K w.params) h₁ L) (hm : (a, RowP (.ref 266) [.i i, .i j, .i k]) ∈ m ++ (n ++ L)) (hh : A.handled = none) (hd : A.depth ≤ 500) (hu : A.units ≤ 5000)
    (hlen : (assignEach elts env).length = 3) (hstar : (assignEach elts env).findIdx? (·.1) = none)
    (hq : ∀ t u v h' tk', St (K w.params) L env gl al m n h' → wpAny (model PySem.Challenge.pw_il0152_01 w) A (assignInOrder ((assignEach elts env).map (·.2)) [.int i t, .int j u, .int k v]) Q E ⟨h', g, d, tk', os⟩) :
    wpAny (model PySem.Challenge.pw_il0152_01 w) A (assign (.Tuple elts kk pos) env (.ref a)) Q E ⟨h, g, d, tk, os⟩ := unpackC (.inl rfl) S B hm hh hd hu hlen hstar hq
end
end Mine
end
section
open PySem PySem.W PyProof.Rows PySem.Calls
set_option autoImplicit false
namespace Mine
section
variable {prog : Program} {w : World} {A : Around} {E : Value → Shared → Prop} {h : Heap} {g : Array GenState} {d : Drawn} {tk : Nat} {os : OsState}
variable {K : Frag} {L : LT} {h₁ : Heap} {env : Env} {gl : List (Str × Value)} {al al' : AL} {m m' n n' : LT} {x : Str} {v : Value} {pos : Pos} {a b : Addr} {P P' : OP}
theorem xThree {M : Model} {s : Shared} {rest : List Stmt} {Q : Flow → Shared → Prop} {t₁ t₂ t₃ e : PySem.Expr} {q : Pos}
    (hq : wpAny M A (eval e env) (fun v s₁ => wpAny M A (assign t₁ env v) (fun _ s₂ => wpAny M A (assign t₂ env v) (fun _ s₃ => wpAny M A (assign t₃ env v) (fun _ s₄ => wpAny M A (execs rest env) Q E s₄) E s₃) E s₂) E s₁) E s)
    (he : (assignEach [t₁, t₂, t₃] env).map (·.2) = [assign t₁ env, assign t₂ env, assign t₃ env] := by rfl)
    (hw : swappedStores [t₁, t₂, t₃] e env = pure none := by rfl) : wpAny M A (execs (.Assign [t₁, t₂, t₃] e q :: rest) env) Q E s := wpAny_execs_cons (wpAny_Assign_three hq he hw)
theorem forTup {N : Shared → Prop} {Q : Flow → Shared → Prop} {X : Value → Shared → Prop} {elts : List PySem.Expr} {x1 : Nat} {tp : Pos} {body : List Stmt} {l it : Addr} {len : Nat} (I : Nat → AL → LT → LT → Prop) (V : Nat → Value → Prop) (hVr : ∀ i x, V i x → ∃ T, x = .ref T) (hh : A.handled = none)
    (S : St K L env gl al ((it, LIterP l 0) :: m) n h) (i0 : I 0 al m n)
    (hl : ∀ i al m n h p, I i al m n → St K L env gl al (p :: m) n h → ∃ vs : List Value, h.IsList l vs.toArray ∧ vs.length = len ∧ ∀ x, vs[i]? = some x → V i x)
    (turn : ∀ i al m n h tk p E x Q', i < len → V i x → I i al m n → (∀ al m n h tk, I (i + 1) al m n → St K L env gl al (p :: m) n h → Q' .next ⟨h, g, d, tk, os⟩ ∧ Q' .cont ⟨h, g, d, tk, os⟩) → (∀ s, N s → Q' .brk s) → (∀ v s, Q (.ret v) s → Q' (.ret v) s) →
      St K L env gl al (p :: m) n h → wpAny (model prog w) A (assign (.Tuple elts x1 tp) env x) (fun _ s₂ => wpAny (model prog w) A (execs body env) Q' E s₂) E ⟨h, g, d, tk, os⟩)
    (done : ∀ al m n h tk, I len al m n → St K L env gl al m n h → N ⟨h, g, d, tk, os⟩) : codeAny (model prog w) A (.forLoop (.Tuple elts x1 tp) (.ref it) body [] env) (LoopR N Q X) ⟨h, g, d, tk, os⟩ := by
  refine codeAny_forLoop_any (LI K L env gl g d os len (fun i m => (it, LIterP l i) :: m) I) (fun k s hs => ?_) len
    ⟨0, al, m, n, h, tk, rfl, Nat.zero_le _, rfl, S, i0⟩
  obtain ⟨i, al, m, n, h, tk, rfl, h2, rfl, S, i0⟩ := hs
  obtain ⟨o, ho, hc, hd⟩ := S.get (.head _)
  obtain ⟨vs, hvs, hlen, hV⟩ := hl i al m n h _ i0 S
  by_cases hi' : i < len
  · obtain ⟨x, hx⟩ : ∃ x, vs[i]? = some x := ⟨_, List.getElem?_eq_getElem (by lia  )⟩
    refine wpAny_pyNext_list_item ⟨o, ho, hc, hd⟩ hvs (by rw [List.getElem?_toArray]; exact hx) fun h' h3 h4 => ?_
    have S' : St K L env gl al ((it, LIterP l (i + 1)) :: m) n h' := S.up .head (fun b o hb e => (h4.2 b hb).trans e) (by obtain ⟨o, a, b, c⟩ := h3; exact ⟨o, a, b, c⟩)
    obtain ⟨T, rfl⟩ := hVr _ _ (hV x hx)
    refine wpAny_letOwnedTupleGo_listiter (s := ⟨h', g, d, tk, os⟩) h3 ?_
    refine wpAny_mono (turn i al m n h' _ _ _ (.ref T) (LoopB (LI K L env gl g d os len (fun i m => (it, LIterP l i) :: m) I (len - (i + 1))) N Q) hi' (hV _ hx) i0 (fun al m n h tk i1 S => have j : LI K L env gl g d os len (fun i m => (it, LIterP l i) :: m) I (len - (i + 1)) ⟨h, g, d, tk, os⟩ := ⟨i + 1, al, m, n, h, tk, rfl, hi', rfl, S, i1⟩; ⟨j, j⟩) (fun _ x => x) (fun _ _ x => x) S') (fun _ s₂ h₂ => wpAny_mono h₂ (fun f s₃ h₃ => ?_) fun _ _ x => x) fun _ _ x => x
    have lt : len - (i + 1) < len - i := by lia  
    cases f with
    | next => exact ⟨_, lt, h₃⟩
    | cont => exact ⟨_, lt, h₃⟩
    | brk => exact h₃
    | ret v => exact h₃
  · refine wpAny_pyNext_list_end hh ⟨o, ho, hc, hd⟩ hvs (by rw [List.getElem?_toArray]; exact List.getElem?_eq_none (by lia  )) fun h' hx => ?_
    have e : i = len := by lia  
    subst e
    exact wpAny_execs_nil (done _ _ _ _ _ i0 (S.end hx))
theorem St.isLV {vs : List Value} (S : St K L env gl al m n h) (hm : (a, ListP vs) ∈ m ++ (n ++ L)) : ∃ vs : List Value, h.IsList a vs.toArray := ⟨vs, S.isList hm⟩
end
end Mine
end
section
open PySem
set_option autoImplicit false
namespace Mine
section
variable {a b : List Int} {alo ahi blo bhi : Int}
def Ends (a b : List Int) (alo ahi blo bhi i j k : Int) : Prop := Blk a b alo ahi blo bhi (i - k + 1) (j - k + 1) k ∧ ∀ k', Blk a b alo ahi blo bhi (i - k' + 1) (j - k' + 1) k' → k' ≤ k
theorem Ends.zero {i j : Int} (h1 : alo ≤ i + 1) (h2 : i + 1 ≤ ahi) (h3 : blo ≤ j + 1) (h4 : j + 1 ≤ bhi) (h : i + 1 = alo ∨ j + 1 = blo) : Ends a b alo ahi blo bhi i j 0 := by
  refine ⟨⟨by lia  , by lia  , by lia  , by lia  , by lia  , fun t _ _ => by lia  ⟩, fun k' x => ?_⟩
  obtain ⟨b1, b2, b3, b4, b5, _⟩ := x
  lia  
theorem Ends.eq {i j k : Int} (x : Ends a b alo ahi blo bhi (i - 1) (j - 1) k) (h2 : i < ahi) (h4 : j < bhi) (e : a[i.toNat]? = b[j.toNat]?) : Ends a b alo ahi blo bhi i j (k + 1) := by
  obtain ⟨⟨b1, b2, b3, b4, b5, b6⟩, hm⟩ := x
  refine ⟨⟨by lia  , by lia  , by lia  , by lia  , by lia  , fun t t0 t1 => ?_⟩, fun k' y => ?_⟩
  · by_cases q : t < k
    · have := b6 t t0 q
      rw [show i - (k + 1) + 1 + t = i - 1 - k + 1 + t by lia  , show j - (k + 1) + 1 + t = j - 1 - k + 1 + t by lia  ]
      exact this
    · have : t = k := by lia  
      subst this
      rw [show i - (t + 1) + 1 + t = i by lia  , show j - (t + 1) + 1 + t = j by lia  ]
      exact e
  · obtain ⟨c1, c2, c3, c4, c5, c6⟩ := y
    by_cases q : k' ≤ 0
    · lia  
    · have := hm (k' - 1) ⟨by lia  , by lia  , by lia  , by lia  , by lia  , fun t t0 t1 => by
        have := c6 t t0 (by lia  )
        rw [show i - 1 - (k' - 1) + 1 + t = i - k' + 1 + t by lia  , show j - 1 - (k' - 1) + 1 + t = j - k' + 1 + t by lia  ]
        exact this⟩
      lia  
theorem noBlk {i j k' : Int} (e : a[i.toNat]? ≠ b[j.toNat]?) (y : Blk a b alo ahi blo bhi (i - k' + 1) (j - k' + 1) k') : k' ≤ 0 := by
  obtain ⟨c1, c2, c3, c4, c5, c6⟩ := y
  by_cases q : k' ≤ 0
  · exact q
  · have := c6 (k' - 1) (by lia  ) (by lia  )
    rw [show i - k' + 1 + (k' - 1) = i by lia  , show j - k' + 1 + (k' - 1) = j by lia  ] at this
    exact absurd this e
theorem Ends.ne {i j : Int} (h1 : alo ≤ i) (h2 : i < ahi) (h3 : blo ≤ j) (h4 : j < bhi) (e : a[i.toNat]? ≠ b[j.toNat]?) : Ends a b alo ahi blo bhi i j 0 :=
  ⟨⟨by lia  , by lia  , by lia  , by lia  , by lia  , fun t _ _ => by lia  ⟩, fun k' y => noBlk e y⟩
theorem Ends.pos {i j k : Int} (x : Ends a b alo ahi blo bhi i j k) : 0 ≤ k := x.1.2.2.2.2.1
def SofE (a b : List Int) (alo ahi blo bhi p q i j k : Int) : Prop :=
  (k = 0 → i = alo ∧ j = blo) ∧ Blk a b alo ahi blo bhi i j k ∧ (0 < k → i + k - 1 < p ∨ (i + k - 1 = p ∧ j + k - 1 < q)) ∧
  ∀ i' j' k', Blk a b alo ahi blo bhi i' j' k' → 0 < k' → (i' + k' - 1 < p ∨ (i' + k' - 1 = p ∧ j' + k' - 1 < q)) → k' ≤ k ∧ (k' = k → i < i' ∨ (i = i' ∧ j ≤ j'))
theorem SofE.start (h1 : alo ≤ ahi) (h2 : blo ≤ bhi) : SofE a b alo ahi blo bhi alo blo alo blo 0 :=
  ⟨fun _ => ⟨rfl, rfl⟩, ⟨by lia  , by lia  , by lia  , by lia  , by lia  , fun t _ _ => by lia  ⟩, fun h => by lia  , fun i' j' k' B hk hp => by obtain ⟨b1, b2, b3, b4, b5, _⟩ := B; lia  ⟩
theorem SofE.row {p i j k : Int} (x : SofE a b alo ahi blo bhi p bhi i j k) : SofE a b alo ahi blo bhi (p + 1) blo i j k := by
  refine ⟨x.1, x.2.1, fun h => by have := x.2.2.1 h; lia  , fun i' j' k' B hk hp => ?_⟩
  obtain ⟨b1, b2, b3, b4, b5, b6⟩ := id B
  exact x.2.2.2 i' j' k' B hk (by lia  )
theorem SofE.best {i j k : Int} (x : SofE a b alo ahi blo bhi ahi blo i j k) : Best a b alo ahi blo bhi i j k := by
  refine ⟨x.1, x.2.1, fun i' j' k' B => ?_⟩
  obtain ⟨b1, b2, b3, b4, b5, b6⟩ := id B
  have p0 := x.2.1.2.2.2.2.1
  by_cases q : 0 < k'
  · have := x.2.2.2 i' j' k' B q (by lia  )
    exact ⟨this.1, fun e _ => this.2 e⟩
  · exact ⟨by lia  , fun e h0 => by lia  ⟩
theorem SofE.take {p q i j k r : Int} (x : SofE a b alo ahi blo bhi p q i j k) (hr : Ends a b alo ahi blo bhi p q r) (hk : k < r) : SofE a b alo ahi blo bhi p (q + 1) (p - r + 1) (q - r + 1) r := by
  have p0 := x.2.1.2.2.2.2.1
  refine ⟨fun e => by lia  , hr.1, fun _ => by lia  , fun i' j' k' B h0 hp => ?_⟩
  by_cases e : i' + k' - 1 < p ∨ (i' + k' - 1 = p ∧ j' + k' - 1 < q)
  · have := x.2.2.2 i' j' k' B h0 e
    lia  
  · have e1 : i' = p - k' + 1 := by lia  
    have e2 : j' = q - k' + 1 := by lia  
    subst e1; subst e2
    exact ⟨hr.2 _ B, fun _ => by lia  ⟩
theorem SofE.leave {p q i j k r : Int} (x : SofE a b alo ahi blo bhi p q i j k) (hr : Ends a b alo ahi blo bhi p q r) (hk : r ≤ k) : SofE a b alo ahi blo bhi p (q + 1) i j k := by
  refine ⟨x.1, x.2.1, fun h => by have := x.2.2.1 h; lia  , fun i' j' k' B h0 hp => ?_⟩
  by_cases e : i' + k' - 1 < p ∨ (i' + k' - 1 = p ∧ j' + k' - 1 < q)
  · exact x.2.2.2 i' j' k' B h0 e
  · have e1 : i' = p - k' + 1 := by lia  
    have e2 : j' = q - k' + 1 := by lia  
    subst e1; subst e2
    have := hr.2 _ B
    exact ⟨by lia  , fun e => by have := x.2.2.1 (by lia  ); lia  ⟩
theorem SofE.jump {p q q' i j k : Int} (x : SofE a b alo ahi blo bhi p q i j k) (hq : q ≤ q') (hn : ∀ c, q ≤ c → c < q' → a[p.toNat]? ≠ b[c.toNat]?) : SofE a b alo ahi blo bhi p q' i j k := by
  refine ⟨x.1, x.2.1, fun h => by have := x.2.2.1 h; lia  , fun i' j' k' B h0 hp => ?_⟩
  by_cases e : i' + k' - 1 < p ∨ (i' + k' - 1 = p ∧ j' + k' - 1 < q)
  · exact x.2.2.2 i' j' k' B h0 e
  · exfalso
    have e1 : i' = p - k' + 1 := by lia  
    have e2 : j' = (j' + k' - 1) - k' + 1 := by lia  
    have := hn (j' + k' - 1) (by lia  ) (by lia  )
    rw [e1, e2] at B
    have := noBlk this B
    lia  
def RowT (a b : List Int) (alo ahi blo bhi p : Int) (f : Int → Option Value) : Prop := ∀ j, blo - 1 ≤ j → j < bhi → ∃ k, Ends a b alo ahi blo bhi (p - 1) j k ∧ ((k = 0 ∧ f j = none) ∨ ∃ t, f j = some (.int k t))
theorem RowT.start (h0 : alo ≤ ahi) : RowT a b alo ahi blo bhi alo (fun _ => none) := fun j h1 h2 => ⟨0, Ends.zero (by lia  ) (by lia  ) (by lia  ) (by lia  ) (.inl (by lia  )), .inl ⟨rfl, rfl⟩⟩
def RowM (a b : List Int) (alo ahi blo bhi p q : Int) (f : Int → Option Value) : Prop :=
  (∀ j, j < blo → f j = none) ∧ (∀ j, q ≤ j → f j = none) ∧ ∀ j, blo ≤ j → j < q → ∃ k, Ends a b alo ahi blo bhi p j k ∧ ((k = 0 ∧ f j = none) ∨ ∃ t, f j = some (.int k t))
theorem RowM.start {p : Int} : RowM a b alo ahi blo bhi p blo (fun _ => none) := ⟨fun _ _ => rfl, fun _ _ => rfl, fun j h1 h2 => by lia  ⟩
theorem RowM.jump {p q q' : Int} {f : Int → Option Value} (x : RowM a b alo ahi blo bhi p q f) (h1 : alo ≤ p) (h2 : p < ahi) (hb : q' ≤ bhi) (hq : q ≤ q') (hn : ∀ c, q ≤ c → c < q' → a[p.toNat]? ≠ b[c.toNat]?) : RowM a b alo ahi blo bhi p q' f := by
  refine ⟨x.1, fun j hj => x.2.1 j (by lia  ), fun j h3 h4 => ?_⟩
  by_cases e : j < q
  · exact x.2.2 j h3 e
  · exact ⟨0, Ends.ne h1 h2 h3 (by lia  ) (hn j (by lia  ) h4), .inl ⟨rfl, x.2.1 j (by lia  )⟩⟩
theorem RowM.put {p q r : Int} {t : Tok} {f f' : Int → Option Value} (x : RowM a b alo ahi blo bhi p q f) (hr : Ends a b alo ahi blo bhi p q r) (hq : blo ≤ q) (hf : ∀ j, f' j = if j = q then some (.int r t) else f j) : RowM a b alo ahi blo bhi p (q + 1) f' := by
  refine ⟨fun j hj => ?_, fun j hj => ?_, fun j h3 h4 => ?_⟩
  · rw [hf, if_neg (by lia  )]; exact x.1 j hj
  · rw [hf, if_neg (by lia  )]; exact x.2.1 j (by lia  )
  · by_cases e : j = q
    · subst e; exact ⟨r, hr, .inr ⟨t, by rw [hf, if_pos rfl]⟩⟩
    · rw [hf, if_neg e]; exact x.2.2 j h3 (by lia  )
theorem RowM.done {p : Int} {f : Int → Option Value} (x : RowM a b alo ahi blo bhi p bhi f) (h1 : alo ≤ p) (h2 : p < ahi) : RowT a b alo ahi blo bhi (p + 1) f := by
  intro j h3 h4
  rw [show p + 1 - 1 = p by lia  ]
  by_cases e : j = blo - 1
  · exact ⟨0, Ends.zero (by lia  ) (by lia  ) (by lia  ) (by lia  ) (.inr (by lia  )), .inl ⟨rfl, x.1 j (by lia  )⟩⟩
  · exact x.2.2 j (by lia  ) h4
def Cut (l : List Int) (r : Nat) (blo q : Int) : Prop := (∀ j ∈ l.take r, j < q) ∧ ∀ j ∈ l.drop r, blo ≤ j → q ≤ j
theorem Cut.start (l : List Int) (blo : Int) : Cut l 0 blo blo := ⟨fun j hj => by simp at hj, fun j _ h => h⟩
theorem drop_at {l : List Int} {r : Nat} {x : Int} (h : l[r]? = some x) : l.drop r = x :: l.drop (r + 1) := by
  obtain ⟨hr, e⟩ := List.getElem?_eq_some_iff.mp h
  rw [List.drop_eq_getElem_cons hr, e]
theorem take_at {l : List Int} {r : Nat} {x : Int} (h : l[r]? = some x) : l.take (r + 1) = l.take r ++ [x] := by rw [List.take_add_one, h]; rfl
theorem Cut.skip {l : List Int} {r : Nat} {q x : Int} (c : Cut l r blo q) (h : l[r]? = some x) (hx : x < q) : Cut l (r + 1) blo q := by
  refine ⟨fun j hj => ?_, fun j hj h => c.2 j (by rw [drop_at ‹_›]; exact .tail _ hj) h⟩
  rw [take_at ‹_›, List.mem_append, List.mem_singleton] at hj
  rcases hj with hj | rfl
  · exact c.1 j hj
  · exact hx
theorem Cut.step {l : List Int} {r : Nat} {q x : Int} (c : Cut l r blo q) (hs : l.Pairwise (· < ·)) (h : l[r]? = some x) : Cut l (r + 1) blo (x + 1) := by
  have e : l = l.take r ++ (x :: l.drop (r + 1)) := by rw [← drop_at h, List.take_append_drop]
  rw [e, List.pairwise_append] at hs
  obtain ⟨_, h2, h3⟩ := hs
  rw [List.pairwise_cons] at h2
  refine ⟨fun j hj => ?_, fun j hj _ => by have := h2.1 j hj; lia  ⟩
  rw [take_at h, List.mem_append, List.mem_singleton] at hj
  rcases hj with hj | rfl
  · have := h3 j hj x (.head _); lia  
  · lia  
theorem Cut.free {l : List Int} {r : Nat} {q x : Int} (c : Cut l r blo q) (hs : l.Pairwise (· < ·)) (h : l[r]? = some x) : ∀ c, q ≤ c → c < x → c ∉ l := by
  intro z h1 h2 hz
  have e : l = l.take r ++ (x :: l.drop (r + 1)) := by rw [← drop_at h, List.take_append_drop]
  rw [e, List.pairwise_append] at hs
  obtain ⟨_, h3, _⟩ := hs
  rw [List.pairwise_cons] at h3
  rw [e, List.mem_append, List.mem_cons] at hz
  rcases hz with hz | rfl | hz
  · have := c.1 z hz; lia  
  · lia  
  · have := h3.1 z hz; lia  
theorem Cut.end {l : List Int} {q : Int} (c : Cut l l.length blo q) : ∀ c, q ≤ c → c ∉ l := fun z h1 hz => by
  have := c.1 z (by rw [List.take_length]; exact hz); lia  
theorem ne_of_notin {ys : List Int} {y c p : Int} (hy : a[p.toNat]? = some y) (h0 : 0 ≤ c) (hb : c.toNat < ys.length) (h : c ∉ idxs ys y ys.length) : a[p.toNat]? ≠ ys[c.toNat]? := fun e =>
  h (mem_idxs.mpr ⟨h0, hb, by rw [← e, hy]⟩)
theorem Best.front {i j k : Int} (x : Best a b alo ahi blo bhi i j k) (h1 : alo < i) (h2 : blo < j) : a[(i - 1).toNat]? ≠ b[(j - 1).toNat]? := fun e => by
  obtain ⟨_, ⟨b1, b2, b3, b4, b5, b6⟩, hm⟩ := x
  have := (hm (i - 1) (j - 1) (k + 1) ⟨by lia  , by lia  , by lia  , by lia  , by lia  , fun t t0 t1 => by
    by_cases q : t = 0
    · subst q; simpa using e
    · have := b6 (t - 1) (by lia  ) (by lia  )
      rw [show i - 1 + t = i + (t - 1) by lia  , show j - 1 + t = j + (t - 1) by lia  ]; exact this⟩).1
  lia  
theorem Best.back {i j k : Int} (x : Best a b alo ahi blo bhi i j k) (h1 : i + k < ahi) (h2 : j + k < bhi) : a[(i + k).toNat]? ≠ b[(j + k).toNat]? := fun e => by
  obtain ⟨_, B, hm⟩ := x
  have := (hm i j (k + 1) (B.more h1 h2 e)).1
  lia  
end
end Mine
end
section
open PySem
set_option autoImplicit false
namespace Mine
section
variable {a b : List Int}
theorem Kept.empty {alo ahi blo bhi : Int} (h1 : alo ≤ ahi) (h2 : blo ≤ bhi) (h : alo = ahi ∨ blo = bhi) : Kept a b alo ahi blo bhi [] := by
  refine .nil (i := alo) (j := blo) ⟨fun _ => ⟨rfl, rfl⟩, ⟨by lia  , by lia  , by lia  , by lia  , by lia  , fun t _ _ => by lia  ⟩, fun i' j' k' B => ?_⟩
  obtain ⟨b1, b2, b3, b4, b5, b6⟩ := B
  exact ⟨by lia  , fun _ _ => by lia  ⟩
theorem Kept.mem {alo ahi blo bhi : Int} {l : List T3} (x : Kept a b alo ahi blo bhi l) : ∀ p ∈ l, Blk a b alo ahi blo bhi p.1 p.2.1 p.2.2 ∧ 0 < p.2.2 := by
  induction x with
  | nil h => intro p hp; cases hp
  | @node alo ahi blo bhi i j k l r h hk _ _ ih1 ih2 =>
    obtain ⟨b1, b2, b3, b4, b5, b6⟩ := h.2.1
    intro p hp
    rcases List.mem_append.mp hp with hp | hp
    · obtain ⟨⟨c1, c2, c3, c4, c5, c6⟩, c7⟩ := ih1 p hp
      exact ⟨⟨c1, by lia  , c3, by lia  , c5, c6⟩, c7⟩
    · rcases List.mem_cons.mp hp with rfl | hp
      · exact ⟨h.2.1, hk⟩
      · obtain ⟨⟨c1, c2, c3, c4, c5, c6⟩, c7⟩ := ih2 p hp
        exact ⟨⟨by lia  , c2, by lia  , c4, c5, c6⟩, c7⟩
def Ahead (p q : T3) : Prop := p.1 + p.2.2 ≤ q.1 ∧ p.2.1 + p.2.2 ≤ q.2.1 ∧ ¬ (p.1 + p.2.2 = q.1 ∧ p.2.1 + p.2.2 = q.2.1)
theorem Kept.order {alo ahi blo bhi : Int} {l : List T3} (x : Kept a b alo ahi blo bhi l) : l.Pairwise Ahead := by
  induction x with
  | nil h => exact .nil
  | @node alo ahi blo bhi i j k l r h hk x1 x2 ih1 ih2 =>
    obtain ⟨b1, b2, b3, b4, b5, b6⟩ := id h.2.1
    rw [List.pairwise_append]
    refine ⟨ih1, ?_, ?_⟩
    · rw [List.pairwise_cons]
      refine ⟨fun q hq => ?_, ih2⟩
      obtain ⟨⟨c1, c2, c3, c4, c5, c6⟩, c7⟩ := x2.mem q hq
      refine ⟨c1, c3, fun e => ?_⟩
      have := (h.2.2 i j (k + q.2.2) ⟨by lia  , by show i + (k + q.2.2) ≤ ahi; have := e.1; dsimp only at this; lia  , by lia  , by have := e.2; dsimp only at this; lia  , by lia  , fun t t0 t1 => by
        by_cases z : t < k
        · exact b6 t t0 z
        · have := c6 (t - k) (by lia  ) (by lia  )
          rw [← e.1, ← e.2] at this
          dsimp only at this
          rw [show i + t = i + k + (t - k) by lia  , show j + t = j + k + (t - k) by lia  ]; exact this⟩).1
      lia  
    · intro p hp q hq
      obtain ⟨⟨c1, c2, c3, c4, c5, c6⟩, c7⟩ := x1.mem p hp
      rcases List.mem_cons.mp hq with rfl | hq
      · refine ⟨c2, c4, fun e => ?_⟩
        have := (h.2.2 p.1 p.2.1 (p.2.2 + k) ⟨by lia  , by have := e.1; dsimp only at this; lia  , by lia  , by have := e.2; dsimp only at this; lia  , by lia  , fun t t0 t1 => by
          by_cases z : t < p.2.2
          · exact c6 t t0 z
          · have := b6 (t - p.2.2) (by lia  ) (by lia  )
            have e1 := e.1
            have e2 := e.2
            dsimp only at e1 e2
            rw [show p.1 + t = i + (t - p.2.2) by lia  , show p.2.1 + t = j + (t - p.2.2) by lia  ]; exact this⟩).1
        lia  
      · obtain ⟨⟨d1, d2, d3, d4, d5, d6⟩, d7⟩ := x2.mem q hq
        exact ⟨by lia  , by lia  , fun e => by lia  ⟩
theorem Kept.rows {alo ahi blo bhi : Int} {l : List T3} (x : Kept a b alo ahi blo bhi l) : l.Pairwise (fun p q => p.1 < q.1) := by
  have hm := x.mem
  refine x.order.imp_of_mem fun {p q} hp hq h => ?_
  have := (hm p hp).2
  have := h.1
  lia  
theorem rows_uniq : ∀ {l l' : List T3}, l.Perm l' → l.Pairwise (fun p q => p.1 < q.1) → l'.Pairwise (fun p q => p.1 < q.1) → l = l'
  | [], l', hp, _, _ => by rw [List.nil_perm.mp hp]
  | p :: l, l', hp, h1, h2 => by
    match l', hp, h2 with
    | [], hp, _ => exact absurd hp.symm (by simp)
    | q :: l', hp, h2 =>
      rw [List.pairwise_cons] at h1 h2
      have e : p = q := by
        have m1 : p ∈ q :: l' := hp.mem_iff.mp (.head _)
        have m2 : q ∈ p :: l := hp.mem_iff.mpr (.head _)
        rcases List.mem_cons.mp m1 with e | m1
        · exact e
        · rcases List.mem_cons.mp m2 with e | m2
          · exact e.symm
          · have := h1.1 q m2; have := h2.1 p m1; lia  
      subst e
      rw [rows_uniq (List.perm_cons p |>.mp hp) h1.2 h2.2]
abbrev Q4 := Int × Int × Int × Int
inductive KeptAll (a b : List Int) : List Q4 → List (List T3) → Prop
  | nil : KeptAll a b [] []
  | cons {q : Q4} {qs l ls} : Kept a b q.1 q.2.1 q.2.2.1 q.2.2.2 l → KeptAll a b qs ls → KeptAll a b (q :: qs) (l :: ls)
theorem KeptAll.split {qs qs' : List Q4} : ∀ {ls : List (List T3)}, KeptAll a b (qs ++ qs') ls → ∃ l1 l2, ls = l1 ++ l2 ∧ KeptAll a b qs l1 ∧ KeptAll a b qs' l2 := by
  induction qs with
  | nil => intro ls h; exact ⟨[], ls, rfl, .nil, h⟩
  | cons q qs ih =>
    intro ls h
    cases h with
    | cons x y =>
      obtain ⟨l1, l2, rfl, h1, h2⟩ := ih y
      exact ⟨_ :: l1, l2, rfl, .cons x h1, h2⟩
theorem KeptAll.append {qs qs' : List Q4} {l1 l2 : List (List T3)} (x : KeptAll a b qs l1) (y : KeptAll a b qs' l2) : KeptAll a b (qs ++ qs') (l1 ++ l2) := by
  induction x with
  | nil => exact y
  | cons h _ ih => exact .cons h ih
def Whole (a b : List Int) (la lb : Int) (qs : List Q4) (ts : List T3) : Prop := ∀ ls, KeptAll a b qs ls → ∃ ks, Kept a b 0 la 0 lb ks ∧ ks.Perm (ts ++ ls.flatten)
theorem Whole.start {la lb : Int} : Whole a b la lb [(0, la, 0, lb)] [] := by
  intro ls h
  cases h with
  | cons x y =>
    cases y
    exact ⟨_, x, by simp⟩
theorem Whole.none {la lb : Int} {qs : List Q4} {ts : List T3} {alo ahi blo bhi i j : Int} (x : Whole a b la lb (qs ++ [(alo, ahi, blo, bhi)]) ts) (h : Best a b alo ahi blo bhi i j 0) : Whole a b la lb qs ts := by
  intro ls hl
  obtain ⟨ks, h1, h2⟩ := x (ls ++ [[]]) (hl.append (.cons (.nil h) .nil))
  exact ⟨ks, h1, by simpa using h2⟩
theorem Whole.some {la lb : Int} {qs r1 r2 : List Q4} {ts : List T3} {alo ahi blo bhi i j k : Int} (x : Whole a b la lb (qs ++ [(alo, ahi, blo, bhi)]) ts) (h : Best a b alo ahi blo bhi i j k) (hk : 0 < k)
    (h1 : (r1 = [(alo, i, blo, j)]) ∨ (r1 = [] ∧ (alo = i ∨ blo = j))) (h2 : (r2 = [(i + k, ahi, j + k, bhi)]) ∨ (r2 = [] ∧ (i + k = ahi ∨ j + k = bhi))) : Whole a b la lb (qs ++ (r1 ++ r2)) (ts ++ [(i, j, k)]) := by
  obtain ⟨b1, b2, b3, b4, b5, b6⟩ := id h.2.1
  intro ls hl
  obtain ⟨l1, l2, rfl, y1, y2⟩ := hl.split
  obtain ⟨m1, m2, rfl, z1, z2⟩ := y2.split
  have L1 : ∃ p, Kept a b alo i blo j p ∧ m1.flatten = p := by
    rcases h1 with rfl | ⟨rfl, e⟩
    · cases z1 with
      | cons x y => cases y; exact ⟨_, x, by simp⟩
    · cases z1
      exact ⟨[], Kept.empty (by lia  ) (by lia  ) e, rfl⟩
  have L2 : ∃ p, Kept a b (i + k) ahi (j + k) bhi p ∧ m2.flatten = p := by
    rcases h2 with rfl | ⟨rfl, e⟩
    · cases z2 with
      | cons x y => cases y; exact ⟨_, x, by simp⟩
    · cases z2
      exact ⟨[], Kept.empty (by lia  ) (by lia  ) e, rfl⟩
  obtain ⟨p1, k1, e1⟩ := L1
  obtain ⟨p2, k2, e2⟩ := L2
  obtain ⟨ks, w1, w2⟩ := x (l1 ++ [p1 ++ (i, j, k) :: p2]) (y1.append (.cons (.node h hk k1 k2) .nil))
  refine ⟨ks, w1, w2.trans ?_⟩
  simp only [List.flatten_append, List.flatten_cons, List.flatten_nil, List.append_nil, e1, e2, List.append_assoc]
  refine List.Perm.append_left _ ?_
  show (l1.flatten ++ (p1 ++ (i, j, k) :: p2)).Perm ([(i, j, k)] ++ (l1.flatten ++ (p1 ++ p2)))
  rw [← List.append_assoc, List.singleton_append]
  refine List.perm_middle.trans (.cons _ ?_)
  rw [List.append_assoc]
theorem Whole.done {la lb : Int} {ts : List T3} (x : Whole a b la lb [] ts) : ∃ ks, Kept a b 0 la 0 lb ks ∧ ks.Perm ts := by
  obtain ⟨ks, h1, h2⟩ := x [] .nil
  exact ⟨ks, h1, by simpa using h2⟩
end
end Mine
end
section
open PySem PySem.W PyProof.Rows PySem.Calls
set_option autoImplicit false
namespace Mine
abbrev glFi : List (Str × Value) := [("len", .builtin "len"), ("range", .type "range"), ("Match", .ref 266)]
def nmFi : List Str := ["self", "alo", "ahi", "blo", "bhi", "a", "b", "b2j", "isbjunk", "besti", "bestj", "bestsize", "j2len", "nothing", "i", "j2lenget", "newj2len", "j", "k"]
abbrev alFi (self alo ahi blo bhi a b b2j isbjunk besti bestj bestsize j2len nothing i j2lenget newj2len j k : Option Value) : AL :=
  [("self", self), ("alo", alo), ("ahi", ahi), ("blo", blo), ("bhi", bhi), ("a", a), ("b", b), ("b2j", b2j), ("isbjunk", isbjunk), ("besti", besti), ("bestj", bestj), ("bestsize", bestsize), ("j2len", j2len), ("nothing", nothing), ("i", i), ("j2lenget", j2lenget), ("newj2len", newj2len), ("j", j), ("k", k)]
abbrev alFj (self alo ahi blo bhi a b b2j isbjunk j2len nothing i j2lenget newj2len besti bestj bestsize j k : Option Value) : AL := alFi self alo ahi blo bhi a b b2j isbjunk besti bestj bestsize j2len nothing i j2lenget newj2len j k
inductive OkFi (xs ys : List Int) (alo ahi blo bhi : Int) (n : LT) (v : Value) : Prop
  | mk (r : Addr) (i j k : Int) (e : v = .ref r) (h1 : (r, RowP (.ref 266) [.i i, .i j, .i k]) ∈ n) (h2 : Best xs ys alo ahi blo bhi i j k)
section
variable (prog : Program) (w : World) (xs ys : List Int) (alo ahi blo bhi : Int) (ib nl bj : Addr)
inductive K8a (F : Option Value → Option Value → Option Value → Option Value → Option Value → Option Value → Option Value → Option Value → Option Value → Option Value → AL) (i : Int) (al : AL) (m n : LT) : Prop
  | mk (bi bj' bs : Int) (ti tj ts : Tok) (jl : Addr) (f : Int → Option Value) (N : Nat) (iv gv nv jv kv : Option Value) (e1 : al = F (some (.int bi ti)) (some (.int bj' tj)) (some (.int bs ts)) (some (.ref jl)) (some (.ref nl)) iv gv nv jv kv) (e2 : m = [])
      (h1 : (jl, DicP prog w N f) ∈ n) (h2 : jl ≠ 1) (h3 : N ≤ 100) (h4 : RowT xs ys alo ahi blo bhi i f) (h5 : SofE xs ys alo ahi blo bhi i blo bi bj' bs) (h6 : (nl, IntsP []) ∈ n) (h7 : (ib, BoundP "builtin_function_or_method" "set.__contains__" bj) ∈ n)
inductive K8b (F : Option Value → Option Value → Option Value → Option Value → Option Value → AL) (nj jl jg lj : Addr) (p : Addr × OP) (N : Nat) (f : Int → Option Value) (i : Int) (idx : List Int) (L : LT) (r : Nat) (al : AL) (m n : LT) : Prop
  | mk (q : Int) (f2 : Int → Option Value) (bi bj' bs : Int) (ti tj ts : Tok) (jv kv : Option Value) (e1 : al = F (some (.int bi ti)) (some (.int bj' tj)) (some (.int bs ts)) jv kv) (e2 : m = [(nj, DicP prog w r f2), p])
      (h1 : Cut idx r blo q) (h2 : blo ≤ q) (h3 : q ≤ bhi) (h4 : RowM xs ys alo ahi blo bhi i q f2) (h5 : SofE xs ys alo ahi blo bhi i q bi bj' bs) (h6 : (jl, DicP prog w N f) ∈ n) (h7 : (nl, IntsP []) ∈ n) (h8 : (ib, BoundP "builtin_function_or_method" "set.__contains__" bj) ∈ n)
      (h9 : (jg, BoundP "builtin_function_or_method" "dict.get" jl) ∈ n) (h10 : (lj, IntsP idx) ∈ n ∨ (lj, IntsP idx) ∈ L)
inductive K8c (F : Option Value → Option Value → Option Value → Option Value → Option Value → AL) (nj : Addr) (p : Addr × OP) (i : Int) (al : AL) (m n : LT) : Prop
  | mk (f2 : Int → Option Value) (N2 : Nat) (bi bj' bs : Int) (ti tj ts : Tok) (jv kv : Option Value) (e1 : al = F (some (.int bi ti)) (some (.int bj' tj)) (some (.int bs ts)) jv kv) (e2 : m = [(nj, DicP prog w N2 f2), p]) (h1 : N2 ≤ 100)
      (h4 : RowM xs ys alo ahi blo bhi i bhi f2) (h5 : SofE xs ys alo ahi blo bhi i bhi bi bj' bs) (h7 : (nl, IntsP []) ∈ n) (h8 : (ib, BoundP "builtin_function_or_method" "set.__contains__" bj) ∈ n)
end
theorem find_does {w : World} {h₁ : Heap} {si dx aa ab b2j bj : Addr} {xs ys : List Int} {ats : List (Str × Value)} {alo ahi blo bhi : Int} {t1 t2 t3 t4 : Tok} {L : LT} (B : Bs (K w.params) h₁ L) (hi : (si, InsP 373 dx) ∈ L) (hdx : (dx, AtP ats) ∈ L)
    (ha : (aa, IntsP xs) ∈ L) (hb : (ab, IntsP ys) ∈ L) (a1 : Has ats "a" (.ref aa)) (a2 : Has ats "b" (.ref ab)) (a3 : Has ats "b2j" (.ref b2j)) (a4 : Has ats "bjunk" (.ref bj)) (hc : Chained PySem.Challenge.pw_il0152_01 w ys L b2j bj)
    (h1 : 0 ≤ alo) (h2 : alo ≤ ahi) (h3 : ahi ≤ xs.length) (h4 : 0 ≤ blo) (h5 : blo ≤ bhi) (h6 : bhi ≤ ys.length) (h7 : xs.length ≤ 100) (h8 : ys.length ≤ 100) :
    Does PySem.Challenge.pw_il0152_01 w L 5 (.ref 327) [.ref si, .int alo t1, .int ahi t2, .int blo t3, .int bhi t4]
      (OkFi xs ys alo ahi blo bhi) := by
  refine enter B (f := 327) (name := _) (qual := _) (params := _) (body := _) (scope := _) (dV := _) (kV := _) (doc := _) (pm := _) (cdv := _) (ct := _) (oc := _) (an := _) (od := _) (osl := _) rfl (by rfl) glFi
    (alFi (some (.ref si)) (some (.int alo t1)) (some (.int ahi t2)) (some (.int blo t3)) (some (.int bhi t4)) none none none none none none none none none none none none none none) nmFi rfl
    [("self", .ref si), ("alo", .int alo t1), ("ahi", .int ahi t2), ("blo", .int blo t3), ("bhi", .int bhi t4)] (fun s hs => BindsTo.of_defaults (T := 320) rfl (hs 320 _ (by rfl)) rfl rfl rfl) (fun L' => ?_) ?_ (by kernel_rfl!) (by lia  ) ?_
  case refine_1 => exact ⟨rfl, rfl, rfl, by rfl, by decide +kernel, ⟨rfl, .inr ⟨by rfl, by rfl, by decide +kernel⟩⟩, ⟨rfl, .inr ⟨by rfl, by rfl, by decide +kernel⟩⟩, ⟨rfl, .inl (by rfl)⟩, trivial⟩
  case refine_2 => exact hal_of (binds := [("self", .ref si), ("alo", .int alo t1), ("ahi", .int ahi t2), ("blo", .int blo t3), ("bhi", .int bhi t4)]) (ns := nmFi.drop 5) (by show (nmFi.take 5).Nodup; decide +kernel)
  intro A h g d tk os E env Q RM henv G S
  have hh := RM.hh
  obtain ⟨c1, c2, ls, c3, c4, c5⟩ := hc
  refine xExpr (by assumption) ?_
  with_reducible refine cS fun _ _ => ?_
  refine xUnpack ?_
  with_reducible refine Tuple_ ?_
  refine spC ?_
  refine Attribute_Name_ ?_
  refine St.ld (by assumption) (by with_reducible exact Mine.at0) ?_
  refine St.getA (by assumption) (by assumption) (by (with_reducible refine List.mem_append_right _ ?_; (with_reducible refine List.mem_append_right _ ?_; with_reducible assumption))) (by (with_reducible refine List.mem_append_right _ ?_; (with_reducible refine List.mem_append_right _ ?_; with_reducible assumption))) (by rfl) (by rfl) (attr := none) (by rfl) (by rfl) (by first | rfl | assumption) (by rfl) fun _ => ?_
  refine spC ?_
  refine Attribute_Name_ ?_
  refine St.ld (by assumption) (by with_reducible exact Mine.at0) ?_
  refine St.getA (by assumption) (by assumption) (by (with_reducible refine List.mem_append_right _ ?_; (with_reducible refine List.mem_append_right _ ?_; with_reducible assumption))) (by (with_reducible refine List.mem_append_right _ ?_; (with_reducible refine List.mem_append_right _ ?_; with_reducible assumption))) (by rfl) (by rfl) (attr := none) (by rfl) (by rfl) (by first | rfl | assumption) (by rfl) fun _ => ?_
  refine spC ?_
  refine Attribute_Name_ ?_
  refine St.ld (by assumption) (by with_reducible exact Mine.at0) ?_
  refine St.getA (by assumption) (by assumption) (by (with_reducible refine List.mem_append_right _ ?_; (with_reducible refine List.mem_append_right _ ?_; with_reducible assumption))) (by (with_reducible refine List.mem_append_right _ ?_; (with_reducible refine List.mem_append_right _ ?_; with_reducible assumption))) (by rfl) (by rfl) (attr := none) (by rfl) (by rfl) (by first | rfl | assumption) (by rfl) fun _ => ?_
  refine spC ?_
  refine Attribute_any_ ?_
  refine Attribute_Name_ ?_
  refine St.ld (by assumption) (by with_reducible exact Mine.at0) ?_
  refine St.getA (by assumption) (by assumption) (by (with_reducible refine List.mem_append_right _ ?_; (with_reducible refine List.mem_append_right _ ?_; with_reducible assumption))) (by (with_reducible refine List.mem_append_right _ ?_; (with_reducible refine List.mem_append_right _ ?_; with_reducible assumption))) (by rfl) (by rfl) (attr := none) (by rfl) (by rfl) (by first | rfl | assumption) (by rfl) fun _ => ?_
  refine getHas (by assumption) (by (with_reducible refine List.mem_append_right _ ?_; (with_reducible refine List.mem_append_right _ ?_; with_reducible assumption))) hh RM.d5 RM.u5 fun ib h' tk' S => ?_
  with_reducible refine spN ?_
  refine newTupS (by assumption) (TupP [.ref aa, .ref ab, .ref b2j, .ref ib]) ⟨_, rfl⟩ fun tp h' S => ?_
  refine unpackTup (by assumption) (by (with_reducible refine List.mem_append_right _ ?_; (with_reducible refine List.mem_append_left _ ?_; with_reducible exact List.mem_cons_self))) hh rfl rfl fun h' S => ?_
  refine assignInOrder_cons (assign_Name ?_)
  refine St.st (by assumption) (by with_reducible exact Mine.put5) fun _ _ _ => ?_
  refine assignInOrder_cons (assign_Name ?_)
  refine St.st (by assumption) (by with_reducible exact Mine.put6) fun _ _ _ => ?_
  refine assignInOrder_cons (assign_Name ?_)
  refine St.st (by assumption) (by with_reducible exact Mine.put7) fun _ _ _ => ?_
  refine assignInOrder_cons (assign_Name ?_)
  refine St.st (by assumption) (by with_reducible exact Mine.put8) fun _ _ _ => ?_
  refine assignInOrder_nil ?_
  refine xIf ?_
  refine wpAny_isTrue_Compare1 ?_
  refine St.ld (by assumption) (by with_reducible exact Mine.at2) ?_
  with_reducible refine wpAny_Constant_none ?_
  with_reducible refine is_int_none ?_
  with_reducible refine wpAny_truthy_bool ?_
  refine ifF ?_
  with_reducible refine appN ?_
  refine xIf ?_
  refine wpAny_isTrue_Compare1 ?_
  refine St.ld (by assumption) (by with_reducible exact Mine.at4) ?_
  with_reducible refine wpAny_Constant_none ?_
  with_reducible refine is_int_none ?_
  with_reducible refine wpAny_truthy_bool ?_
  refine ifF ?_
  with_reducible refine appN ?_
  refine xSwap ["besti", "bestj", "bestsize"] henv ?_
  refine spC ?_
  refine St.ld (by assumption) (by with_reducible exact Mine.at1) ?_
  refine spC ?_
  refine St.ld (by assumption) (by with_reducible exact Mine.at3) ?_
  refine spC ?_
  with_reducible refine cI fun _ _ => ?_
  with_reducible refine spN ?_
  refine newTupUnpack (by assumption) (by assumption) rfl fun _ _ => ?_
  refine asgN ?_
  refine St.st (by assumption) (by with_reducible exact Mine.put11) fun _ _ _ => ?_
  refine asgN ?_
  refine St.st (by assumption) (by with_reducible exact Mine.put10) fun _ _ _ => ?_
  refine asgN ?_
  refine St.st (by assumption) (by with_reducible exact Mine.put9) fun _ _ _ => ?_
  refine assignInOrder_nil ?_
  refine xAssign ?_
  refine dNew (by assumption) B fun jl h' n1 S => ?_
  refine St.st (by assumption) (by with_reducible exact Mine.put12) fun _ _ _ => ?_
  refine xAssign ?_
  with_reducible refine List_ ?_
  with_reducible refine spN ?_
  refine newLstI (by assumption) .nil fun nl h' S => ?_
  refine St.st (by assumption) (by with_reducible exact Mine.put13) fun _ _ _ => ?_
  refine xFor ?_
  refine eCallT (by assumption) (by assumption) (by with_reducible exact Mine.at1) ?_
  refine spC ?_
  refine St.ld (by assumption) (by with_reducible exact Mine.at1) ?_
  refine spC ?_
  refine St.ld (by assumption) (by with_reducible exact Mine.at2) ?_
  with_reducible refine spN ?_
  refine call_range (by assumption) fun _ _ _ _ => ?_
  refine iter_range (by assumption) (by (with_reducible refine List.mem_append_right _ ?_; (with_reducible refine List.mem_append_left _ ?_; with_reducible exact List.mem_cons_self))) (by lia  ) (by lia  ) (by lia  ) fun it1 h' S => ?_
  refine forRange (K8a PySem.Challenge.pw_il0152_01 w xs ys alo ahi blo bhi ib nl bj (alFi (some (.ref si)) (some (.int alo t1)) (some (.int ahi t2)) (some (.int blo t3)) (some (.int bhi t4)) (some (.ref aa)) (some (.ref ab)) (some (.ref b2j)) (some (.ref ib)))) hh (by lia  ) S
      ⟨alo, blo, 0, _, _, _, jl, _, 0, _, _, _, _, _, rfl, rfl, by (with_reducible refine List.mem_cons_of_mem _ ?_; (with_reducible refine List.mem_cons_of_mem _ ?_; with_reducible exact List.mem_cons_self)), n1, by lia  , RowT.start h2, SofE.start h2 h5, by (with_reducible refine List.mem_cons_of_mem _ ?_; with_reducible exact List.mem_cons_self), by (with_reducible refine List.mem_cons_of_mem _ ?_; (with_reducible refine List.mem_cons_of_mem _ ?_; (with_reducible refine List.mem_cons_of_mem _ ?_; (with_reducible refine List.mem_cons_of_mem _ ?_; with_reducible exact List.mem_cons_self))))⟩ ?_ ?_
  · rintro i al m n h tk t p E Q1 i1 i2 ⟨bi, bj', bs, ti, tj, ts, jl, f, N, iv, gv, nv, jv, kv, rfl, rfl, hjl, jl1, hN, hT, hS, hnl, hib⟩ hN1 hB1 hR1 S
    obtain ⟨y, hy⟩ : ∃ y, xs[i.toNat]? = some y := ⟨_, List.getElem?_eq_getElem (by lia  )⟩
    with_reducible refine assign_Name ?_
    refine St.st (by assumption) (by with_reducible exact Mine.put14) fun _ _ _ => ?_
    refine xAssign ?_
    refine Attribute_Name_ ?_
    refine St.ld (by assumption) (by with_reducible exact Mine.at12) ?_
    refine getGet (N := N) (f := f) (by assumption) (by (with_reducible refine List.mem_append_right _ ?_; (with_reducible refine List.mem_append_left _ ?_; with_reducible assumption))) hh RM.d5 RM.u5 fun jg h' tk' S => ?_
    refine St.st (by assumption) (by with_reducible exact Mine.put15) fun _ _ _ => ?_
    refine xAssign ?_
    refine dNew (by assumption) B fun nj h' nj1 S => ?_
    have S := S.promote
    refine St.st (by assumption) (by with_reducible exact Mine.put16) fun _ _ _ => ?_
    refine xFor ?_
    refine methT PySem.F.plainAttrs_dict PySem.F.slot_dict_get PySem.F.type_dict_get ?_
    refine St.ld (by assumption) (by with_reducible exact Mine.at7) ?_
    refine ⟨St.dicT (N := ys.length) (f := bf ls) (by assumption) (by (with_reducible refine List.mem_append_right _ ?_; (with_reducible refine List.mem_append_right _ ?_; with_reducible assumption))), ?_⟩
    refine spC ?_
    with_reducible refine Subscript_ ?_
    refine St.ld (by assumption) (by with_reducible exact Mine.at5) ?_
    refine St.ld (by assumption) (by with_reducible exact Mine.at14) ?_
    refine gIdx (xs := xs) (by assumption) (by (with_reducible refine List.mem_append_right _ ?_; (with_reducible refine List.mem_append_right _ ?_; with_reducible assumption))) (by lia  ) (by lia  ) hy fun _ => ?_
    refine spC ?_
    refine St.ld (by assumption) (by with_reducible exact Mine.at13) ?_
    with_reducible refine spN ?_
    refine Mine.getD (N := ys.length) (f := bf ls) (by assumption) c1 (by (with_reducible refine List.mem_append_right _ ?_; (with_reducible refine List.mem_append_right _ ?_; with_reducible assumption))) fun _ => ?_
    obtain ⟨lj, elj, hlj⟩ : ∃ lj, (bf ls y).getD (.ref nl) = .ref lj ∧ ((lj, IntsP (idxs ys y ys.length)) ∈ n ∨ (lj, IntsP (idxs ys y ys.length)) ∈ L) := by
      unfold bf
      cases c : ls.lookup y with
      | some l => exact ⟨l, rfl, .inr (c4 _ (lookup_mem c))⟩
      | none =>
        refine ⟨nl, rfl, .inl ?_⟩
        have : idxs ys y ys.length = [] := by
          rw [List.eq_nil_iff_forall_not_mem]
          intro j hj
          exact c5 y c (List.mem_of_getElem? (mem_idxs.mp hj).2.2)
        rw [this]; exact hnl
    rw [elj]
    have hlen := idxs_len ys y ys.length
    have hso := idxs_sorted ys y ys.length
    have hmi : ∀ {j : Int}, j ∈ idxs ys y ys.length → 0 ≤ j ∧ j < ys.length ∧ ys[j.toNat]? = some y := fun {j} hj => by have := mem_idxs.mp hj; exact ⟨this.1, by lia  , this.2.2⟩
    have hne : ∀ {c : Int}, 0 ≤ c → c < ys.length → c ∉ idxs ys y ys.length → xs[i.toNat]? ≠ ys[c.toNat]? := fun {c} x1 x2 x3 => ne_of_notin hy x1 (by lia  ) x3
    generalize idxs ys y ys.length = idx at *
    refine iter_list (by assumption) (St.isL (xs := idx) (by assumption) (hlj.elim (fun h => by (with_reducible refine List.mem_append_right _ ?_; (with_reducible refine List.mem_append_left _ ?_; (with_reducible refine List.mem_cons_of_mem _ ?_; with_reducible assumption)))) (fun h => by (with_reducible refine List.mem_append_right _ ?_; (with_reducible refine List.mem_append_right _ ?_; with_reducible assumption))))) fun it2 h' S => ?_
    refine forListJ (len := idx.length) (K8b PySem.Challenge.pw_il0152_01 w xs ys alo ahi blo bhi ib nl bj (alFj (some (.ref si)) (some (.int alo t1)) (some (.int ahi t2)) (some (.int blo t3)) (some (.int bhi t4)) (some (.ref aa)) (some (.ref ab)) (some (.ref b2j)) (some (.ref ib)) (some (.ref jl)) (some (.ref nl)) (some (.int i t)) (some (.ref jg)) (some (.ref nj))) nj jl jg lj p N f i idx L)
      (K8c PySem.Challenge.pw_il0152_01 w xs ys alo ahi blo bhi ib nl bj (alFj (some (.ref si)) (some (.int alo t1)) (some (.int ahi t2)) (some (.int blo t3)) (some (.int bhi t4)) (some (.ref aa)) (some (.ref ab)) (some (.ref b2j)) (some (.ref ib)) (some (.ref jl)) (some (.ref nl)) (some (.int i t)) (some (.ref jg)) (some (.ref nj))) nj p i)
      (IntAt idx) hh S
      ⟨blo, _, bi, bj', bs, ti, tj, ts, _, _, rfl, rfl, Cut.start idx blo, by lia  , by lia  , RowM.start, hS, by (with_reducible refine List.mem_cons_of_mem _ ?_; with_reducible assumption), by (with_reducible refine List.mem_cons_of_mem _ ?_; with_reducible assumption), by (with_reducible refine List.mem_cons_of_mem _ ?_; with_reducible assumption), by (with_reducible exact List.mem_cons_self), hlj.imp (fun h => by (with_reducible refine List.mem_cons_of_mem _ ?_; with_reducible assumption)) id⟩ ?_ ?_ ?_ ?_
    · rintro r al m n h p2 ⟨q, f2, bi, bj', bs, ti, tj, ts, jv, kv, rfl, rfl, hcut, q1, q2, hRM, hS, hjl, hnl, hib, hjg, hlj⟩ S
      obtain ⟨us, hu, hL⟩ := S.isInts (a := lj) (xs := idx) (hlj.elim (fun h => by (with_reducible refine List.mem_append_right _ ?_; (with_reducible refine List.mem_append_left _ ?_; with_reducible assumption))) (fun h => by (with_reducible refine List.mem_append_right _ ?_; (with_reducible refine List.mem_append_right _ ?_; with_reducible assumption))))
      exact ⟨us, hL, hu.length, fun x hx => ints_at2 hu hx⟩
    · rintro r al m n h tk p2 E v Q2 hr ⟨j, tj0, hj, rfl⟩ ⟨q, f2, bi, bj', bs, ti, tj, ts, jv, kv, rfl, rfl, hcut, q1, q2, hRM, hS, hjl, hnl, hib, hjg, hlj⟩ hN2 hB2 hR2 S
      have hji := hmi (List.mem_of_getElem? hj)
      with_reducible refine assign_Name ?_
      refine St.st (by assumption) (by with_reducible exact Mine.put17) fun _ _ _ => ?_
      refine xIf ?_
      with_reducible refine nCmp (by assumption) (by with_reducible exact Mine.at17) (by with_reducible exact Mine.at3) (by with_unfolding_all exact rfl) ?_
      refine ifD (fun w1 => ?_) fun w1 => ?_
      · with_reducible refine appC ?_
        with_reducible refine xCont ?_
        exact (hN2 _ _ _ _ _ ⟨q, f2, bi, bj', bs, ti, tj, ts, _, _, rfl, rfl, hcut.skip hj (by lia  ), q1, q2, hRM, hS, hjl, hnl, hib, hjg, hlj⟩ (St.weakM (a := nj) (by assumption) (by (with_reducible refine List.mem_cons_of_mem _ ?_; with_reducible exact List.mem_cons_self)) (.tail .head) (fun o hx => by obtain ⟨kvs, x, y, z⟩ := hx; exact ⟨kvs, x, Nat.le_succ_of_le y, z⟩))).2
      · with_reducible refine appN ?_
        refine xIf ?_
        with_reducible refine nCmp (by assumption) (by with_reducible exact Mine.at17) (by with_reducible exact Mine.at4) (by with_unfolding_all exact rfl) ?_
        refine ifD (fun w2 => ?_) fun w2 => ?_
        · have fr : ∀ c, q ≤ c → c < bhi → xs[i.toNat]? ≠ ys[c.toNat]? := fun c x1 x2 => hne (by lia  ) (by lia  ) (hcut.free hso hj c x1 (by lia  ))
          with_reducible refine appC ?_
          with_reducible refine xBrk ?_
          exact (hB2 _ _ _ _ _ ⟨f2, r, bi, bj', bs, ti, tj, ts, _, _, rfl, rfl, by lia  , hRM.jump i1 i2 (by lia  ) q2 fr, hS.jump q2 fr, hnl, hib⟩ (by assumption))
        · obtain ⟨k0, hE, hf⟩ := hT (j - 1) (by lia  ) (by lia  )
          have fr : ∀ c, q ≤ c → c < j → xs[i.toNat]? ≠ ys[c.toNat]? := fun c x1 x2 => hne (by lia  ) (by lia  ) (hcut.free hso hj c x1 x2)
          have hqj : q ≤ j := hcut.2 j (by rw [drop_at hj]; exact .head _) (by lia  )
          have hEj : Ends xs ys alo ahi blo bhi i j (k0 + 1) := Ends.eq hE (by lia  ) (by lia  ) (by rw [hy, hji.2.2])
          have hRM := hRM.jump i1 i2 (by lia  ) hqj fr
          have hS := hS.jump hqj fr
          with_reducible refine appN ?_
          refine xTwo ?_
          with_reducible refine wpAny_BinOp ?_
          refine eCallBound (id := "dict.get") (b := jl) (by assumption) (by (with_reducible refine List.mem_cons_of_mem _ ?_; (with_reducible refine List.mem_cons_of_mem _ ?_; (with_reducible refine List.mem_cons_of_mem _ ?_; (with_reducible refine List.mem_cons_of_mem _ ?_; (with_reducible refine List.mem_cons_of_mem _ ?_; (with_reducible refine List.mem_cons_of_mem _ ?_; (with_reducible refine List.mem_cons_of_mem _ ?_; (with_reducible refine List.mem_cons_of_mem _ ?_; (with_reducible refine List.mem_cons_of_mem _ ?_; (with_reducible refine List.mem_cons_of_mem _ ?_; (with_reducible refine List.mem_cons_of_mem _ ?_; (with_reducible refine List.mem_cons_of_mem _ ?_; (with_reducible refine List.mem_cons_of_mem _ ?_; (with_reducible refine List.mem_cons_of_mem _ ?_; (with_reducible refine List.mem_cons_of_mem _ ?_; with_reducible exact List.mem_cons_self)))))))))))))))) ?_
          refine spC ?_
          with_reducible refine wpAny_BinOp ?_
          refine St.ld (by assumption) (by with_reducible exact Mine.at17) ?_
          with_reducible refine cI fun _ _ => ?_
          with_reducible refine subI fun _ _ => ?_
          refine spC ?_
          with_reducible refine cI fun _ _ => ?_
          with_reducible refine spN ?_
          refine ⟨by obtain ⟨_, e, rfl⟩ := St.get (a := jg) (P := BoundP "builtin_function_or_method" "dict.get" jl) (by assumption) (by (with_reducible refine List.mem_append_right _ ?_; (with_reducible refine List.mem_append_left _ ?_; with_reducible assumption))); exact e, ?_⟩
          refine callGet (N := N) (f := f) (by assumption) jl1 (by (with_reducible refine List.mem_append_right _ ?_; (with_reducible refine List.mem_append_left _ ?_; with_reducible assumption))) (by (with_reducible refine List.mem_append_right _ ?_; (with_reducible refine List.mem_append_left _ ?_; with_reducible assumption))) fun _ => ?_
          obtain ⟨tv, ev⟩ : ∃ tv, ∀ t0, ∃ tv, (f (j - 1)).getD (.int 0 t0) = .int k0 tv := by
            refine ⟨0, fun t0 => ?_⟩
            rcases hf with ⟨rfl, e⟩ | ⟨t', e⟩
            · exact ⟨t0, by rw [e]; rfl⟩
            · exact ⟨t', by rw [e]; rfl⟩
          obtain ⟨tv, ev⟩ := ev _
          rw [ev]
          with_reducible refine cI fun _ _ => ?_
          with_reducible refine addI fun _ _ => ?_
          with_reducible refine assign_Name ?_
          refine St.st (by assumption) (by with_reducible exact Mine.put18) fun _ _ _ => ?_
          with_reducible refine asgSub ?_
          refine St.ld (by assumption) (by with_reducible exact Mine.at16) ?_
          refine St.ld (by assumption) (by with_reducible exact Mine.at17) ?_
          refine setD (b := nj) (N := r) (f := f2) (by assumption) (by (with_reducible refine List.mem_cons_of_mem _ ?_; with_reducible exact List.mem_cons_self)) (.tail .head) (by lia  ) fun h' tk' S => ?_
          have hRM : ∀ t, RowM xs ys alo ahi blo bhi i (j + 1) (updF f2 j (.int (k0 + 1) t)) := fun t => hRM.put (f' := updF f2 j (.int (k0 + 1) t)) hEj (by lia  ) fun c => rfl
          have hcut := hcut.step hso hj
          skip
          refine xIf ?_
          with_reducible refine nCmp (by assumption) (by with_reducible exact Mine.at18) (by with_reducible exact Mine.at11) (by with_unfolding_all exact rfl) ?_
          refine ifD (fun w3 => ?_) fun w3 => ?_
          · with_reducible refine appC ?_
            refine xSwap ["besti", "bestj", "bestsize"] henv ?_
            refine spC ?_
            with_reducible refine wpAny_BinOp ?_
            with_reducible refine wpAny_BinOp ?_
            refine St.ld (by assumption) (by with_reducible exact Mine.at14) ?_
            refine St.ld (by assumption) (by with_reducible exact Mine.at18) ?_
            with_reducible refine subI fun _ _ => ?_
            with_reducible refine cI fun _ _ => ?_
            with_reducible refine addI fun _ _ => ?_
            refine spC ?_
            with_reducible refine wpAny_BinOp ?_
            with_reducible refine wpAny_BinOp ?_
            refine St.ld (by assumption) (by with_reducible exact Mine.at17) ?_
            refine St.ld (by assumption) (by with_reducible exact Mine.at18) ?_
            with_reducible refine subI fun _ _ => ?_
            with_reducible refine cI fun _ _ => ?_
            with_reducible refine addI fun _ _ => ?_
            refine spC ?_
            refine St.ld (by assumption) (by with_reducible exact Mine.at18) ?_
            with_reducible refine spN ?_
            refine newTupUnpack (by assumption) (by assumption) rfl fun _ _ => ?_
            refine asgN ?_
            refine St.st (by assumption) (by with_reducible exact Mine.put11) fun _ _ _ => ?_
            refine asgN ?_
            refine St.st (by assumption) (by with_reducible exact Mine.put10) fun _ _ _ => ?_
            refine asgN ?_
            refine St.st (by assumption) (by with_reducible exact Mine.put9) fun _ _ _ => ?_
            refine assignInOrder_nil ?_
            with_reducible refine appN ?_
            rename_i S1
            exact xEnd (hN2 _ _ _ _ _ ⟨j + 1, _, _, _, _, _, _, _, _, _, rfl, rfl, hcut, by lia  , by lia  , hRM _, hS.take hEj w3, hjl, hnl, hib, hjg, hlj⟩ S1).1
          · with_reducible refine appN ?_
            exact xEnd (hN2 _ _ _ _ _ ⟨j + 1, _, _, _, _, _, _, _, _, _, rfl, rfl, hcut, by lia  , by lia  , hRM _, hS.leave hEj (by lia  ), hjl, hnl, hib, hjg, hlj⟩ S).1
    · rintro al m n ⟨q, f2, bi, bj', bs, ti, tj, ts, jv, kv, rfl, rfl, hcut, q1, q2, hRM, hS, hjl, hnl, hib, hjg, hlj⟩
      have fr : ∀ c, q ≤ c → c < bhi → xs[i.toNat]? ≠ ys[c.toNat]? := fun c x1 x2 => hne (by lia  ) (by lia  ) (hcut.end c x1)
      exact ⟨f2, _, bi, bj', bs, ti, tj, ts, _, _, rfl, rfl, by lia  , hRM.jump i1 i2 (by lia  ) q2 fr, hS.jump q2 fr, hnl, hib⟩
    · rintro al m n h tk ⟨f2, N2, bi, bj', bs, ti, tj, ts, jv, kv, rfl, rfl, hN2, hRM, hS, hnl, hib⟩ S
      have S := S.demote
      refine xAssign ?_
      refine St.ld (by assumption) (by with_reducible exact Mine.at16) ?_
      refine St.st (by assumption) (by with_reducible exact Mine.put12) fun _ _ _ => ?_
      rename_i S1
      exact xEnd (hN1 _ _ _ _ _ ⟨bi, bj', bs, ti, tj, ts, nj, f2, N2, _, _, _, _, _, rfl, rfl, by (with_reducible exact List.mem_cons_self), nj1, hN2, hRM.done i1 i2, hS.row, by (with_reducible refine List.mem_cons_of_mem _ ?_; with_reducible assumption), by (with_reducible refine List.mem_cons_of_mem _ ?_; with_reducible assumption)⟩ S1).1
  · rintro al m n h tk ⟨bi, bj', bs, ti, tj, ts, jl, f, N, iv, gv, nv, jv, kv, rfl, rfl, hjl, jl1, hN, hT, hS, hnl, hib⟩ S
    have hbest := hS.best
    have hbl := hbest.2.1
    obtain ⟨z1, z2, z3, z4, z5, _⟩ := hbl
    have at_ : ∀ {l : List Int} {c : Int}, 0 ≤ c → c < l.length → ∃ y, l[c.toNat]? = some y := fun {l c} x y => ⟨_, List.getElem?_eq_getElem (by lia  )⟩
    refine xWhile0 (by assumption) (fun E' N hN => ?_) fun h' tk' S => ?_
    · with_reducible refine isTrue_and ?_
      with_reducible refine nCmp (by assumption) (by with_reducible exact Mine.at9) (by with_reducible exact Mine.at1) (by with_unfolding_all exact rfl) ?_
      refine ifD (fun q1 => ?_) fun _ => ⟨rfl, hN _ _ (by assumption)⟩
      with_reducible refine isTrue_and ?_
      with_reducible refine nCmp (by assumption) (by with_reducible exact Mine.at10) (by with_reducible exact Mine.at3) (by with_unfolding_all exact rfl) ?_
      refine ifD (fun q2 => ?_) fun _ => ⟨rfl, hN _ _ (by assumption)⟩
      obtain ⟨u1, hu1⟩ := at_ (l := ys) (c := bj' - 1) (by lia  ) (by lia  )
      obtain ⟨u2, hu2⟩ := at_ (l := xs) (c := bi - 1) (by lia  ) (by lia  )
      with_reducible refine isTrue_and ?_
      with_reducible refine isTrue_not ?_
      refine isTrue_plain ?_
      refine eCallBound (id := "set.__contains__") (b := bj) (by assumption) (by (with_reducible refine List.mem_cons_of_mem _ ?_; (with_reducible refine List.mem_cons_of_mem _ ?_; (with_reducible refine List.mem_cons_of_mem _ ?_; (with_reducible refine List.mem_cons_of_mem _ ?_; (with_reducible refine List.mem_cons_of_mem _ ?_; (with_reducible refine List.mem_cons_of_mem _ ?_; (with_reducible refine List.mem_cons_of_mem _ ?_; (with_reducible refine List.mem_cons_of_mem _ ?_; with_reducible exact List.mem_cons_self))))))))) ?_
      refine spC ?_
      with_reducible refine Subscript_ ?_
      refine St.ld (by assumption) (by with_reducible exact Mine.at6) ?_
      with_reducible refine wpAny_BinOp ?_
      refine St.ld (by assumption) (by with_reducible exact Mine.at10) ?_
      with_reducible refine cI fun _ _ => ?_
      with_reducible refine subI fun _ _ => ?_
      refine gIdx (xs := ys) (by assumption) (by (with_reducible refine List.mem_append_right _ ?_; (with_reducible refine List.mem_append_right _ ?_; with_reducible assumption))) (by lia  ) (by lia  ) hu1 fun _ => ?_
      with_reducible refine spN ?_
      refine ⟨by obtain ⟨_, e, rfl⟩ := St.get (a := ib) (P := BoundP "builtin_function_or_method" "set.__contains__" bj) (by assumption) (by (with_reducible refine List.mem_append_right _ ?_; (with_reducible refine List.mem_append_left _ ?_; with_reducible assumption))); exact e, ?_⟩
      refine callHas (b := bj) (by assumption) (by (with_reducible refine List.mem_append_right _ ?_; (with_reducible refine List.mem_append_right _ ?_; with_reducible assumption))) (by (with_reducible refine List.mem_append_right _ ?_; (with_reducible refine List.mem_append_left _ ?_; with_reducible assumption))) fun _ => ?_
      with_reducible refine wpAny_truthy_bool ?_
      refine ifT ?_
      with_reducible refine isTrue_and ?_
      refine wpAny_isTrue_Compare1 ?_
      with_reducible refine Subscript_ ?_
      refine St.ld (by assumption) (by with_reducible exact Mine.at5) ?_
      with_reducible refine wpAny_BinOp ?_
      refine St.ld (by assumption) (by with_reducible exact Mine.at9) ?_
      with_reducible refine cI fun _ _ => ?_
      with_reducible refine subI fun _ _ => ?_
      refine gIdx (xs := xs) (by assumption) (by (with_reducible refine List.mem_append_right _ ?_; (with_reducible refine List.mem_append_right _ ?_; with_reducible assumption))) (by lia  ) (by lia  ) hu2 fun _ => ?_
      with_reducible refine Subscript_ ?_
      refine St.ld (by assumption) (by with_reducible exact Mine.at6) ?_
      with_reducible refine wpAny_BinOp ?_
      refine St.ld (by assumption) (by with_reducible exact Mine.at10) ?_
      with_reducible refine cI fun _ _ => ?_
      with_reducible refine subI fun _ _ => ?_
      refine gIdx (xs := ys) (by assumption) (by (with_reducible refine List.mem_append_right _ ?_; (with_reducible refine List.mem_append_right _ ?_; with_reducible assumption))) (by lia  ) (by lia  ) hu1 fun _ => ?_
      with_reducible refine tEq ?_
      refine ifE (fun q3 => ?_) fun _ => ⟨rfl, hN _ _ (by assumption)⟩
      exact absurd (by rw [hu1, hu2, q3]) (hbest.front q1 q2)
    refine xWhile0 (by assumption) (fun E' N hN => ?_) fun h' tk' S => ?_
    · with_reducible refine isTrue_and ?_
      with_reducible refine vCmp (by assumption) (by with_reducible refine EvI.add (by with_reducible exact EvI.nm (by with_reducible exact Mine.at9)) (by with_reducible exact EvI.nm (by with_reducible exact Mine.at11))) (by with_reducible exact EvI.nm (by with_reducible exact Mine.at2)) (by with_unfolding_all exact rfl) fun _ => ?_
      refine ifD (fun q1 => ?_) fun _ => ⟨rfl, hN _ _ (by assumption)⟩
      with_reducible refine isTrue_and ?_
      with_reducible refine vCmp (by assumption) (by with_reducible refine EvI.add (by with_reducible exact EvI.nm (by with_reducible exact Mine.at10)) (by with_reducible exact EvI.nm (by with_reducible exact Mine.at11))) (by with_reducible exact EvI.nm (by with_reducible exact Mine.at4)) (by with_unfolding_all exact rfl) fun _ => ?_
      refine ifD (fun q2 => ?_) fun _ => ⟨rfl, hN _ _ (by assumption)⟩
      obtain ⟨u1, hu1⟩ := at_ (l := ys) (c := bj' + bs) (by lia  ) (by lia  )
      obtain ⟨u2, hu2⟩ := at_ (l := xs) (c := bi + bs) (by lia  ) (by lia  )
      with_reducible refine isTrue_and ?_
      with_reducible refine isTrue_not ?_
      refine isTrue_plain ?_
      refine eCallBound (id := "set.__contains__") (b := bj) (by assumption) (by (with_reducible refine List.mem_cons_of_mem _ ?_; (with_reducible refine List.mem_cons_of_mem _ ?_; (with_reducible refine List.mem_cons_of_mem _ ?_; (with_reducible refine List.mem_cons_of_mem _ ?_; (with_reducible refine List.mem_cons_of_mem _ ?_; (with_reducible refine List.mem_cons_of_mem _ ?_; (with_reducible refine List.mem_cons_of_mem _ ?_; (with_reducible refine List.mem_cons_of_mem _ ?_; with_reducible exact List.mem_cons_self))))))))) ?_
      refine spC ?_
      with_reducible refine Subscript_ ?_
      refine St.ld (by assumption) (by with_reducible exact Mine.at6) ?_
      with_reducible refine wpAny_BinOp ?_
      refine St.ld (by assumption) (by with_reducible exact Mine.at10) ?_
      refine St.ld (by assumption) (by with_reducible exact Mine.at11) ?_
      with_reducible refine addI fun _ _ => ?_
      refine gIdx (xs := ys) (by assumption) (by (with_reducible refine List.mem_append_right _ ?_; (with_reducible refine List.mem_append_right _ ?_; with_reducible assumption))) (by lia  ) (by lia  ) hu1 fun _ => ?_
      with_reducible refine spN ?_
      refine ⟨by obtain ⟨_, e, rfl⟩ := St.get (a := ib) (P := BoundP "builtin_function_or_method" "set.__contains__" bj) (by assumption) (by (with_reducible refine List.mem_append_right _ ?_; (with_reducible refine List.mem_append_left _ ?_; with_reducible assumption))); exact e, ?_⟩
      refine callHas (b := bj) (by assumption) (by (with_reducible refine List.mem_append_right _ ?_; (with_reducible refine List.mem_append_right _ ?_; with_reducible assumption))) (by (with_reducible refine List.mem_append_right _ ?_; (with_reducible refine List.mem_append_left _ ?_; with_reducible assumption))) fun _ => ?_
      with_reducible refine wpAny_truthy_bool ?_
      refine ifT ?_
      with_reducible refine isTrue_and ?_
      refine wpAny_isTrue_Compare1 ?_
      with_reducible refine Subscript_ ?_
      refine St.ld (by assumption) (by with_reducible exact Mine.at5) ?_
      with_reducible refine wpAny_BinOp ?_
      refine St.ld (by assumption) (by with_reducible exact Mine.at9) ?_
      refine St.ld (by assumption) (by with_reducible exact Mine.at11) ?_
      with_reducible refine addI fun _ _ => ?_
      refine gIdx (xs := xs) (by assumption) (by (with_reducible refine List.mem_append_right _ ?_; (with_reducible refine List.mem_append_right _ ?_; with_reducible assumption))) (by lia  ) (by lia  ) hu2 fun _ => ?_
      with_reducible refine Subscript_ ?_
      refine St.ld (by assumption) (by with_reducible exact Mine.at6) ?_
      with_reducible refine wpAny_BinOp ?_
      refine St.ld (by assumption) (by with_reducible exact Mine.at10) ?_
      refine St.ld (by assumption) (by with_reducible exact Mine.at11) ?_
      with_reducible refine addI fun _ _ => ?_
      refine gIdx (xs := ys) (by assumption) (by (with_reducible refine List.mem_append_right _ ?_; (with_reducible refine List.mem_append_right _ ?_; with_reducible assumption))) (by lia  ) (by lia  ) hu1 fun _ => ?_
      with_reducible refine tEq ?_
      refine ifE (fun q3 => ?_) fun _ => ⟨rfl, hN _ _ (by assumption)⟩
      exact absurd (by rw [hu1, hu2, q3]) (hbest.back q1 q2)
    refine xWhile0 (by assumption) (fun E' N hN => ?_) fun h' tk' S => ?_
    · with_reducible refine isTrue_and ?_
      with_reducible refine nCmp (by assumption) (by with_reducible exact Mine.at9) (by with_reducible exact Mine.at1) (by with_unfolding_all exact rfl) ?_
      refine ifD (fun q1 => ?_) fun _ => ⟨rfl, hN _ _ (by assumption)⟩
      with_reducible refine isTrue_and ?_
      with_reducible refine nCmp (by assumption) (by with_reducible exact Mine.at10) (by with_reducible exact Mine.at3) (by with_unfolding_all exact rfl) ?_
      refine ifD (fun q2 => ?_) fun _ => ⟨rfl, hN _ _ (by assumption)⟩
      obtain ⟨u1, hu1⟩ := at_ (l := ys) (c := bj' - 1) (by lia  ) (by lia  )
      obtain ⟨u2, hu2⟩ := at_ (l := xs) (c := bi - 1) (by lia  ) (by lia  )
      with_reducible refine isTrue_and ?_
      refine isTrue_plain ?_
      refine eCallBound (id := "set.__contains__") (b := bj) (by assumption) (by (with_reducible refine List.mem_cons_of_mem _ ?_; (with_reducible refine List.mem_cons_of_mem _ ?_; (with_reducible refine List.mem_cons_of_mem _ ?_; (with_reducible refine List.mem_cons_of_mem _ ?_; (with_reducible refine List.mem_cons_of_mem _ ?_; (with_reducible refine List.mem_cons_of_mem _ ?_; (with_reducible refine List.mem_cons_of_mem _ ?_; (with_reducible refine List.mem_cons_of_mem _ ?_; with_reducible exact List.mem_cons_self))))))))) ?_
      refine spC ?_
      with_reducible refine Subscript_ ?_
      refine St.ld (by assumption) (by with_reducible exact Mine.at6) ?_
      with_reducible refine wpAny_BinOp ?_
      refine St.ld (by assumption) (by with_reducible exact Mine.at10) ?_
      with_reducible refine cI fun _ _ => ?_
      with_reducible refine subI fun _ _ => ?_
      refine gIdx (xs := ys) (by assumption) (by (with_reducible refine List.mem_append_right _ ?_; (with_reducible refine List.mem_append_right _ ?_; with_reducible assumption))) (by lia  ) (by lia  ) hu1 fun _ => ?_
      with_reducible refine spN ?_
      refine ⟨by obtain ⟨_, e, rfl⟩ := St.get (a := ib) (P := BoundP "builtin_function_or_method" "set.__contains__" bj) (by assumption) (by (with_reducible refine List.mem_append_right _ ?_; (with_reducible refine List.mem_append_left _ ?_; with_reducible assumption))); exact e, ?_⟩
      refine callHas (b := bj) (by assumption) (by (with_reducible refine List.mem_append_right _ ?_; (with_reducible refine List.mem_append_right _ ?_; with_reducible assumption))) (by (with_reducible refine List.mem_append_right _ ?_; (with_reducible refine List.mem_append_left _ ?_; with_reducible assumption))) fun _ => ?_
      with_reducible refine wpAny_truthy_bool ?_
      exact ifF ⟨rfl, hN _ _ (by assumption)⟩
    refine xWhile0 (by assumption) (fun E' N hN => ?_) fun h' tk' S => ?_
    · with_reducible refine isTrue_and ?_
      with_reducible refine vCmp (by assumption) (by with_reducible refine EvI.add (by with_reducible exact EvI.nm (by with_reducible exact Mine.at9)) (by with_reducible exact EvI.nm (by with_reducible exact Mine.at11))) (by with_reducible exact EvI.nm (by with_reducible exact Mine.at2)) (by with_unfolding_all exact rfl) fun _ => ?_
      refine ifD (fun q1 => ?_) fun _ => ⟨rfl, hN _ _ (by assumption)⟩
      with_reducible refine isTrue_and ?_
      with_reducible refine vCmp (by assumption) (by with_reducible refine EvI.add (by with_reducible exact EvI.nm (by with_reducible exact Mine.at10)) (by with_reducible exact EvI.nm (by with_reducible exact Mine.at11))) (by with_reducible exact EvI.nm (by with_reducible exact Mine.at4)) (by with_unfolding_all exact rfl) fun _ => ?_
      refine ifD (fun q2 => ?_) fun _ => ⟨rfl, hN _ _ (by assumption)⟩
      obtain ⟨u1, hu1⟩ := at_ (l := ys) (c := bj' + bs) (by lia  ) (by lia  )
      obtain ⟨u2, hu2⟩ := at_ (l := xs) (c := bi + bs) (by lia  ) (by lia  )
      with_reducible refine isTrue_and ?_
      refine isTrue_plain ?_
      refine eCallBound (id := "set.__contains__") (b := bj) (by assumption) (by (with_reducible refine List.mem_cons_of_mem _ ?_; (with_reducible refine List.mem_cons_of_mem _ ?_; (with_reducible refine List.mem_cons_of_mem _ ?_; (with_reducible refine List.mem_cons_of_mem _ ?_; (with_reducible refine List.mem_cons_of_mem _ ?_; (with_reducible refine List.mem_cons_of_mem _ ?_; (with_reducible refine List.mem_cons_of_mem _ ?_; (with_reducible refine List.mem_cons_of_mem _ ?_; with_reducible exact List.mem_cons_self))))))))) ?_
      refine spC ?_
      with_reducible refine Subscript_ ?_
      refine St.ld (by assumption) (by with_reducible exact Mine.at6) ?_
      with_reducible refine wpAny_BinOp ?_
      refine St.ld (by assumption) (by with_reducible exact Mine.at10) ?_
      refine St.ld (by assumption) (by with_reducible exact Mine.at11) ?_
      with_reducible refine addI fun _ _ => ?_
      refine gIdx (xs := ys) (by assumption) (by (with_reducible refine List.mem_append_right _ ?_; (with_reducible refine List.mem_append_right _ ?_; with_reducible assumption))) (by lia  ) (by lia  ) hu1 fun _ => ?_
      with_reducible refine spN ?_
      refine ⟨by obtain ⟨_, e, rfl⟩ := St.get (a := ib) (P := BoundP "builtin_function_or_method" "set.__contains__" bj) (by assumption) (by (with_reducible refine List.mem_append_right _ ?_; (with_reducible refine List.mem_append_left _ ?_; with_reducible assumption))); exact e, ?_⟩
      refine callHas (b := bj) (by assumption) (by (with_reducible refine List.mem_append_right _ ?_; (with_reducible refine List.mem_append_right _ ?_; with_reducible assumption))) (by (with_reducible refine List.mem_append_right _ ?_; (with_reducible refine List.mem_append_left _ ?_; with_reducible assumption))) fun _ => ?_
      with_reducible refine wpAny_truthy_bool ?_
      exact ifF ⟨rfl, hN _ _ (by assumption)⟩
    with_reducible refine xRet ?_
    refine eCallK (by assumption) (by assumption) (by with_reducible exact Mine.at2) (by rfl) ?_
    refine spC ?_
    refine St.ld (by assumption) (by with_reducible exact Mine.at9) ?_
    refine spC ?_
    refine St.ld (by assumption) (by with_reducible exact Mine.at10) ?_
    refine spC ?_
    refine St.ld (by assumption) (by with_reducible exact Mine.at11) ?_
    with_reducible refine spN ?_
    refine ⟨kIn (by assumption) B, ?_⟩
    refine newMatch (by assumption) (kIn (g := g) (d := d) (tk := 0) (os := os) (by assumption) B) hh RM.d5 RM.u5 fun r h' tk' S => ?_
    exact G _ _ _ _ S.fin ⟨_, _, _, _, rfl, by (with_reducible refine List.mem_cons_of_mem _ ?_; (with_reducible refine List.mem_append_right _ ?_; with_reducible exact List.mem_cons_self)), hbest⟩ _ rfl

end Mine
end
section
open PySem PySem.W PyProof.Rows PySem.Calls
set_option autoImplicit false
namespace Mine
theorem Chained.mono {prog : Program} {w : World} {ys : List Int} {n n' : LT} {b2j bj : Addr} (x : Chained prog w ys n b2j bj) (hs : ∀ p ∈ n, p ∈ n') : Chained prog w ys n' b2j bj := by
  obtain ⟨c1, c2, ls, c3, c4, c5⟩ := x
  exact ⟨c1, hs _ c2, ls, hs _ c3, fun p hp => hs _ (c4 p hp), c5⟩
abbrev glMb : List (Str × Value) := [("len", .builtin "len"), ("list", .type "list"), ("map", .type "map"), ("Match", .ref 266)]
def nmMb : List Str := ["self", "la", "lb", "queue", "matching_blocks", "alo", "ahi", "blo", "bhi", "i", "j", "k", "x", "i1", "j1", "k1", "non_adjacent", "i2", "j2", "k2"]
abbrev alMb (self la lb queue mb alo ahi blo bhi i j k x i1 j1 k1 na i2 j2 k2 : Option Value) : AL :=
  [("self", self), ("la", la), ("lb", lb), ("queue", queue), ("matching_blocks", mb), ("alo", alo), ("ahi", ahi), ("blo", blo), ("bhi", bhi), ("i", i), ("j", j), ("k", k), ("x", x), ("i1", i1), ("j1", j1), ("k1", k1), ("non_adjacent", na), ("i2", i2), ("j2", j2), ("k2", k2)]
def quad (q : Q4) : List Sc := [.i q.1, .i q.2.1, .i q.2.2.1, .i q.2.2.2]
theorem rows_snoc {c : Value} {l : LT} : ∀ {rs : List (List Sc)} {vs : List Value} {r : List Sc}, RowsIn c l vs (rs ++ [r]) → ∃ vs' a, vs = vs' ++ [.ref a] ∧ (a, RowP c r) ∈ l ∧ RowsIn c l vs' rs
  | [], _, _, .cons hm .nil => ⟨[], _, rfl, hm, .nil⟩
  | _ :: rs, _, _, .cons hm h => by
    obtain ⟨vs', a, rfl, h1, h2⟩ := rows_snoc h
    exact ⟨_ :: vs', a, rfl, h1, .cons hm h2⟩
theorem sc4 {vs : List Value} {a b c d : Int} (x : ScAre vs [.i a, .i b, .i c, .i d]) : ∃ t u w z, vs = [.int a t, .int b u, .int c w, .int d z] := by
  obtain ⟨t0, v0, rfl, x1⟩ := x.un
  obtain ⟨t1, v1, rfl, x2⟩ := x1.un
  obtain ⟨t2, v2, rfl, x3⟩ := x2.un
  obtain ⟨t3, v3, rfl, x4⟩ := x3.un
  rw [x4.un0]
  exact ⟨t0, t1, t2, t3, rfl⟩
def wgt (qs : List Q4) : Int := (qs.map fun q => q.2.1 - q.1).sum
theorem wgt_pos : ∀ {qs : List Q4}, (∀ q ∈ qs, q.1 ≤ q.2.1) → 0 ≤ wgt qs
  | [], _ => by simp [wgt]
  | q :: qs, h => by
    have := wgt_pos (qs := qs) fun x hx => h x (.tail _ hx)
    have := h q (.head _)
    simp only [wgt, List.map_cons, List.sum_cons] at *
    lia  
inductive OkMb (xs ys : List Int) (dx : Addr) (ats : List (Str × Value)) (m n : LT) (v : Value) : Prop
  | mk (r : Addr) (vs : List Value) (ks : List T3) (e1 : v = .ref r) (e2 : m = [(dx, AtP (("matching_blocks", .ref r) :: ats))]) (h1 : (r, ListP vs) ∈ n) (h2 : Kept xs ys 0 xs.length 0 ys.length ks) (h3 : RowsIn (.ref 266) n vs ((ks ++ [((xs.length : Int), (ys.length : Int), 0)]).map tri))
inductive K9a (xs ys : List Int) (si qu mb dx : Addr) (ats : List (Str × Value)) (kk : Nat) (al : AL) (m n : LT) : Prop
  | mk (qs : List Q4) (ts : List T3) (qvs tvs : List Value) (t1 t2 : Tok) (v1 v2 v3 v4 v5 v6 v7 v8 : Option Value) (e1 : al = alMb (some (.ref si)) (some (.int xs.length t1)) (some (.int ys.length t2)) (some (.ref qu)) (some (.ref mb)) v1 v2 v3 v4 v5 v6 v7 v8 none none none none none none none)
      (e2 : m = [(mb, ListP tvs), (qu, ListP qvs), (dx, AtP ats)]) (h1 : RowsIn (.type "tuple") n qvs (qs.map quad)) (h2 : RowsIn (.ref 266) n tvs (ts.map tri)) (h3 : Whole xs ys xs.length ys.length qs ts)
      (h4 : ∀ q ∈ qs, 0 ≤ q.1 ∧ q.1 ≤ q.2.1 ∧ q.2.1 ≤ xs.length ∧ 0 ≤ q.2.2.1 ∧ q.2.2.1 ≤ q.2.2.2 ∧ q.2.2.2 ≤ ys.length) (h5 : ts.length + wgt qs ≤ xs.length) (h6 : 0 ≤ wgt qs) (h7 : 2 * wgt qs + qs.length ≤ 2 * xs.length + 1) (h8 : kk = (2 * wgt qs + qs.length).toNat)
inductive K9b (xs ys : List Int) (si qu mb dx : Addr) (ats : List (Str × Value)) (al : AL) (m n : LT) : Prop
  | mk (ts : List T3) (tvs : List Value) (t1 t2 : Tok) (v1 v2 v3 v4 v5 v6 v7 v8 : Option Value) (e1 : al = alMb (some (.ref si)) (some (.int xs.length t1)) (some (.int ys.length t2)) (some (.ref qu)) (some (.ref mb)) v1 v2 v3 v4 v5 v6 v7 v8 none none none none none none none)
      (e2 : m = [(mb, ListP tvs), (qu, ListP []), (dx, AtP ats)]) (h2 : RowsIn (.ref 266) n tvs (ts.map tri)) (h3 : Whole xs ys xs.length ys.length [] ts)
inductive K9c (A0 : AL) (N : LT) (M : List Value → LT) (X : List Q4 → Prop) (al : AL) (m n2 : LT) : Prop
  | mk (e1 : al = A0) (hs : ∀ p ∈ N, p ∈ n2) (r1 : List Q4) (qv1 : List Value) (e2 : m = M qv1) (h1 : RowsIn (.type "tuple") n2 qv1 (r1.map quad)) (h2 : X r1)
inductive K9d (F : Option Value → Option Value → Option Value → Option Value → Option Value → Option Value → Option Value → AL) (na : Addr) (N M : LT) (ts : List T3) (r : Nat) (al : AL) (m n' : LT) : Prop
  | mk (navs : List Value) (c1 c2 c3 : Int) (w1 w2 w3 : Tok) (x1 x2 x3 : Option Value) (e1 : al = F (some (.int c1 w1)) (some (.int c2 w2)) (some (.int c3 w3)) (some (.ref na)) x1 x2 x3) (e2 : m = (na, ListP navs) :: M) (hs : ∀ p ∈ N, p ∈ n')
      (h1 : RowsIn (.type "tuple") n' navs ((ts.take (r - 1)).map tri)) (h2 : r = 0 → c1 = 0 ∧ c2 = 0 ∧ c3 = 0) (h3 : 0 < r → ts[r - 1]? = some (c1, c2, c3))
inductive K9v (N : LT) (ts : List T3) (r : Nat) (v : Value) : Prop
  | mk (a : Addr) (p : T3) (h : ts[r]? = some p) (e : v = .ref a) (hm : (a, RowP (.ref 266) (tri p)) ∈ N)
inductive K9e (A0 : AL) (na : Addr) (N M : LT) (ts : List T3) (al : AL) (m n2 : LT) : Prop
  | mk (e1 : al = A0) (nv : List Value) (e2 : m = (na, ListP nv) :: M) (hs : ∀ p ∈ N, p ∈ n2) (h : RowsIn (.type "tuple") n2 nv (ts.map tri))

theorem blocks_does {w : World} {h₁ : Heap} {si dx aa ab b2j bj : Addr} {xs ys : List Int} {ats : List (Str × Value)} {L : LT} (B : Bs (K w.params) h₁ L) (hi : (si, InsP 373 dx) ∈ L)
    (ha : (aa, IntsP xs) ∈ L) (hb : (ab, IntsP ys) ∈ L) (a0 : Has ats "matching_blocks" .none) (a1 : Has ats "a" (.ref aa)) (a2 : Has ats "b" (.ref ab)) (a3 : Has ats "b2j" (.ref b2j)) (a4 : Has ats "bjunk" (.ref bj)) (a5 : HasN ats "find_longest_match") (hc : Chained PySem.Challenge.pw_il0152_01 w ys L b2j bj)
    (hl : ats.length ≤ 100) (h7 : xs.length ≤ 60) (h8 : ys.length ≤ 100) :
    DoesM PySem.Challenge.pw_il0152_01 w [(dx, AtP ats)] L 110 (fun _ => True) (.ref 334) [.ref si]
      (OkMb xs ys dx ats) := by
  refine enterM B (f := 334) (name := _) (qual := _) (params := _) (body := _) (scope := _) (dV := _) (kV := _) (doc := _) (pm := _) (cdv := _) (ct := _) (oc := _) (an := _) (od := _) (osl := _) rfl (by rfl) glMb
    (alMb (some (.ref si)) none none none none none none none none none none none none none none none none none none none) nmMb rfl
    [("self", .ref si)] (fun s _ => BindsTo.of_eq rfl) (fun L' => ?_) ?_ (by kernel_rfl!) (by lia  ) ?_
  case refine_1 => exact ⟨rfl, rfl, rfl, by rfl, by decide +kernel, ⟨rfl, .inr ⟨by rfl, by rfl, by decide +kernel⟩⟩, ⟨rfl, .inr ⟨by rfl, by rfl, by decide +kernel⟩⟩, ⟨rfl, .inr ⟨by rfl, by rfl, by decide +kernel⟩⟩, ⟨rfl, .inl (by rfl)⟩, trivial⟩
  case refine_2 => exact hal_of (binds := [("self", .ref si)]) (ns := nmMb.drop 1) (by show (nmMb.take 1).Nodup; decide +kernel)
  rintro A h g d tk os E env Q RM henv hff ⟨outer, hA, hF⟩ G G0 S
  have hh := RM.hh
  refine xExpr (by assumption) ?_
  with_reducible refine cS fun _ _ => ?_
  refine xIf ?_
  refine wpAny_isTrue_Compare1 ?_
  refine Attribute_Name_ ?_
  refine St.ld (by assumption) (by with_reducible exact Mine.at0) ?_
  refine St.getA (by assumption) (by assumption) (by (with_reducible refine List.mem_append_right _ ?_; (with_reducible refine List.mem_append_right _ ?_; with_reducible assumption))) (by (with_reducible refine List.mem_append_left _ ?_; with_reducible exact List.mem_cons_self)) (by rfl) (by rfl) (attr := none) (by rfl) (by rfl) (by first | rfl | assumption) (by rfl) fun _ => ?_
  with_reducible refine wpAny_Constant_none ?_
  with_reducible refine isNot_none_none ?_
  with_reducible refine wpAny_truthy_bool ?_
  refine ifF ?_
  with_reducible refine appN ?_
  refine xSwap ["la", "lb"] henv ?_
  refine spC ?_
  refine eCallB (by assumption) (by assumption) (by with_reducible exact Mine.at0) ?_
  refine spC ?_
  refine Attribute_Name_ ?_
  refine St.ld (by assumption) (by with_reducible exact Mine.at0) ?_
  refine St.getA (by assumption) (by assumption) (by (with_reducible refine List.mem_append_right _ ?_; (with_reducible refine List.mem_append_right _ ?_; with_reducible assumption))) (by (with_reducible refine List.mem_append_left _ ?_; with_reducible exact List.mem_cons_self)) (by rfl) (by rfl) (attr := none) (by rfl) (by rfl) (by first | rfl | assumption) (by rfl) fun _ => ?_
  with_reducible refine spN ?_
  refine lenI (xs := xs) (by assumption) (by (with_reducible refine List.mem_append_right _ ?_; (with_reducible refine List.mem_append_right _ ?_; with_reducible assumption))) (by lia  ) fun _ _ => ?_
  refine spC ?_
  refine eCallB (by assumption) (by assumption) (by with_reducible exact Mine.at0) ?_
  refine spC ?_
  refine Attribute_Name_ ?_
  refine St.ld (by assumption) (by with_reducible exact Mine.at0) ?_
  refine St.getA (by assumption) (by assumption) (by (with_reducible refine List.mem_append_right _ ?_; (with_reducible refine List.mem_append_right _ ?_; with_reducible assumption))) (by (with_reducible refine List.mem_append_left _ ?_; with_reducible exact List.mem_cons_self)) (by rfl) (by rfl) (attr := none) (by rfl) (by rfl) (by first | rfl | assumption) (by rfl) fun _ => ?_
  with_reducible refine spN ?_
  refine lenI (xs := ys) (by assumption) (by (with_reducible refine List.mem_append_right _ ?_; (with_reducible refine List.mem_append_right _ ?_; with_reducible assumption))) (by lia  ) fun _ _ => ?_
  with_reducible refine spN ?_
  refine newTupUnpack (by assumption) (by assumption) rfl fun _ _ => ?_
  refine asgN ?_
  refine St.st (by assumption) (by with_reducible exact Mine.put2) fun _ _ _ => ?_
  refine asgN ?_
  refine St.st (by assumption) (by with_reducible exact Mine.put1) fun _ _ _ => ?_
  refine assignInOrder_nil ?_
  refine xAssign ?_
  with_reducible refine List_ ?_
  refine spC ?_
  with_reducible refine Tuple_ ?_
  refine spC ?_
  with_reducible refine cI fun _ _ => ?_
  refine spC ?_
  refine St.ld (by assumption) (by with_reducible exact Mine.at1) ?_
  refine spC ?_
  with_reducible refine cI fun _ _ => ?_
  refine spC ?_
  refine St.ld (by assumption) (by with_reducible exact Mine.at2) ?_
  with_reducible refine spN ?_
  refine newTupS (by assumption) (RowP (.type "tuple") (quad (0, xs.length, 0, ys.length))) ⟨_, _, .int _ _ (.int _ _ (.int _ _ (.int _ _ .nil))), rfl, rfl⟩ fun q0 h' S => ?_
  with_reducible refine spN ?_
  refine newLstS (by assumption) fun qu h' S => ?_
  have S := S.promote
  refine St.st (by assumption) (by with_reducible exact Mine.put3) fun _ _ _ => ?_
  refine xAssign ?_
  with_reducible refine List_ ?_
  with_reducible refine spN ?_
  refine newLstS (by assumption) fun mb h' S => ?_
  have S := S.promote
  refine St.st (by assumption) (by with_reducible exact Mine.put4) fun _ _ _ => ?_
  with_reducible refine xWhile ?_
  refine whileSt (K9a xs ys si qu mb dx ats)
    (K9b xs ys si qu mb dx ats) (by assumption)
    ⟨[(0, xs.length, 0, ys.length)], [], [.ref q0], [], _, _, _, _, _, _, _, _, _, _, rfl, rfl, .cons (by (with_reducible exact List.mem_cons_self)) .nil, .nil, Whole.start, ?_, ?_, ?_, ?_, rfl⟩ ?_ ?_
  · intro q hq
    rw [List.mem_singleton] at hq
    subst hq
    refine ⟨?_, ?_, ?_, ?_, ?_, ?_⟩ <;> dsimp only <;> lia  
  · simp [wgt]
  · simp [wgt]
  · simp [wgt]
  · rintro kk al m n h tk E Q1 X1 ⟨qs, ts, qvs, tvs, t1, t2, v1, v2, v3, v4, v5, v6, v7, v8, rfl, rfl, hqr, htr, hW, hbd, hw1, hw0, hw2, rfl⟩ hN1 hB1 hR1 hX1 S
    have eq1 := hqr.length
    have et1 := htr.length
    rw [List.length_map] at eq1 et1
    refine isTrue_plain ?_
    refine St.ld (by assumption) (by with_reducible exact Mine.at3) ?_
    refine truV (vs := qvs) (by assumption) (by (with_reducible refine List.mem_append_left _ ?_; (with_reducible refine List.mem_cons_of_mem _ ?_; with_reducible exact List.mem_cons_self))) (by lia  ) fun _ => ?_
    rcases List.eq_nil_or_concat qs with rfl | ⟨qs, q, rfl⟩
    · have : qvs = [] := by cases qvs with | nil => rfl | cons _ _ => simp at eq1
      subst this
      exact hX1 _ _ _ _ _ ⟨ts, tvs, t1, t2, v1, v2, v3, v4, v5, v6, v7, v8, rfl, rfl, htr, hW⟩ (by assumption)
    · rw [List.concat_eq_append] at *
      obtain ⟨ql, qh, rl, rh⟩ := q
      rw [List.map_append] at hqr
      obtain ⟨qvs, qa, rfl, hqa, hqr⟩ := rows_snoc hqr
      rw [show (!(qvs ++ [Value.ref qa]).isEmpty) = true by simp]
      refine ifT ?_
      have hb0 := hbd (ql, qh, rl, rh) (by simp)
      dsimp only at hb0
      have hwq : wgt (qs ++ [(ql, qh, rl, rh)]) = wgt qs + (qh - ql) := by simp [wgt]
      have hlq : (qs ++ [(ql, qh, rl, rh)]).length = qs.length + 1 := by simp
      rw [hwq] at hw1 hw0 hw2
      simp only [List.length_append, List.length_singleton] at eq1 hw2
      have hbd' : ∀ q ∈ qs, 0 ≤ q.1 ∧ q.1 ≤ q.2.1 ∧ q.2.1 ≤ xs.length ∧ 0 ≤ q.2.2.1 ∧ q.2.2.1 ≤ q.2.2.2 ∧ q.2.2.2 ≤ ys.length := fun q hq => hbd q (List.mem_append_left _ hq)
      have hwp : 0 ≤ wgt qs := wgt_pos fun q hq => (hbd' q hq).2.1
      skip
      refine xUnpack ?_
      skip
      refine methL0 PySem.F.slot_list_pop PySem.F.type_list_pop ?_
      refine St.ld (by assumption) (by with_reducible exact Mine.at3) ?_
      refine ⟨St.lst (vs := qvs ++ [.ref qa]) (by assumption) (by (with_reducible refine List.mem_append_left _ ?_; (with_reducible refine List.mem_cons_of_mem _ ?_; with_reducible exact List.mem_cons_self))), ?_⟩
      refine popV (vs := qvs) (by assumption) (by (with_reducible refine List.mem_cons_of_mem _ ?_; with_reducible exact List.mem_cons_self)) (.tail .head) (by lia  ) fun h' S => ?_
      refine unpackRow (r := quad (ql, qh, rl, rh)) S (by (with_reducible refine List.mem_append_right _ ?_; (with_reducible refine List.mem_append_left _ ?_; with_reducible assumption))) hh rfl rfl fun vs4 h' hv S => ?_
      obtain ⟨t3, t4, t5, t6, rfl⟩ := sc4 (a := ql) (b := qh) (c := rl) (d := rh) hv
      refine assignInOrder_cons (assign_Name ?_)
      refine St.st (by assumption) (by with_reducible exact Mine.put5) fun _ _ _ => ?_
      refine assignInOrder_cons (assign_Name ?_)
      refine St.st (by assumption) (by with_reducible exact Mine.put6) fun _ _ _ => ?_
      refine assignInOrder_cons (assign_Name ?_)
      refine St.st (by assumption) (by with_reducible exact Mine.put7) fun _ _ _ => ?_
      refine assignInOrder_cons (assign_Name ?_)
      refine St.st (by assumption) (by with_reducible exact Mine.put8) fun _ _ _ => ?_
      refine assignInOrder_nil ?_
      refine xTwo ?_
      refine selfCall B (fun _ hq => St.ld (by assumption) (by (with_reducible exact List.mem_cons_self)) hq) (by assumption) (by (with_reducible refine List.mem_append_right _ ?_; (with_reducible refine List.mem_append_right _ ?_; with_reducible assumption))) (by (with_reducible refine List.mem_append_left _ ?_; (with_reducible refine List.mem_cons_of_mem _ ?_; (with_reducible refine List.mem_cons_of_mem _ ?_; with_reducible exact List.mem_cons_self)))) (by rfl) (by rfl) (f := 327) (by rfl) (by first | rfl | exact a5) (by rfl) ?_
      refine spC ?_
      refine St.ld (by assumption) (by with_reducible exact Mine.at5) ?_
      refine spC ?_
      refine St.ld (by assumption) (by with_reducible exact Mine.at6) ?_
      refine spC ?_
      refine St.ld (by assumption) (by with_reducible exact Mine.at7) ?_
      refine spC ?_
      refine St.ld (by assumption) (by with_reducible exact Mine.at8) ?_
      with_reducible refine spN ?_
      refine ⟨kIn (by assumption) B, ?_⟩
      refine St.call (by assumption) (find_does (xs := xs) (ys := ys) (ats := ats) (alo := ql) (ahi := qh) (blo := rl) (bhi := rh) (B.mono fun p hp => by (with_reducible refine List.mem_cons_of_mem _ ?_; (with_reducible refine List.mem_append_right _ ?_; (with_reducible refine List.mem_append_right _ ?_; with_reducible assumption)))) (by (with_reducible refine List.mem_cons_of_mem _ ?_; (with_reducible refine List.mem_append_right _ ?_; (with_reducible refine List.mem_append_right _ ?_; with_reducible assumption)))) (by (with_reducible refine List.mem_cons_of_mem _ ?_; (with_reducible refine List.mem_append_left _ ?_; (with_reducible refine List.mem_cons_of_mem _ ?_; (with_reducible refine List.mem_cons_of_mem _ ?_; with_reducible exact List.mem_cons_self))))) (by (with_reducible refine List.mem_cons_of_mem _ ?_; (with_reducible refine List.mem_append_right _ ?_; (with_reducible refine List.mem_append_right _ ?_; with_reducible assumption)))) (by (with_reducible refine List.mem_cons_of_mem _ ?_; (with_reducible refine List.mem_append_right _ ?_; (with_reducible refine List.mem_append_right _ ?_; with_reducible assumption)))) a1 a2 a3 a4 (hc.mono fun p hp => by (with_reducible refine List.mem_cons_of_mem _ ?_; (with_reducible refine List.mem_append_right _ ?_; (with_reducible refine List.mem_append_right _ ?_; with_reducible assumption)))) (by lia  ) (by lia  ) (by lia  ) (by lia  ) (by lia  ) (by lia  ) (by lia  ) (by lia  )) (RM.le (by lia  )) ?_
      rintro h' n1 v tk1 ⟨r, i, j, k, rfl, hr, hbest⟩ S
      have hqr : RowsIn (.type "tuple") (n1 ++ n) qvs (qs.map quad) := hqr.mono fun p hp => by (with_reducible refine List.mem_append_right _ ?_; with_reducible assumption)
      have htr : RowsIn (.ref 266) (n1 ++ n) tvs (ts.map tri) := htr.mono fun p hp => by (with_reducible refine List.mem_append_right _ ?_; with_reducible assumption)
      obtain ⟨z1, z2, z3, z4, z5, _⟩ := hbest.2.1
      refine unpackM S B (by (with_reducible refine List.mem_append_right _ ?_; (with_reducible refine List.mem_append_left _ ?_; (with_reducible refine List.mem_append_left _ ?_; with_reducible assumption)))) hh RM.d5 RM.u5 rfl rfl fun t7 t8 t9 h' tk' S => ?_
      refine assignInOrder_cons (assign_Name ?_)
      refine St.st (by assumption) (by with_reducible exact Mine.put9) fun _ _ _ => ?_
      refine assignInOrder_cons (assign_Name ?_)
      refine St.st (by assumption) (by with_reducible exact Mine.put10) fun _ _ _ => ?_
      refine assignInOrder_cons (assign_Name ?_)
      refine St.st (by assumption) (by with_reducible exact Mine.put11) fun _ _ _ => ?_
      refine assignInOrder_nil ?_
      with_reducible refine assign_Name ?_
      refine St.st (by assumption) (by with_reducible exact Mine.put12) fun _ _ _ => ?_
      refine xIf ?_
      refine isTrue_plain ?_
      refine St.ld (by assumption) (by with_reducible exact Mine.at11) ?_
      refine truthy_int ?_
      refine ifN (fun ck => ?_) fun ck => ?_
      · have hk : 0 < k := by lia  
        have htr2 : RowsIn (.ref 266) (n1 ++ n) (tvs ++ [.ref r]) ((ts ++ [(i, j, k)]).map tri) := by rw [List.map_append]; exact htr.append (.cons (show (r, RowP (.ref 266) (tri (i, j, k))) ∈ _ from List.mem_append_left _ hr) .nil)
        with_reducible refine appC ?_
        refine xExpr (by assumption) ?_
        refine methL PySem.F.slot_list_append PySem.F.type_list_append ?_
        refine St.ld (by assumption) (by with_reducible exact Mine.at4) ?_
        refine ⟨St.lst (vs := tvs) (by assumption) (by (with_reducible refine List.mem_append_left _ ?_; with_reducible exact List.mem_cons_self)), ?_⟩
        refine spC ?_
        refine St.ld (by assumption) (by with_reducible exact Mine.at12) ?_
        with_reducible refine spN ?_
        refine appendS (by assumption) (vs := tvs) (by (with_reducible exact List.mem_cons_self)) .head (by lia  ) fun h' S => ?_
        obtain ⟨N, hN⟩ : ∃ N, N = n1 ++ n := ⟨_, rfl⟩
        rw [← hN] at S htr2 hqr
        with_reducible refine appC ?_
        refine xIfJ S (K9c (alMb (some (.ref si)) (some (.int xs.length t1)) (some (.int ys.length t2)) (some (.ref qu)) (some (.ref mb)) (some (.int ql t3)) (some (.int qh t4)) (some (.int rl t5)) (some (.int rh t6)) (some (.int i t7)) (some (.int j t8)) (some (.int k t9)) (some (.ref r)) none none none none none none none) N (fun qv1 => [(mb, ListP (tvs ++ [.ref r])), (qu, ListP (qvs ++ qv1)), (dx, AtP ats)]) (fun r1 => r1 = [(ql, i, rl, j)] ∨ (r1 = [] ∧ (ql = i ∨ rl = j)))) ?_ ?_
        · intro Q2 hN2 hR2
          with_reducible refine isTrue_and ?_
          with_reducible refine nCmp (by assumption) (by with_reducible exact Mine.at5) (by with_reducible exact Mine.at9) (by with_unfolding_all exact rfl) ?_
          refine ifD (fun d1 => ?_) fun d1 => ifF ?_
          · with_reducible refine isTrue_and ?_
            with_reducible refine nCmp (by assumption) (by with_reducible exact Mine.at7) (by with_reducible exact Mine.at10) (by with_unfolding_all exact rfl) ?_
            refine ifD (fun d2 => ?_) fun d2 => ifF ?_
            · with_reducible refine isTrue_and_nil ?_
              refine ifT ?_
              refine xExpr (by assumption) ?_
              refine methL PySem.F.slot_list_append PySem.F.type_list_append ?_
              refine St.ld (by assumption) (by with_reducible exact Mine.at3) ?_
              refine ⟨St.lst (vs := qvs) (by assumption) (by (with_reducible refine List.mem_append_left _ ?_; (with_reducible refine List.mem_cons_of_mem _ ?_; with_reducible exact List.mem_cons_self))), ?_⟩
              refine spC ?_
              with_reducible refine Tuple_ ?_
              refine spC ?_
              refine St.ld (by assumption) (by with_reducible exact Mine.at5) ?_
              refine spC ?_
              refine St.ld (by assumption) (by with_reducible exact Mine.at9) ?_
              refine spC ?_
              refine St.ld (by assumption) (by with_reducible exact Mine.at7) ?_
              refine spC ?_
              refine St.ld (by assumption) (by with_reducible exact Mine.at10) ?_
              with_reducible refine spN ?_
              refine newTupS (by assumption) (RowP (.type "tuple") (quad (ql, i, rl, j))) ⟨_, _, .int _ _ (.int _ _ (.int _ _ (.int _ _ .nil))), rfl, rfl⟩ fun qb h' S => ?_
              with_reducible refine spN ?_
              refine appendS S (vs := qvs) (by (with_reducible refine List.mem_cons_of_mem _ ?_; with_reducible exact List.mem_cons_self)) (.tail .head) (by lia  ) fun h' S => ?_
              skip
              exact xEnd (hN2 _ _ _ _ _ ⟨rfl, fun p hp => .tail _ hp, [(ql, i, rl, j)], [.ref qb], rfl, .cons (.head _) .nil, .inl rfl⟩ S)
            · exact xEnd (hN2 _ _ _ _ _ ⟨rfl, fun p hp => hp, [], [], by rw [List.append_nil], .nil, .inr ⟨rfl, .inr (by lia  )⟩⟩ (by assumption))
          · exact xEnd (hN2 _ _ _ _ _ ⟨rfl, fun p hp => hp, [], [], by rw [List.append_nil], .nil, .inr ⟨rfl, .inl (by lia  )⟩⟩ (by assumption))
        · rintro al m n2 h tk ⟨rfl, hs, r1, qv1, rfl, hq1, hr1⟩ S
          have hqr2 : RowsIn (.type "tuple") n2 (qvs ++ qv1) ((qs ++ r1).map quad) := by rw [List.map_append]; exact (hqr.mono hs).append hq1
          have htr3 := htr2.mono hs
          have l1 : r1.length ≤ 1 := by rcases hr1 with rfl | ⟨rfl, _⟩ <;> simp
          have l2 := hq1.length
          rw [List.length_map] at l2
          have g1 : wgt r1 ≤ i - ql ∧ 0 ≤ wgt r1 := by rcases hr1 with rfl | ⟨rfl, _⟩ <;> simp [wgt] <;> lia  
          have b1 : ∀ q ∈ r1, 0 ≤ q.1 ∧ q.1 ≤ q.2.1 ∧ q.2.1 ≤ xs.length ∧ 0 ≤ q.2.2.1 ∧ q.2.2.1 ≤ q.2.2.2 ∧ q.2.2.2 ≤ ys.length := by
            rcases hr1 with rfl | ⟨rfl, _⟩
            · intro q hq
              rw [List.mem_singleton] at hq
              subst hq
              refine ⟨?_, ?_, ?_, ?_, ?_, ?_⟩ <;> dsimp only <;> lia  
            · intro q hq; cases hq
          have wa : ∀ {x y : List Q4}, wgt (x ++ y) = wgt x + wgt y := fun {x y} => by simp [wgt]
          have fin : ∀ (r2 : List Q4) (qv2 : List Value) (n3 : LT) (h : Heap) (tk : Nat), (∀ p ∈ n2, p ∈ n3) → RowsIn (.type "tuple") n3 qv2 (r2.map quad) → (r2 = [(i + k, qh, j + k, rh)] ∨ (r2 = [] ∧ (i + k = qh ∨ j + k = rh))) →
              St (K w.params) L env glMb (alMb (some (.ref si)) (some (.int xs.length t1)) (some (.int ys.length t2)) (some (.ref qu)) (some (.ref mb)) (some (.int ql t3)) (some (.int qh t4)) (some (.int rl t5)) (some (.int rh t6)) (some (.int i t7)) (some (.int j t8)) (some (.int k t9)) (some (.ref r)) none none none none none none none)
                [(mb, ListP (tvs ++ [.ref r])), (qu, ListP ((qvs ++ qv1) ++ qv2)), (dx, AtP ats)] n3 h → Q1 .next ⟨h, g, d, tk, os⟩ := by
            intro r2 qv2 n3 h tk hs3 hq2 hr2 S
            have m1 : r2.length ≤ 1 := by rcases hr2 with rfl | ⟨rfl, _⟩ <;> simp
            have g2 : wgt r2 ≤ qh - (i + k) ∧ 0 ≤ wgt r2 := by rcases hr2 with rfl | ⟨rfl, _⟩ <;> simp [wgt] <;> lia  
            refine (hN1 _ _ _ _ _ _ ?_ ⟨qs ++ (r1 ++ r2), ts ++ [(i, j, k)], (qvs ++ qv1) ++ qv2, tvs ++ [.ref r], _, _, _, _, _, _, _, _, _, _, rfl, rfl, ?_, htr3.mono hs3, hW.some hbest hk hr1 hr2, ?_, ?_, ?_, ?_, rfl⟩ S).1
            · rw [wa, wa, List.length_append, List.length_append]; lia  
            · rw [← List.append_assoc, List.map_append]; exact (hqr2.mono hs3).append hq2
            · intro q hq
              rcases List.mem_append.mp hq with hq | hq
              · exact hbd' q hq
              · rcases List.mem_append.mp hq with hq | hq
                · exact b1 q hq
                · rcases hr2 with rfl | ⟨rfl, _⟩
                  · rw [List.mem_singleton] at hq
                    subst hq
                    refine ⟨?_, ?_, ?_, ?_, ?_, ?_⟩ <;> dsimp only <;> lia  
                  · cases hq
            · rw [wa, wa, List.length_append, List.length_singleton]; push_cast; lia  
            · rw [wa, wa]; lia  
            · rw [wa, wa, List.length_append, List.length_append]; push_cast; lia  
          with_reducible refine appC ?_
          refine xIf ?_
          with_reducible refine isTrue_and ?_
          with_reducible refine vCmp (by assumption) (by with_reducible refine EvI.add (by with_reducible exact EvI.nm (by with_reducible exact Mine.at9)) (by with_reducible exact EvI.nm (by with_reducible exact Mine.at11))) (by with_reducible exact EvI.nm (by with_reducible exact Mine.at6)) (by with_unfolding_all exact rfl) fun _ => ?_
          refine ifD (fun d1 => ?_) fun d1 => ifF ?_
          · with_reducible refine isTrue_and ?_
            with_reducible refine vCmp (by assumption) (by with_reducible refine EvI.add (by with_reducible exact EvI.nm (by with_reducible exact Mine.at10)) (by with_reducible exact EvI.nm (by with_reducible exact Mine.at11))) (by with_reducible exact EvI.nm (by with_reducible exact Mine.at8)) (by with_unfolding_all exact rfl) fun _ => ?_
            refine ifD (fun d2 => ?_) fun d2 => ifF ?_
            · with_reducible refine isTrue_and_nil ?_
              refine ifT ?_
              with_reducible refine appC ?_
              refine xExpr (by assumption) ?_
              refine methL PySem.F.slot_list_append PySem.F.type_list_append ?_
              refine St.ld (by assumption) (by with_reducible exact Mine.at3) ?_
              refine ⟨St.lst (vs := qvs ++ qv1) (by assumption) (by (with_reducible refine List.mem_append_left _ ?_; (with_reducible refine List.mem_cons_of_mem _ ?_; with_reducible exact List.mem_cons_self))), ?_⟩
              refine spC ?_
              with_reducible refine Tuple_ ?_
              refine spC ?_
              with_reducible refine wpAny_BinOp ?_
              refine St.ld (by assumption) (by with_reducible exact Mine.at9) ?_
              refine St.ld (by assumption) (by with_reducible exact Mine.at11) ?_
              with_reducible refine addI fun _ _ => ?_
              refine spC ?_
              refine St.ld (by assumption) (by with_reducible exact Mine.at6) ?_
              refine spC ?_
              with_reducible refine wpAny_BinOp ?_
              refine St.ld (by assumption) (by with_reducible exact Mine.at10) ?_
              refine St.ld (by assumption) (by with_reducible exact Mine.at11) ?_
              with_reducible refine addI fun _ _ => ?_
              refine spC ?_
              refine St.ld (by assumption) (by with_reducible exact Mine.at8) ?_
              with_reducible refine spN ?_
              refine newTupS (by assumption) (RowP (.type "tuple") (quad (i + k, qh, j + k, rh))) ⟨_, _, .int _ _ (.int _ _ (.int _ _ (.int _ _ .nil))), rfl, rfl⟩ fun qb h' S => ?_
              with_reducible refine spN ?_
              refine appendS S (vs := qvs ++ qv1) (by (with_reducible refine List.mem_cons_of_mem _ ?_; with_reducible exact List.mem_cons_self)) (.tail .head) (by rw [List.length_append]; lia  ) fun h' S => ?_
              with_reducible refine appN ?_
              with_reducible refine appN ?_
              exact xEnd (fin [(i + k, qh, j + k, rh)] [.ref qb] _ _ _ (fun p hp => .tail _ hp) (.cons (.head _) .nil) (.inl rfl) S)
            · with_reducible refine appN ?_
              with_reducible refine appN ?_
              refine xEnd (fin [] [] _ _ _ (fun p hp => hp) .nil (.inr ⟨rfl, .inr (by lia  )⟩) ?_)
              rw [List.append_nil]; assumption
          · with_reducible refine appN ?_
            with_reducible refine appN ?_
            refine xEnd (fin [] [] _ _ _ (fun p hp => hp) .nil (.inr ⟨rfl, .inl (by lia  )⟩) ?_)
            rw [List.append_nil]; assumption
      · with_reducible refine appN ?_
        subst ck
        exact xEnd (hN1 _ _ _ _ _ _ (by lia  ) ⟨qs, ts, qvs, tvs, _, _, _, _, _, _, _, _, _, _, rfl, rfl, hqr, htr, hW.none hbest, hbd', by lia  , hwp, by lia  , rfl⟩ (by assumption)).1
  · rintro al m n h tk ⟨ts, tvs, t1, t2, v1, v2, v3, v4, v5, v6, v7, v8, rfl, rfl, htr, hW⟩ S
    obtain ⟨ks, hks, hperm⟩ := hW.done
    have kl := hks.len
    have tl := hperm.length_eq
    have hnd : (ts.map (·.1)).Nodup := by
      refine ((hperm.map (·.1)).nodup_iff).mp ?_
      have := hks.rows
      rw [← List.pairwise_map (f := fun p : T3 => p.1) (R := fun a b => a < b)] at this
      exact this.imp fun h => Int.ne_of_lt h
    refine xExpr (by assumption) ?_
    refine methL0 slot_list_sort PySem.F.type_list_sort ?_
    refine St.ld (by assumption) (by with_reducible exact Mine.at4) ?_
    refine ⟨St.lst (vs := tvs) (by assumption) (by (with_reducible refine List.mem_append_left _ ?_; with_reducible exact List.mem_cons_self)), ?_⟩
    refine sortS (ts := ts) B (by assumption) htr hnd (by lia  ) hh RM.d5 (by have := RM.hU; lia  ) fun ts' tvs h' tk' hp hs htr S => ?_
    obtain rfl : ts' = ks := rows_uniq (hp.trans hperm.symm) hs hks.rows
    have S := S.demote
    refine xThree ?_
    with_reducible refine cI fun _ _ => ?_
    with_reducible refine assign_Name ?_
    refine St.st (by assumption) (by with_reducible exact Mine.put13) fun _ _ _ => ?_
    with_reducible refine assign_Name ?_
    refine St.st (by assumption) (by with_reducible exact Mine.put14) fun _ _ _ => ?_
    with_reducible refine assign_Name ?_
    refine St.st (by assumption) (by with_reducible exact Mine.put15) fun _ _ _ => ?_
    refine xAssign ?_
    with_reducible refine List_ ?_
    with_reducible refine spN ?_
    refine newLstS (by assumption) fun na h' S => ?_
    have S := S.promote
    refine St.st (by assumption) (by with_reducible exact Mine.put16) fun _ _ _ => ?_
    refine xFor ?_
    refine St.ld (by assumption) (by with_reducible exact Mine.at4) ?_
    refine iter_list (by assumption) (St.isLV (vs := tvs) (by assumption) (by (with_reducible refine List.mem_append_right _ ?_; (with_reducible refine List.mem_append_left _ ?_; with_reducible exact List.mem_cons_self)))) fun it h' S => ?_
    obtain ⟨N, hN⟩ : ∃ N, N = (mb, ListP tvs) :: n := ⟨_, rfl⟩
    have hmbN : (mb, ListP tvs) ∈ N := by rw [hN]; exact .head _
    have htrN : RowsIn (.ref 266) N tvs (ts'.map tri) := by rw [hN]; exact htr.mono fun p hp => .tail _ hp
    rw [← hN] at S
    have tvl := htr.length
    rw [List.length_map] at tvl
    have kmem := hks.mem
    have kord := hks.order
    refine forTup (len := ts'.length) (K9d (alMb (some (.ref si)) (some (.int xs.length t1)) (some (.int ys.length t2)) (some (.ref qu)) (some (.ref mb)) v1 v2 v3 v4 v5 v6 v7 v8) na N [(qu, ListP []), (dx, AtP ats)] ts')
      (K9v N ts') (fun i x ⟨a, p, _, e, _⟩ => ⟨a, e⟩) hh S ⟨[], 0, 0, 0, _, _, _, _, _, _, rfl, rfl, fun p hp => hp, by simpa using RowsIn.nil, fun _ => ⟨rfl, rfl, rfl⟩, fun h => by lia  ⟩ ?_ ?_ ?_
    · rintro r al m n' h p ⟨navs, c1, c2, c3, w1, w2, w3, x1, x2, x3, rfl, rfl, hs, hna, hz, hp⟩ S
      refine ⟨tvs, S.isList (List.mem_append_right _ (List.mem_append_left _ (hs _ hmbN))), tvl, fun x hx => ?_⟩
      obtain ⟨hr, _⟩ := List.getElem?_eq_some_iff.mp hx
      obtain ⟨a, ha, hm⟩ := htrN.at (k := r) (r := tri (ts'[r]'(by lia  ))) (by rw [List.getElem?_map, List.getElem?_eq_getElem (by lia  )]; rfl)
      rw [hx] at ha
      cases ha
      exact ⟨a, _, List.getElem?_eq_getElem (by lia  ), rfl, hm⟩
    · rintro r al m n' h tk p0 E v Q2 hr ⟨a, ⟨q1, q2, q3⟩, hq, rfl, hqm⟩ ⟨navs, c1, c2, c3, w1, w2, w3, x1, x2, x3, rfl, rfl, hs, hna, hz, hp⟩ hN2 hB2 hR2 S
      have hq3 : 0 < q3 := (kmem _ (List.mem_of_getElem? hq)).2
      have nal := hna.length
      rw [List.length_map, List.length_take] at nal
      have hnx : ts'[r + 1 - 1]? = some (q1, q2, q3) := by rw [show r + 1 - 1 = r by lia  ]; exact hq
      have far : 0 < r → ¬ (c1 + c3 = q1 ∧ c2 + c3 = q2) ∧ 0 < c3 := fun h0 => by
        have hp := hp h0
        obtain ⟨l1, e1⟩ := List.getElem?_eq_some_iff.mp hp
        obtain ⟨l2, e2⟩ := List.getElem?_eq_some_iff.mp hq
        have := List.pairwise_iff_getElem.mp kord (r - 1) r l1 l2 (by lia  )
        rw [e1, e2] at this
        exact ⟨this.2.2, (kmem _ (List.mem_of_getElem? hp)).2⟩
      refine unpackM (i := q1) (j := q2) (k := q3) S B (List.mem_append_right _ (List.mem_append_left _ (hs _ hqm))) hh RM.d5 RM.u5 rfl rfl fun t7 t8 t9 h' tk' S => ?_
      refine assignInOrder_cons (assign_Name ?_)
      refine St.st (by assumption) (by with_reducible exact Mine.put17) fun _ _ _ => ?_
      refine assignInOrder_cons (assign_Name ?_)
      refine St.st (by assumption) (by with_reducible exact Mine.put18) fun _ _ _ => ?_
      refine assignInOrder_cons (assign_Name ?_)
      refine St.st (by assumption) (by with_reducible exact Mine.put19) fun _ _ _ => ?_
      refine assignInOrder_nil ?_
      refine xIf ?_
      with_reducible refine isTrue_and ?_
      with_reducible refine vCmp (by assumption) (by with_reducible refine EvI.add (by with_reducible exact EvI.nm (by with_reducible exact Mine.at13)) (by with_reducible exact EvI.nm (by with_reducible exact Mine.at15))) (by with_reducible exact EvI.nm (by with_reducible exact Mine.at17)) (by with_unfolding_all exact rfl) fun _ => ?_
      by_cases both : c1 + c3 = q1 ∧ c2 + c3 = q2
      · have r0 : r = 0 := by
          rcases Nat.eq_zero_or_pos r with e | e
          · exact e
          · exact absurd both (far e).1
        obtain ⟨rfl, rfl, rfl⟩ := hz r0
        refine ifE (fun _ => ?_) fun c => absurd both.1 c
        with_reducible refine isTrue_and ?_
        with_reducible refine vCmp (by assumption) (by with_reducible refine EvI.add (by with_reducible exact EvI.nm (by with_reducible exact Mine.at14)) (by with_reducible exact EvI.nm (by with_reducible exact Mine.at15))) (by with_reducible exact EvI.nm (by with_reducible exact Mine.at18)) (by with_unfolding_all exact rfl) fun _ => ?_
        refine ifE (fun _ => ?_) fun c => absurd both.2 c
        with_reducible refine isTrue_and_nil ?_
        refine ifT ?_
        with_reducible refine appC ?_
        refine xAugI (by assumption) (by with_reducible exact Mine.at15) (by with_reducible exact EvI.nm (by with_reducible exact Mine.at19)) (fun _ => by with_reducible exact Mine.put15) fun _ _ _ _ => ?_
        with_reducible refine appN ?_
        refine xEnd (hN2 _ _ _ _ _ ⟨navs, 0, 0, 0 + q3, _, _, _, _, _, _, rfl, rfl, hs, by subst r0; simpa using hna, fun h => by lia  , fun _ => ?_⟩ (by assumption)).1
        rw [hnx]
        congr 1
        have := both.1
        have := both.2
        ext <;> dsimp only <;> lia  
      · refine ifE (fun d1 => ?_) fun d1 => ifF ?_
        case' refine_1 =>
          with_reducible refine isTrue_and ?_
          with_reducible refine vCmp (by assumption) (by with_reducible refine EvI.add (by with_reducible exact EvI.nm (by with_reducible exact Mine.at14)) (by with_reducible exact EvI.nm (by with_reducible exact Mine.at15))) (by with_reducible exact EvI.nm (by with_reducible exact Mine.at18)) (by with_unfolding_all exact rfl) fun _ => ?_
          refine ifE (fun d2 => absurd ⟨d1, d2⟩ both) fun d2 => ifF ?_
        all_goals
          with_reducible refine appC ?_
          refine xIf ?_
          refine isTrue_plain ?_
          refine St.ld (by assumption) (by with_reducible exact Mine.at15) ?_
          refine truthy_int ?_
          refine ifN (fun ck => ?_) fun ck => ?_
          · have hr0 : 0 < r := by
              rcases Nat.eq_zero_or_pos r with e | e
              · exact absurd (hz e).2.2 ck
              · exact e
            with_reducible refine appC ?_
            refine xExpr (by assumption) ?_
            refine methL PySem.F.slot_list_append PySem.F.type_list_append ?_
            refine St.ld (by assumption) (by with_reducible exact Mine.at16) ?_
            refine ⟨St.lst (vs := navs) (by assumption) (by (with_reducible refine List.mem_append_left _ ?_; (with_reducible refine List.mem_cons_of_mem _ ?_; with_reducible exact List.mem_cons_self))), ?_⟩
            refine spC ?_
            with_reducible refine Tuple_ ?_
            refine spC ?_
            refine St.ld (by assumption) (by with_reducible exact Mine.at13) ?_
            refine spC ?_
            refine St.ld (by assumption) (by with_reducible exact Mine.at14) ?_
            refine spC ?_
            refine St.ld (by assumption) (by with_reducible exact Mine.at15) ?_
            with_reducible refine spN ?_
            refine newTupS (by assumption) (RowP (.type "tuple") (tri (c1, c2, c3))) ⟨_, _, .int _ _ (.int _ _ (.int _ _ .nil)), rfl, rfl⟩ fun qb h' S => ?_
            with_reducible refine spN ?_
            refine appendS S (vs := navs) (by (with_reducible refine List.mem_cons_of_mem _ ?_; with_reducible exact List.mem_cons_self)) (.tail .head) (by lia  ) fun h' S => ?_
            with_reducible refine appN ?_
            with_reducible refine appC ?_
            refine xSwap ["i1", "j1", "k1"] henv ?_
            refine spC ?_
            refine St.ld (by assumption) (by with_reducible exact Mine.at17) ?_
            refine spC ?_
            refine St.ld (by assumption) (by with_reducible exact Mine.at18) ?_
            refine spC ?_
            refine St.ld (by assumption) (by with_reducible exact Mine.at19) ?_
            with_reducible refine spN ?_
            refine newTupUnpack (by assumption) (by assumption) rfl fun _ _ => ?_
            refine asgN ?_
            refine St.st (by assumption) (by with_reducible exact Mine.put15) fun _ _ _ => ?_
            refine asgN ?_
            refine St.st (by assumption) (by with_reducible exact Mine.put14) fun _ _ _ => ?_
            refine asgN ?_
            refine St.st (by assumption) (by with_reducible exact Mine.put13) fun _ _ _ => ?_
            refine assignInOrder_nil ?_
            with_reducible refine appN ?_
            refine xEnd (hN2 _ _ _ _ _ ⟨navs ++ [.ref qb], q1, q2, q3, _, _, _, _, _, _, rfl, rfl, fun p hp => .tail _ (hs p hp), ?_, fun h => by lia  , fun _ => hnx⟩ (by assumption)).1
            have e : ts'.take (r + 1 - 1) = ts'.take (r - 1) ++ [(c1, c2, c3)] := by
              rw [show r + 1 - 1 = (r - 1) + 1 by lia  , List.take_add_one, hp hr0]; rfl
            rw [e, List.map_append]
            exact (hna.mono fun p hp => .tail _ hp).append (.cons (.head _) .nil)
          · have r0 : r = 0 := by
              rcases Nat.eq_zero_or_pos r with e | e
              · exact e
              · exact absurd (far e).2 (by lia  )
            with_reducible refine appN ?_
            with_reducible refine appC ?_
            refine xSwap ["i1", "j1", "k1"] henv ?_
            refine spC ?_
            refine St.ld (by assumption) (by with_reducible exact Mine.at17) ?_
            refine spC ?_
            refine St.ld (by assumption) (by with_reducible exact Mine.at18) ?_
            refine spC ?_
            refine St.ld (by assumption) (by with_reducible exact Mine.at19) ?_
            with_reducible refine spN ?_
            refine newTupUnpack (by assumption) (by assumption) rfl fun _ _ => ?_
            refine asgN ?_
            refine St.st (by assumption) (by with_reducible exact Mine.put15) fun _ _ _ => ?_
            refine asgN ?_
            refine St.st (by assumption) (by with_reducible exact Mine.put14) fun _ _ _ => ?_
            refine asgN ?_
            refine St.st (by assumption) (by with_reducible exact Mine.put13) fun _ _ _ => ?_
            refine assignInOrder_nil ?_
            with_reducible refine appN ?_
            exact xEnd (hN2 _ _ _ _ _ ⟨navs, q1, q2, q3, _, _, _, _, _, _, rfl, rfl, hs, by subst r0; simpa using hna, fun h => by lia  , fun _ => hnx⟩ (by assumption)).1
    · rintro al m n' h tk ⟨navs, c1, c2, c3, w1, w2, w3, x1, x2, x3, rfl, rfl, hs, hna, hz, hp⟩ S
      have nal := hna.length
      rw [List.length_map, List.length_take] at nal
      skip
      refine xIfJ S (K9e (alMb (some (.ref si)) (some (.int xs.length t1)) (some (.int ys.length t2)) (some (.ref qu)) (some (.ref mb)) v1 v2 v3 v4 v5 v6 v7 v8 (some (.int c1 w1)) (some (.int c2 w2)) (some (.int c3 w3)) (some (.ref na)) x1 x2 x3) na N [(qu, ListP []), (dx, AtP ats)] ts') ?_ ?_
      · intro Q2 hN2 hR2
        refine isTrue_plain ?_
        refine St.ld (by assumption) (by with_reducible exact Mine.at15) ?_
        refine truthy_int ?_
        refine ifN (fun ck => ?_) fun ck => ?_
        · have hr0 : 0 < ts'.length := by
            rcases Nat.eq_zero_or_pos ts'.length with e | e
            · exact absurd (hz e).2.2 ck
            · exact e
          refine xExpr (by assumption) ?_
          refine methL PySem.F.slot_list_append PySem.F.type_list_append ?_
          refine St.ld (by assumption) (by with_reducible exact Mine.at16) ?_
          refine ⟨St.lst (vs := navs) (by assumption) (by (with_reducible refine List.mem_append_left _ ?_; with_reducible exact List.mem_cons_self)), ?_⟩
          refine spC ?_
          with_reducible refine Tuple_ ?_
          refine spC ?_
          refine St.ld (by assumption) (by with_reducible exact Mine.at13) ?_
          refine spC ?_
          refine St.ld (by assumption) (by with_reducible exact Mine.at14) ?_
          refine spC ?_
          refine St.ld (by assumption) (by with_reducible exact Mine.at15) ?_
          with_reducible refine spN ?_
          refine newTupS (by assumption) (RowP (.type "tuple") (tri (c1, c2, c3))) ⟨_, _, .int _ _ (.int _ _ (.int _ _ .nil)), rfl, rfl⟩ fun qb h' S => ?_
          with_reducible refine spN ?_
          refine appendS S (vs := navs) (by (with_reducible exact List.mem_cons_self)) .head (by lia  ) fun h' S => ?_
          skip
          refine xEnd (hN2 _ _ _ _ _ ⟨rfl, navs ++ [.ref qb], rfl, fun p hp => .tail _ (hs p hp), ?_⟩ (by assumption))
          have e : ts' = ts'.take (ts'.length - 1) ++ [(c1, c2, c3)] := by
            have := List.take_length (l := ts')
            rw [show ts'.length = (ts'.length - 1) + 1 by lia  , List.take_add_one, hp hr0] at this
            exact this.symm
          rw [e, List.map_append]
          exact (hna.mono fun p hp => .tail _ hp).append (.cons (.head _) .nil)
        · have r0 : ts'.length = 0 := by
            rcases Nat.eq_zero_or_pos ts'.length with e | e
            · exact e
            · exact absurd (kmem _ (List.mem_of_getElem? (hp e))).2 (by dsimp only; lia  )
          have : ts' = [] := List.length_eq_zero_iff.mp r0
          refine xEnd (hN2 _ _ _ _ _ ⟨rfl, navs, rfl, hs, ?_⟩ (by assumption))
          rw [this] at hna ⊢
          exact hna
      · rintro al m n2 h tk ⟨rfl, nv, rfl, hs2, hnv⟩ S
        have nvl := hnv.length
        rw [List.length_map] at nvl
        refine xExpr (by assumption) ?_
        refine methL PySem.F.slot_list_append PySem.F.type_list_append ?_
        refine St.ld (by assumption) (by with_reducible exact Mine.at16) ?_
        refine ⟨St.lst (vs := nv) (by assumption) (by (with_reducible refine List.mem_append_left _ ?_; with_reducible exact List.mem_cons_self)), ?_⟩
        refine spC ?_
        with_reducible refine Tuple_ ?_
        refine spC ?_
        refine St.ld (by assumption) (by with_reducible exact Mine.at1) ?_
        refine spC ?_
        refine St.ld (by assumption) (by with_reducible exact Mine.at2) ?_
        refine spC ?_
        with_reducible refine cI fun _ _ => ?_
        with_reducible refine spN ?_
        refine newTupS (by assumption) (RowP (.type "tuple") (tri (xs.length, ys.length, 0))) ⟨_, _, .int _ _ (.int _ _ (.int _ _ .nil)), rfl, rfl⟩ fun qb h' S => ?_
        with_reducible refine spN ?_
        refine appendS S (vs := nv) (by (with_reducible exact List.mem_cons_self)) .head (by lia  ) fun h' S => ?_
        have S := S.demote
        refine xAttr ?_
        refine eCallT (by assumption) (by assumption) (by with_reducible exact Mine.at1) ?_
        refine spC ?_
        refine eCallT (by assumption) (by assumption) (by with_reducible exact Mine.at2) ?_
        refine spC ?_
        refine Attribute_Name_ ?_
        refine St.gb (by assumption) (by assumption) (by with_reducible exact Mine.at3) ?_
        refine getMake (by assumption) B fun qm h' tk' S => ?_
        refine spC ?_
        refine St.ld (by assumption) (by with_reducible exact Mine.at16) ?_
        with_reducible refine spN ?_
        refine newMapS (vs := nv ++ [.ref qb]) (by assumption) B (by (with_reducible refine List.mem_append_right _ ?_; (with_reducible refine List.mem_append_left _ ?_; (with_reducible refine List.mem_cons_of_mem _ ?_; with_reducible exact List.mem_cons_self)))) hh RM.d5 RM.u5 fun I T li h' tk' S => ?_
        with_reducible refine spN ?_
        refine mapList (vs := nv ++ [.ref qb]) (ts := ts' ++ [((xs.length : Int), (ys.length : Int), 0)]) B S (by (with_reducible exact List.mem_cons_self)) (by (with_reducible refine List.mem_cons_of_mem _ ?_; with_reducible exact List.mem_cons_self)) (by (with_reducible refine List.mem_cons_of_mem _ ?_; (with_reducible refine List.mem_cons_of_mem _ ?_; with_reducible exact List.mem_cons_self))) (by (with_reducible refine List.mem_cons_of_mem _ ?_; (with_reducible refine List.mem_cons_of_mem _ ?_; (with_reducible refine List.mem_cons_of_mem _ ?_; with_reducible exact List.mem_cons_self)))) ?_ (by rw [List.length_append, List.length_singleton]; lia  ) hh RM.d5 (by have := RM.hU; lia  ) fun Sx acc n3 h' tk' S hs3 hr3 => ?_
        · rw [List.map_append]
          exact (hnv.mono fun p hp => by (with_reducible refine List.mem_cons_of_mem _ ?_; (with_reducible refine List.mem_cons_of_mem _ ?_; (with_reducible refine List.mem_cons_of_mem _ ?_; (with_reducible refine List.mem_cons_of_mem _ ?_; (with_reducible refine List.mem_cons_of_mem _ ?_; with_reducible assumption)))))).append (.cons (show (qb, RowP (.type "tuple") (tri ((xs.length : Int), (ys.length : Int), 0))) ∈ _ by (with_reducible refine List.mem_cons_of_mem _ ?_; (with_reducible refine List.mem_cons_of_mem _ ?_; (with_reducible refine List.mem_cons_of_mem _ ?_; (with_reducible refine List.mem_cons_of_mem _ ?_; with_reducible exact List.mem_cons_self))))) .nil)
        · refine St.ld (by assumption) (by with_reducible exact Mine.at0) ?_
          refine St.setA (by assumption) (by assumption) (by (with_reducible refine List.mem_append_right _ ?_; (with_reducible refine List.mem_append_right _ ?_; with_reducible assumption))) (by (with_reducible refine List.mem_append_left _ ?_; (with_reducible refine List.mem_cons_of_mem _ ?_; with_reducible exact List.mem_cons_self))) (by with_reducible exact Up.tail (by with_reducible exact Up.head)) (by rfl) (by rfl) (by rfl) (by rfl) (by first | lia   | (simp only [List.length_cons, List.length_nil]; lia  ) | (simp; done)) fun _ _ _ => ?_
          with_reducible refine xRet ?_
          refine Attribute_Name_ ?_
          refine St.ld (by assumption) (by with_reducible exact Mine.at0) ?_
          refine St.getA (by assumption) (by assumption) (by (with_reducible refine List.mem_append_right _ ?_; (with_reducible refine List.mem_append_right _ ?_; with_reducible assumption))) (by (with_reducible refine List.mem_append_left _ ?_; (with_reducible refine List.mem_cons_of_mem _ ?_; with_reducible exact List.mem_cons_self))) (by rfl) (by rfl) (attr := none) (by rfl) (by rfl) (by first | rfl | assumption) (by rfl) fun _ => ?_
          rename_i S1 _
          refine G _ [(dx, AtP (("matching_blocks", .ref Sx) :: ats))] _ _ _ (St.finM (mm := [(dx, AtP (("matching_blocks", .ref Sx) :: ats))]) (m := [(qu, ListP [])]) (St.permM S1 (.swap ..))) ⟨Sx, acc, ts', rfl, rfl, by (with_reducible refine List.mem_cons_of_mem _ ?_; (with_reducible refine List.mem_append_right _ ?_; with_reducible exact List.mem_cons_self)), hks, hr3.mono fun p hp => by (with_reducible refine List.mem_cons_of_mem _ ?_; (with_reducible refine List.mem_append_right _ ?_; (with_reducible refine List.mem_cons_of_mem _ ?_; with_reducible assumption)))⟩

end Mine
end
section
open PySem
set_option autoImplicit false
namespace Mine
def lrow (left one two seen : List Int) (x : Int) : List (List Sc) :=
  if x ∉ seen ∧ (two.count x : Int) - one.count x ≠ 0 then [[.i (left.count x), .i (left.count x + ((two.count x : Int) - one.count x)), .i x]] else []
def lrows (left one two : List Int) : List Int → List Int → List (List Sc)
  | _, [] => []
  | seen, x :: r => lrow left one two seen x ++ lrows left one two (seen ++ [x]) r
theorem lrows_snoc (left one two : List Int) : ∀ (l seen : List Int) (x : Int), lrows left one two seen (l ++ [x]) = lrows left one two seen l ++ lrow left one two (seen ++ l) x
  | [], seen, x => by simp [lrows]
  | a :: l, seen, x => by simp [lrows, lrows_snoc left one two l (seen ++ [a]) x]
theorem lrows_len (left one two : List Int) : ∀ (l seen : List Int), (lrows left one two seen l).length ≤ l.length
  | [], _ => by simp [lrows]
  | a :: l, seen => by
    have := lrows_len left one two l (seen ++ [a])
    have h : (lrow left one two seen a).length ≤ 1 := by unfold lrow; split <;> simp
    simp only [lrows, List.length_append, List.length_cons]; lia  
end Mine
end
section
open PySem
set_option autoImplicit false
namespace Mine
def crow (left right seen : List Int) (x : Int) : List (List Sc) := if x ∉ seen ∧ left.count x ≠ right.count x then [[.i (left.count x), .i (right.count x), .i x]] else []
def crows (left right : List Int) : List Int → List Int → List (List Sc)
  | _, [] => []
  | seen, x :: r => crow left right seen x ++ crows left right (seen ++ [x]) r
theorem crows_snoc (left right : List Int) : ∀ (l seen : List Int) (x : Int), crows left right seen (l ++ [x]) = crows left right seen l ++ crow left right (seen ++ l) x
  | [], seen, x => by simp [crows]
  | a :: l, seen, x => by simp [crows, crows_snoc left right l (seen ++ [a]) x]
theorem crows_len (left right : List Int) : ∀ (l seen : List Int), (crows left right seen l).length ≤ l.length
  | [], _ => by simp [crows]
  | a :: l, seen => by
    have := crows_len left right l (seen ++ [a])
    have h : (crow left right seen a).length ≤ 1 := by unfold crow; split <;> simp
    simp only [crows, List.length_append, List.length_cons]; lia  
theorem crows_lrows {left right one two : List Int} (h : ∀ x, (right.count x : Int) - left.count x = two.count x - one.count x) : ∀ (l seen : List Int), crows left right seen l = lrows left one two seen l
  | [], _ => rfl
  | x :: l, seen => by
    have e : crow left right seen x = lrow left one two seen x := by
      have := h x
      unfold crow lrow
      by_cases c : x ∉ seen ∧ left.count x ≠ right.count x
      · rw [if_pos c, if_pos ⟨c.1, by lia  ⟩]
        have : (right.count x : Int) = left.count x + ((two.count x : Int) - one.count x) := by lia  
        rw [this]
      · rw [if_neg c, if_neg (fun d => c ⟨d.1, by lia  ⟩)]
    rw [crows, lrows, e, crows_lrows h l]
def mskS (xs seen : List Int) (k : Nat) : Option Int := match xs[k]? with
  | some y => if y ∈ seen then none else some y
  | none => none
def mskF (xs seen : List Int) (x : Int) (j k : Nat) : Option Int := match xs[k]? with
  | some y => if y ∈ seen ∨ (y = x ∧ k < j) then none else some y
  | none => none
theorem msk_start0 (xs seen : List Int) (x : Int) (k : Nat) : mskS xs seen k = mskF xs seen x 0 k := by
  unfold mskS mskF
  cases xs[k]? with
  | none => rfl
  | some y => simp
theorem msk_start (xs seen : List Int) (x : Int) (i k : Nat) (h : ∀ y ∈ xs.take i, y ∈ seen) : mskS xs seen k = mskF xs seen x i k := by
  unfold mskS mskF
  cases e : xs[k]? with
  | none => rfl
  | some y =>
    dsimp only
    by_cases c : y ∈ seen
    · rw [if_pos c, if_pos (.inl c)]
    · rw [if_neg c, if_neg (fun d => d.elim c fun d => c (h y (by
        obtain ⟨hk, e⟩ := List.getElem?_eq_some_iff.mp e
        rw [← e]
        exact List.mem_take_iff_getElem.mpr ⟨k, by lia  , rfl⟩)))]
theorem msk_end (xs seen seen' : List Int) (x : Int) (k : Nat) (h : ∀ y, y ∈ seen' ↔ y ∈ seen ∨ y = x) : mskF xs seen x xs.length k = mskS xs seen' k := by
  unfold mskS mskF
  cases e : xs[k]? with
  | none => rfl
  | some y =>
    obtain ⟨hk, _⟩ := List.getElem?_eq_some_iff.mp e
    dsimp only
    by_cases c : y ∈ seen'
    · rw [if_pos c, if_pos (((h y).mp c).imp id fun d => ⟨d, hk⟩)]
    · rw [if_neg c, if_neg (fun d => c ((h y).mpr (d.imp id fun d => d.1)))]
theorem msk_same (xs seen seen' : List Int) (k : Nat) (h : ∀ y, y ∈ seen' ↔ y ∈ seen) : mskS xs seen k = mskS xs seen' k := by
  unfold mskS
  cases e : xs[k]? with
  | none => rfl
  | some y => dsimp only; simp only [h y]
theorem msk_skip {xs seen : List Int} {x z : Int} {j : Nat} (hz : xs[j]? = some z) (h : z ∈ seen ∨ z ≠ x) (k : Nat) : mskF xs seen x j k = mskF xs seen x (j + 1) k := by
  unfold mskF
  cases e : xs[k]? with
  | none => rfl
  | some y =>
    dsimp only
    by_cases c : k = j
    · subst c
      rw [hz] at e
      cases e
      rcases h with h | h
      · rw [if_pos (.inl h), if_pos (.inl h)]
      · by_cases d : z ∈ seen
        · rw [if_pos (.inl d), if_pos (.inl d)]
        · rw [if_neg (by rintro (q | q); exact d q; exact h q.1), if_neg (by rintro (q | q); exact d q; exact h q.1)]
    · have : k < j ↔ k < j + 1 := by lia  
      simp only [this]
theorem msk_put {xs seen : List Int} {x : Int} {j : Nat} (hz : xs[j]? = some x) (k : Nat) : (if k = j then none else mskF xs seen x j k) = mskF xs seen x (j + 1) k := by
  unfold mskF
  by_cases c : k = j
  · subst c
    rw [if_pos rfl, hz]
    dsimp only
    rw [if_pos (.inr ⟨rfl, by lia  ⟩)]
  · rw [if_neg c]
    have : k < j ↔ k < j + 1 := by lia  
    simp only [this]
theorem msk_at {xs seen : List Int} {x z : Int} {j : Nat} (hz : xs[j]? = some z) : mskF xs seen x j j = if z ∈ seen then none else some z := by
  unfold mskF
  rw [hz]
  dsimp only
  by_cases c : z ∈ seen
  · rw [if_pos (.inl c), if_pos c]
  · rw [if_neg (by rintro (q | q); exact c q; lia  ), if_neg c]
theorem msk_atS {xs seen : List Int} {z : Int} {j : Nat} (hz : xs[j]? = some z) : mskS xs seen j = if z ∈ seen then none else some z := by
  unfold mskS; rw [hz]
theorem count_step {xs : List Int} {x z : Int} {j : Nat} (hz : xs[j]? = some z) : (xs.take (j + 1)).count x = (xs.take j).count x + if z = x then 1 else 0 := by
  rw [List.take_add_one, hz, List.count_append]
  by_cases e : z = x
  · subst e; simp
  · simp [e, List.count_cons]
end Mine
end
section
open PySem
set_option autoImplicit false
namespace Mine
def isEqR : List Sc → Bool
  | .s w :: _ => w == "equal"
  | _ => false
def RowOk (la lb : Int) (r : List Sc) : Prop := ∃ w i j k l, r = [.s w, .i i, .i j, .i k, .i l] ∧ PyData.strOk w = true ∧ 0 ≤ i ∧ i ≤ j ∧ j ≤ la ∧ 0 ≤ k ∧ k ≤ l ∧ l ≤ lb
def seg (xs : List Int) (i j : Int) : List Int := (xs.take j.toNat).drop i.toNat
def gone (xs : List Int) : List (List Sc) → List Int
  | [] => []
  | r :: rs => (match r with | [.s w, .i i, .i j, .i _, .i _] => if w = "equal" then [] else seg xs i j | _ => []) ++ gone xs rs
def come (ys : List Int) : List (List Sc) → List Int
  | [] => []
  | r :: rs => (match r with | [.s w, .i _, .i _, .i k, .i l] => if w = "equal" then [] else seg ys k l | _ => []) ++ come ys rs
theorem gone_append (xs : List Int) : ∀ a b : List (List Sc), gone xs (a ++ b) = gone xs a ++ gone xs b
  | [], b => rfl
  | r :: a, b => by simp only [List.cons_append, gone, gone_append xs a b, List.append_assoc]
theorem come_append (ys : List Int) : ∀ a b : List (List Sc), come ys (a ++ b) = come ys a ++ come ys b
  | [], b => rfl
  | r :: a, b => by simp only [List.cons_append, come, come_append ys a b, List.append_assoc]
theorem seg_len (xs : List Int) (i j : Int) (h0 : 0 ≤ i) (h1 : i ≤ j) (h2 : j ≤ xs.length) : ((seg xs i j).length : Int) = j - i := by
  unfold seg
  rw [List.length_drop, List.length_take]
  lia  
theorem seg_nil (xs : List Int) (i : Int) : seg xs i i = [] := by
  unfold seg
  exact List.drop_eq_nil_of_le (by rw [List.length_take]; lia  )
theorem seg_drop (xs : List Int) (i j : Int) (h0 : 0 ≤ i) (h1 : i ≤ j) : xs.drop i.toNat = seg xs i j ++ xs.drop j.toNat := by
  unfold seg
  rw [List.drop_take]
  have e : j.toNat = i.toNat + (j.toNat - i.toNat) := by lia  
  rw [show xs.drop j.toNat = (xs.drop i.toNat).drop (j.toNat - i.toNat) by rw [List.drop_drop]; congr 1]
  exact (List.take_append_drop _ _).symm
def Chain (xs ys : List Int) : List T3 → Prop
  | [] => True
  | [p] => p.1 = xs.length ∧ p.2.1 = ys.length ∧ p.2.2 = 0
  | p :: q :: r => (0 ≤ p.1 ∧ 0 ≤ p.2.1 ∧ 0 ≤ p.2.2 ∧ p.1 + p.2.2 ≤ q.1 ∧ p.2.1 + p.2.2 ≤ q.2.1 ∧ seg xs p.1 (p.1 + p.2.2) = seg ys p.2.1 (p.2.1 + p.2.2)) ∧ Chain xs ys (q :: r)
def eqs (xs : List Int) : List T3 → List Int
  | [] => []
  | p :: r => seg xs p.1 (p.1 + p.2.2) ++ eqs xs r
theorem Chain.le {xs ys : List Int} : ∀ {p : T3} {r : List T3}, Chain xs ys (p :: r) → p.1 + p.2.2 ≤ xs.length ∧ p.2.1 + p.2.2 ≤ ys.length ∧ 0 ≤ p.1 ∧ 0 ≤ p.2.1 ∧ 0 ≤ p.2.2
  | p, [], ⟨h1, h2, h3⟩ => by lia  
  | p, q :: r, ⟨⟨h1, h2, h3, h4, h5, _⟩, h⟩ => by have := Chain.le h; lia  
theorem chain_ok {xs ys : List Int} : ∀ {l : List T3}, Chain xs ys l → ∀ r ∈ codesOf l, RowOk xs.length ys.length r
  | [], _, r, h => by simp [codesOf] at h
  | [_], _, r, h => by simp [codesOf] at h
  | p :: q :: l, ⟨⟨h1, h2, h3, h4, h5, _⟩, hc⟩, r, h => by
    have hle := hc.le
    rw [codesOf, List.mem_append, stepR, List.mem_append] at h
    rcases h with (h | h) | h
    · unfold eqR at h
      split at h
      · rw [List.mem_singleton] at h
        exact ⟨_, _, _, _, _, h, by decide +kernel, by lia  , by lia  , by lia  , by lia  , by lia  , by lia  ⟩
      · simp at h
    · unfold gapR at h
      split at h
      · simp at h
      · rw [List.mem_singleton] at h
        refine ⟨_, _, _, _, _, h, ?_, by lia  , by lia  , by lia  , by lia  , by lia  , by lia  ⟩
        split
        · decide +kernel
        · split <;> decide +kernel
    · exact chain_ok hc r h
theorem gap_gone (xs ys : List Int) (i ai j bj : Int) : gone xs (gapR i ai j bj) = seg xs i ai ∧ come ys (gapR i ai j bj) = seg ys j bj := by
  unfold gapR
  split
  · rename_i h
    have e1 : ai = i := by lia  
    have e2 : bj = j := by lia  
    subst e1 e2
    exact ⟨(seg_nil _ _).symm, (seg_nil _ _).symm⟩
  · have hw : ¬ ((if ai - i = 0 then ("insert" : Str) else if bj - j = 0 then "delete" else "replace") = "equal") := by
      split
      · decide +kernel
      · split <;> decide +kernel
    simp only [gone, come, if_neg hw, List.append_nil, and_self]
theorem eq_gone (xs ys : List Int) (p : T3) : gone xs (eqR p) = [] ∧ come ys (eqR p) = [] := by
  unfold eqR
  split <;> simp [gone, come]
theorem chain_perm {xs ys : List Int} : ∀ {p : T3} {r : List T3}, Chain xs ys (p :: r) →
    (xs.drop p.1.toNat).Perm (gone xs (codesOf (p :: r)) ++ eqs xs (p :: r)) ∧ (ys.drop p.2.1.toNat).Perm (come ys (codesOf (p :: r)) ++ eqs xs (p :: r))
  | p, [], ⟨h1, h2, h3⟩ => by
    have e1 : xs.drop p.1.toNat = [] := List.drop_eq_nil_of_le (by lia  )
    have e2 : ys.drop p.2.1.toNat = [] := List.drop_eq_nil_of_le (by lia  )
    have e3 : seg xs p.1 (p.1 + p.2.2) = [] := by rw [h3, Int.add_zero]; exact seg_nil _ _
    rw [e1, e2]
    simp [codesOf, gone, come, eqs, e3]
  | p, q :: r, ⟨⟨h1, h2, h3, h4, h5, h6⟩, hc⟩ => by
    have ih := chain_perm hc
    have hle := hc.le
    obtain ⟨g1, g2⟩ := gap_gone xs ys (p.1 + p.2.2) q.1 (p.2.1 + p.2.2) q.2.1
    obtain ⟨q1, q2⟩ := eq_gone xs ys p
    rw [codesOf, stepR, gone_append, gone_append, come_append, come_append, g1, g2, q1, q2, List.nil_append, List.nil_append]
    show (xs.drop p.1.toNat).Perm (_ ++ (seg xs p.1 (p.1 + p.2.2) ++ eqs xs (q :: r))) ∧ (ys.drop p.2.1.toNat).Perm (_ ++ (seg xs p.1 (p.1 + p.2.2) ++ eqs xs (q :: r)))
    rw [seg_drop xs p.1 (p.1 + p.2.2) h1 (by lia  ), seg_drop xs (p.1 + p.2.2) q.1 (by lia  ) h4, seg_drop ys p.2.1 (p.2.1 + p.2.2) h2 (by lia  ), seg_drop ys (p.2.1 + p.2.2) q.2.1 (by lia  ) h5, ← h6]
    have key : ∀ (A G T U V : List Int), T.Perm (U ++ V) → (A ++ (G ++ T)).Perm ((G ++ U) ++ (A ++ V)) := fun A G T U V h => by
      have e1 : (A ++ (G ++ T)).Perm (A ++ (G ++ (U ++ V))) := (h.append_left G).append_left A
      refine e1.trans ?_
      have e2 : (A ++ (G ++ (U ++ V))) = A ++ ((G ++ U) ++ V) := by rw [List.append_assoc]
      rw [e2]
      exact List.perm_append_comm_assoc A (G ++ U) V
    exact ⟨key _ _ _ _ _ ih.1, key _ _ _ _ _ ih.2⟩
theorem Kept.ahead {a b : List Int} {la lb : Int} {ks : List T3} (x : Kept a b 0 la 0 lb ks) (h1 : 0 ≤ la) (h2 : 0 ≤ lb) : ((0, 0, 0) :: ks ++ [(la, lb, 0)]).Pairwise (fun (p q : T3) => p.1 + p.2.2 ≤ q.1 ∧ p.2.1 + p.2.2 ≤ q.2.1) := by
  have hm := x.mem
  rw [List.cons_append, List.pairwise_cons, List.pairwise_append]
  refine ⟨fun q hq => ?_, x.order.imp fun h => ⟨h.1, h.2.1⟩, List.pairwise_singleton _ _, fun p hp q hq => ?_⟩
  · rcases List.mem_append.mp hq with hq | hq
    · obtain ⟨⟨c1, c2, c3, c4, c5, c6⟩, _⟩ := hm q hq
      exact ⟨by dsimp only; lia  , by dsimp only; lia  ⟩
    · rw [List.mem_singleton] at hq
      subst hq
      exact ⟨by dsimp only; lia  , by dsimp only; lia  ⟩
  · rw [List.mem_singleton] at hq
    subst hq
    obtain ⟨⟨c1, c2, c3, c4, c5, c6⟩, _⟩ := hm p hp
    exact ⟨c2, c4⟩
end Mine
end
section
open PySem PySem.W PyProof.Rows PySem.Calls
set_option autoImplicit false
namespace Mine
abbrev glOp : List (Str × Value) := []
def nmOp : List Str := ["self", "i", "j", "answer", "ai", "bj", "size", "tag"]
abbrev alOp (self i j answer ai bj size tag : Option Value) : AL := [("self", self), ("i", i), ("j", j), ("answer", answer), ("ai", ai), ("bj", bj), ("size", size), ("tag", tag)]
inductive OkOp (xs ys : List Int) (dx : Addr) (m n : LT) (v : Value) : Prop
  | mk (r : Addr) (vs : List Value) (ks : List T3) (ats' : List (Str × Value)) (e1 : v = .ref r) (e2 : m = [(dx, AtP ats')]) (h1 : (r, ListP vs) ∈ n) (h2 : Kept xs ys 0 xs.length 0 ys.length ks) (h3 : RowsIn (.type "tuple") n vs (codesOf ((0, 0, 0) :: ks ++ [((xs.length : Int), (ys.length : Int), 0)])))
inductive K10a (si an : Addr) (M N : LT) (KL : List T3) (q : Nat) (al : AL) (m n' : LT) : Prop
  | mk (avs : List Value) (c1 c2 : Int) (w1 w2 : Tok) (p : T3) (x1 x2 x3 x4 : Option Value) (e1 : al = alOp (some (.ref si)) (some (.int c1 w1)) (some (.int c2 w2)) (some (.ref an)) x1 x2 x3 x4) (e2 : m = (an, ListP avs) :: M) (hs : ∀ p ∈ N, p ∈ n')
      (hp : ((0, 0, 0) :: KL)[q]? = some p) (h1 : c1 = p.1 + p.2.2) (h2 : c2 = p.2.1 + p.2.2) (h3 : RowsIn (.type "tuple") n' avs (codesOf (((0, 0, 0) :: KL).take (q + 1)) ++ eqR p))
inductive K10c (A0 : AL) (p0 : Addr × OP) (an : Addr) (M N : LT) (R : List (List Sc)) (al : AL) (m n3 : LT) : Prop
  | mk (e1 : al = A0) (hs : ∀ p ∈ N, p ∈ n3) (av2 : List Value) (e2 : m = p0 :: (an, ListP av2) :: M) (h : RowsIn (.type "tuple") n3 av2 R)
theorem opcodes_does {w : World} {h₁ : Heap} {si dx aa ab b2j bj : Addr} {xs ys : List Int} {ats : List (Str × Value)} {L : LT} (B : Bs (K w.params) h₁ L) (hi : (si, InsP 373 dx) ∈ L)
    (ha : (aa, IntsP xs) ∈ L) (hb : (ab, IntsP ys) ∈ L) (a9 : Has ats "opcodes" .none) (a0 : Has ats "matching_blocks" .none) (a1 : Has ats "a" (.ref aa)) (a2 : Has ats "b" (.ref ab)) (a3 : Has ats "b2j" (.ref b2j)) (a4 : Has ats "bjunk" (.ref bj)) (a5 : HasN ats "find_longest_match") (a6 : HasN ats "get_matching_blocks") (hc : Chained PySem.Challenge.pw_il0152_01 w ys L b2j bj)
    (hl : ats.length ≤ 90) (h7 : xs.length ≤ 60) (h8 : ys.length ≤ 100) :
    DoesM PySem.Challenge.pw_il0152_01 w [(dx, AtP ats)] L 120 (fun _ => True) (.ref 341) [.ref si]
      (OkOp xs ys dx) := by
  refine enterM B (f := 341) (name := _) (qual := _) (params := _) (body := _) (scope := _) (dV := _) (kV := _) (doc := _) (pm := _) (cdv := _) (ct := _) (oc := _) (an := _) (od := _) (osl := _) rfl (by rfl) glOp
    (alOp (some (.ref si)) none none none none none none none) nmOp rfl
    [("self", .ref si)] (fun s _ => BindsTo.of_eq rfl) (fun L' => ?_) ?_ (by kernel_rfl!) (by lia  ) ?_
  case refine_1 => exact ⟨rfl, rfl, rfl, by rfl, by decide +kernel, trivial⟩
  case refine_2 => exact hal_of (binds := [("self", .ref si)]) (ns := nmOp.drop 1) (by show (nmOp.take 1).Nodup; decide +kernel)
  rintro A h g d tk os E env Q RM henv hff ⟨outer, hA, hF⟩ G G0 S
  have hh := RM.hh
  refine xExpr (by assumption) ?_
  with_reducible refine cS fun _ _ => ?_
  refine xIf ?_
  refine wpAny_isTrue_Compare1 ?_
  refine Attribute_Name_ ?_
  refine St.ld (by assumption) (by with_reducible exact Mine.at0) ?_
  refine St.getA (by assumption) (by assumption) (by (with_reducible refine List.mem_append_right _ ?_; (with_reducible refine List.mem_append_right _ ?_; with_reducible assumption))) (by (with_reducible refine List.mem_append_left _ ?_; with_reducible exact List.mem_cons_self)) (by rfl) (by rfl) (attr := none) (by rfl) (by rfl) (by first | rfl | assumption) (by rfl) fun _ => ?_
  with_reducible refine wpAny_Constant_none ?_
  with_reducible refine isNot_none_none ?_
  with_reducible refine wpAny_truthy_bool ?_
  refine ifF ?_
  with_reducible refine appN ?_
  refine xTwo ?_
  with_reducible refine cI fun _ _ => ?_
  with_reducible refine assign_Name ?_
  refine St.st (by assumption) (by with_reducible exact Mine.put1) fun _ _ _ => ?_
  with_reducible refine assign_Name ?_
  refine St.st (by assumption) (by with_reducible exact Mine.put2) fun _ _ _ => ?_
  refine xTwo ?_
  with_reducible refine List_ ?_
  with_reducible refine spN ?_
  refine newLstS (by assumption) fun an h' S => ?_
  have S := S.promote
  with_reducible refine asgAttr ?_
  refine St.ld (by assumption) (by with_reducible exact Mine.at0) ?_
  refine St.setA (by assumption) (by assumption) (by (with_reducible refine List.mem_append_right _ ?_; (with_reducible refine List.mem_append_right _ ?_; with_reducible assumption))) (by (with_reducible refine List.mem_append_left _ ?_; (with_reducible refine List.mem_cons_of_mem _ ?_; with_reducible exact List.mem_cons_self))) (by with_reducible exact Up.tail (by with_reducible exact Up.head)) (by rfl) (by rfl) (by rfl) (by rfl) (by first | lia   | (simp only [List.length_cons, List.length_nil]; lia  ) | (simp; done)) fun _ _ _ => ?_
  with_reducible refine assign_Name ?_
  refine St.st (by assumption) (by with_reducible exact Mine.put3) fun _ _ _ => ?_
  refine xFor ?_
  refine selfCall0 B (fun _ hq => St.ld (by assumption) (by (with_reducible exact List.mem_cons_self)) hq) (by assumption) (by (with_reducible refine List.mem_append_right _ ?_; (with_reducible refine List.mem_append_right _ ?_; with_reducible assumption))) (by (with_reducible refine List.mem_append_left _ ?_; (with_reducible refine List.mem_cons_of_mem _ ?_; with_reducible exact List.mem_cons_self))) (by rfl) (by rfl) (f := 334) (by rfl) (by first | rfl | exact a6) (by rfl) ?_
  refine St.callM (mm := [(dx, AtP (("opcodes", .ref an) :: ats))]) (m := [(an, ListP [])]) (St.permM (by assumption) (.swap ..)) (blocks_does (xs := xs) (ys := ys) (ats := ("opcodes", .ref an) :: ats) (B.mono fun p hp => by (with_reducible refine List.mem_cons_of_mem _ ?_; (with_reducible refine List.mem_append_right _ ?_; (with_reducible refine List.mem_append_right _ ?_; with_reducible assumption)))) (by (with_reducible refine List.mem_cons_of_mem _ ?_; (with_reducible refine List.mem_append_right _ ?_; (with_reducible refine List.mem_append_right _ ?_; with_reducible assumption)))) (by (with_reducible refine List.mem_cons_of_mem _ ?_; (with_reducible refine List.mem_append_right _ ?_; (with_reducible refine List.mem_append_right _ ?_; with_reducible assumption)))) (by (with_reducible refine List.mem_cons_of_mem _ ?_; (with_reducible refine List.mem_append_right _ ?_; (with_reducible refine List.mem_append_right _ ?_; with_reducible assumption)))) a0 a1 a2 a3 a4 a5 (hc.mono fun p hp => by (with_reducible refine List.mem_cons_of_mem _ ?_; (with_reducible refine List.mem_append_right _ ?_; (with_reducible refine List.mem_append_right _ ?_; with_reducible assumption)))) (by simp only [List.length_cons]; lia  ) (by lia  ) (by lia  )) (RM.le (by lia  )) ⟨_, hA, trivial⟩ ?_
  rintro h' m1 n1 v tk1 ⟨r, bvs, ks, rfl, rfl, hr, hks, hbr⟩ S
  obtain ⟨KL, hKL⟩ : ∃ KL : List T3, KL = ks ++ [((xs.length : Int), (ys.length : Int), 0)] := ⟨_, rfl⟩
  rw [← hKL] at hbr
  have S := S.permM (m' := [(an, ListP []), (dx, AtP (("matching_blocks", .ref r) :: ("opcodes", .ref an) :: ats))]) (.swap ..)
  have kl := hks.len
  have hKll : KL.length = ks.length + 1 := by rw [hKL]; simp
  have bvl := hbr.length
  rw [List.length_map] at bvl
  have hgo := hks.ahead (by lia  ) (by lia  )
  rw [List.cons_append, ← hKL] at hgo
  obtain ⟨N, hN⟩ : ∃ N, N = n1 ++ [] := ⟨_, rfl⟩
  rw [← hN] at S
  have hrN : (r, ListP bvs) ∈ N := by rw [hN]; exact List.mem_append_left _ hr
  have hbN : RowsIn (.ref 266) N bvs (KL.map tri) := by rw [hN]; exact hbr.mono fun p hp => List.mem_append_left _ hp
  refine iter_list (by assumption) (St.isLV (vs := bvs) (by assumption) (by (with_reducible refine List.mem_append_right _ ?_; (with_reducible refine List.mem_append_left _ ?_; with_reducible assumption)))) fun it h' S => ?_
  refine forTup (len := KL.length) (K10a si an [(dx, AtP (("matching_blocks", .ref r) :: ("opcodes", .ref an) :: ats))] N KL)
      (K9v N KL) (fun i x ⟨a, p, _, e, _⟩ => ⟨a, e⟩) hh S ⟨[], 0, 0, _, _, (0, 0, 0), _, _, _, _, rfl, rfl, fun p hp => hp, rfl, rfl, rfl, .nil⟩ ?_ ?_ ?_
  · rintro q al m n' h p0 ⟨avs, c1, c2, w1, w2, p, x1, x2, x3, x4, rfl, rfl, hs, hp, e1, e2, hav⟩ S
    refine ⟨bvs, S.isList (List.mem_append_right _ (List.mem_append_left _ (hs _ hrN))), bvl, fun x hx => ?_⟩
    obtain ⟨hr, _⟩ := List.getElem?_eq_some_iff.mp hx
    obtain ⟨a, ha, hm⟩ := hbN.at (k := q) (r := tri (KL[q]'(by lia  ))) (by rw [List.getElem?_map, List.getElem?_eq_getElem (by lia  )]; rfl)
    rw [hx] at ha
    cases ha
    exact ⟨a, _, List.getElem?_eq_getElem (by lia  ), rfl, hm⟩
  · rintro q al m n' h tk p0 E v Q2 hq ⟨a, ⟨q1, q2, q3⟩, hqq, rfl, hqm⟩ ⟨avs, c1, c2, w1, w2, p, x1, x2, x3, x4, rfl, rfl, hs, hp, e1, e2, hav⟩ hN2 hB2 hR2 S
    have avl := hav.length
    have acl := codes_len (((0, 0, 0) :: KL).take (q + 1))
    have atl : (((0, 0, 0) :: KL).take (q + 1)).length ≤ KL.length + 1 := by rw [List.length_take]; simp; lia  
    have eql : (eqR p).length ≤ 1 := by unfold eqR; split <;> simp
    rw [List.length_append] at avl
    have hqn : ((0, 0, 0) :: KL)[q + 1]? = some (q1, q2, q3) := by rw [List.getElem?_cons_succ]; exact hqq
    have go : c1 ≤ q1 ∧ c2 ≤ q2 := by
      obtain ⟨l1, f1⟩ := List.getElem?_eq_some_iff.mp hp
      obtain ⟨l2, f2⟩ := List.getElem?_eq_some_iff.mp hqn
      have := List.pairwise_iff_getElem.mp hgo q (q + 1) l1 l2 (by lia  )
      rw [f1, f2] at this
      rw [e1, e2]; exact this
    refine unpackM (i := q1) (j := q2) (k := q3) S B (List.mem_append_right _ (List.mem_append_left _ (hs _ hqm))) hh RM.d5 RM.u5 rfl rfl fun t7 t8 t9 h' tk' S => ?_
    obtain ⟨W, hW⟩ : ∃ W : Str, W = if c1 < q1 then (if c2 < q2 then "replace" else "delete") else if c2 < q2 then "insert" else "" := ⟨_, rfl⟩
    refine assignInOrder_cons (assign_Name ?_)
    refine St.st (by assumption) (by with_reducible exact Mine.put4) fun _ _ _ => ?_
    refine assignInOrder_cons (assign_Name ?_)
    refine St.st (by assumption) (by with_reducible exact Mine.put5) fun _ _ _ => ?_
    refine assignInOrder_cons (assign_Name ?_)
    refine St.st (by assumption) (by with_reducible exact Mine.put6) fun _ _ _ => ?_
    refine assignInOrder_nil ?_
    refine xAssign ?_
    with_reducible refine cS fun _ _ => ?_
    refine St.st (by assumption) (by with_reducible exact Mine.put7) fun _ _ _ => ?_
    refine xIfJ (by assumption) (fun al m n2 => ∃ t, al = alOp (some (.ref si)) (some (.int c1 w1)) (some (.int c2 w2)) (some (.ref an)) (some (.int q1 t7)) (some (.int q2 t8)) (some (.int q3 t9)) (some (.str W t)) ∧ m = [p0, (an, ListP avs), (dx, AtP (("matching_blocks", .ref r) :: ("opcodes", .ref an) :: ats))] ∧ n2 = n') ?_ ?_
    · intro Q3 hN3 hR3
      with_reducible refine isTrue_and ?_
      with_reducible refine nCmp (by assumption) (by with_reducible exact Mine.at1) (by with_reducible exact Mine.at4) (by with_unfolding_all exact rfl) ?_
      refine ifD (fun d1 => ?_) fun d1 => ifF ?_
      · with_reducible refine isTrue_and ?_
        with_reducible refine nCmp (by assumption) (by with_reducible exact Mine.at2) (by with_reducible exact Mine.at5) (by with_unfolding_all exact rfl) ?_
        refine ifD (fun d2 => ?_) fun d2 => ifF ?_
        · with_reducible refine isTrue_and_nil ?_
          refine ifT ?_
          refine xAssign ?_
          with_reducible refine cS fun _ _ => ?_
          refine St.st (by assumption) (by with_reducible exact Mine.put7) fun _ _ _ => ?_
          exact xEnd (hN3 _ _ _ _ _ ⟨_, by rw [hW, if_pos d1, if_pos d2], rfl, rfl⟩ (by assumption))
        · skip
          refine xIf ?_
          with_reducible refine nCmp (by assumption) (by with_reducible exact Mine.at1) (by with_reducible exact Mine.at4) (by with_unfolding_all exact rfl) ?_
          refine ifD (fun _ => ?_) fun d => absurd d1 d
          with_reducible refine appC ?_
          refine xAssign ?_
          with_reducible refine cS fun _ _ => ?_
          refine St.st (by assumption) (by with_reducible exact Mine.put7) fun _ _ _ => ?_
          with_reducible refine appN ?_
          exact xEnd (hN3 _ _ _ _ _ ⟨_, by rw [hW, if_pos d1, if_neg d2], rfl, rfl⟩ (by assumption))
      · skip
        refine xIf ?_
        with_reducible refine nCmp (by assumption) (by with_reducible exact Mine.at1) (by with_reducible exact Mine.at4) (by with_unfolding_all exact rfl) ?_
        refine ifD (fun d => absurd d d1) fun _ => ?_
        with_reducible refine appC ?_
        refine xIf ?_
        with_reducible refine nCmp (by assumption) (by with_reducible exact Mine.at2) (by with_reducible exact Mine.at5) (by with_unfolding_all exact rfl) ?_
        refine ifD (fun d2 => ?_) fun d2 => ?_
        · with_reducible refine appC ?_
          refine xAssign ?_
          with_reducible refine cS fun _ _ => ?_
          refine St.st (by assumption) (by with_reducible exact Mine.put7) fun _ _ _ => ?_
          with_reducible refine appN ?_
          with_reducible refine appN ?_
          exact xEnd (hN3 _ _ _ _ _ ⟨_, by rw [hW, if_neg d1, if_pos d2], rfl, rfl⟩ (by assumption))
        · with_reducible refine appN ?_
          with_reducible refine appN ?_
          exact xEnd (hN3 _ _ _ _ _ ⟨_, by rw [hW, if_neg d1, if_neg d2], rfl, rfl⟩ (by assumption))
    · rintro al m n2 h tk ⟨t, rfl, rfl, rfl⟩ S
      have hq3 : 0 ≤ q3 := by
        have hm := List.mem_of_getElem? hqq
        rw [hKL] at hm
        rcases List.mem_append.mp hm with hm | hm
        · exact Int.le_of_lt (hks.mem _ hm).2
        · rw [List.mem_singleton] at hm; cases hm; exact Int.le_refl _
      have hst : codesOf (((0, 0, 0) :: KL).take (q + 1 + 1)) = codesOf (((0, 0, 0) :: KL).take (q + 1)) ++ (eqR p ++ gapR c1 q1 c2 q2) := by
        rw [codesOf_take hp hqn, stepR, e1, e2]
      skip
      refine xIfJ (by assumption) (K10c (alOp (some (.ref si)) (some (.int c1 w1)) (some (.int c2 w2)) (some (.ref an)) (some (.int q1 t7)) (some (.int q2 t8)) (some (.int q3 t9)) (some (.str W t))) p0 an [(dx, AtP (("matching_blocks", .ref r) :: ("opcodes", .ref an) :: ats))] n2 (codesOf (((0, 0, 0) :: KL).take (q + 1 + 1)))) ?_ ?_
      · intro Q3 hN3 hR3
        refine isTrue_plain ?_
        refine St.ld (by assumption) (by with_reducible exact Mine.at7) ?_
        by_cases both : q1 - c1 = 0 ∧ q2 - c2 = 0
        · have w0 : W = "" := by rw [hW, if_neg (by lia  ), if_neg (by lia  )]
          rw [w0] at *
          refine PySem.P.truthy_str (by decide) ?_
          refine ifF ?_
          refine xEnd (hN3 _ _ _ _ _ ⟨rfl, fun p hp => hp, avs, rfl, ?_⟩ (by assumption))
          rw [hst, gapR, if_pos both, List.append_nil]; exact hav
        · have w0 : W = (if q1 - c1 = 0 then ("insert" : Str) else if q2 - c2 = 0 then ("delete" : Str) else ("replace" : Str)) := by
            rw [hW]
            by_cases f1 : c1 < q1
            · rw [if_pos f1, if_neg (show ¬ q1 - c1 = 0 by lia  )]
              by_cases f2 : c2 < q2
              · rw [if_pos f2, if_neg (by lia  )]
              · rw [if_neg f2, if_pos (by lia  )]
            · rw [if_neg f1, if_pos (show q1 - c1 = 0 by lia  ), if_pos (by lia  )]
          have wl : W.length < 100 ∧ W.length ≠ 0 := by
            rw [w0]
            split
            · decide
            · split <;> decide
          refine PySem.P.truthy_str (by lia  ) ?_
          refine ifN (fun _ => ?_) fun e => absurd e (by lia  )
          refine xExpr (by assumption) ?_
          refine methL PySem.F.slot_list_append PySem.F.type_list_append ?_
          refine St.ld (by assumption) (by with_reducible exact Mine.at3) ?_
          refine ⟨St.lst (vs := avs) (by assumption) (by (with_reducible refine List.mem_append_left _ ?_; (with_reducible refine List.mem_cons_of_mem _ ?_; with_reducible exact List.mem_cons_self))), ?_⟩
          refine spC ?_
          with_reducible refine Tuple_ ?_
          refine spC ?_
          refine St.ld (by assumption) (by with_reducible exact Mine.at7) ?_
          refine spC ?_
          refine St.ld (by assumption) (by with_reducible exact Mine.at1) ?_
          refine spC ?_
          refine St.ld (by assumption) (by with_reducible exact Mine.at4) ?_
          refine spC ?_
          refine St.ld (by assumption) (by with_reducible exact Mine.at2) ?_
          refine spC ?_
          refine St.ld (by assumption) (by with_reducible exact Mine.at5) ?_
          with_reducible refine spN ?_
          refine newTupS (by assumption) (RowP (.type "tuple") [.s W, .i c1, .i q1, .i c2, .i q2]) ⟨_, _, .str _ _ (.int _ _ (.int _ _ (.int _ _ (.int _ _ .nil)))), rfl, rfl⟩ fun qb h' S => ?_
          with_reducible refine spN ?_
          refine appendS S (vs := avs) (by (with_reducible refine List.mem_cons_of_mem _ ?_; with_reducible exact List.mem_cons_self)) (.tail .head) (by lia  ) fun h' S => ?_
          skip
          refine xEnd (hN3 _ _ _ _ _ ⟨rfl, fun p hp => .tail _ hp, avs ++ [.ref qb], rfl, ?_⟩ (by assumption))
          rw [hst, gapR, if_neg both, ← w0, ← List.append_assoc]
          exact (hav.mono fun p hp => .tail _ hp).append (.cons (.head _) .nil)
      · rintro al m n3 h tk ⟨rfl, hs3, av2, rfl, hav2⟩ S
        have av2l := hav2.length
        have acl2 := codes_len (((0, 0, 0) :: KL).take (q + 1 + 1))
        have atl2 : (((0, 0, 0) :: KL).take (q + 1 + 1)).length ≤ KL.length + 1 := by rw [List.length_take]; simp; lia  
        skip
        refine xSwap ["i", "j"] henv ?_
        refine spC ?_
        with_reducible refine wpAny_BinOp ?_
        refine St.ld (by assumption) (by with_reducible exact Mine.at4) ?_
        refine St.ld (by assumption) (by with_reducible exact Mine.at6) ?_
        with_reducible refine addI fun _ _ => ?_
        refine spC ?_
        with_reducible refine wpAny_BinOp ?_
        refine St.ld (by assumption) (by with_reducible exact Mine.at5) ?_
        refine St.ld (by assumption) (by with_reducible exact Mine.at6) ?_
        with_reducible refine addI fun _ _ => ?_
        with_reducible refine spN ?_
        refine newTupUnpack (by assumption) (by assumption) rfl fun _ _ => ?_
        refine asgN ?_
        refine St.st (by assumption) (by with_reducible exact Mine.put2) fun _ _ _ => ?_
        refine asgN ?_
        refine St.st (by assumption) (by with_reducible exact Mine.put1) fun _ _ _ => ?_
        refine assignInOrder_nil ?_
        refine xIf ?_
        refine isTrue_plain ?_
        refine St.ld (by assumption) (by with_reducible exact Mine.at6) ?_
        refine truthy_int ?_
        refine ifN (fun ck => ?_) fun ck => ?_
        · with_reducible refine appC ?_
          refine xExpr (by assumption) ?_
          refine methL PySem.F.slot_list_append PySem.F.type_list_append ?_
          refine St.ld (by assumption) (by with_reducible exact Mine.at3) ?_
          refine ⟨St.lst (vs := av2) (by assumption) (by (with_reducible refine List.mem_append_left _ ?_; (with_reducible refine List.mem_cons_of_mem _ ?_; with_reducible exact List.mem_cons_self))), ?_⟩
          refine spC ?_
          with_reducible refine Tuple_ ?_
          refine spC ?_
          with_reducible refine cS fun _ _ => ?_
          refine spC ?_
          refine St.ld (by assumption) (by with_reducible exact Mine.at4) ?_
          refine spC ?_
          refine St.ld (by assumption) (by with_reducible exact Mine.at1) ?_
          refine spC ?_
          refine St.ld (by assumption) (by with_reducible exact Mine.at5) ?_
          refine spC ?_
          refine St.ld (by assumption) (by with_reducible exact Mine.at2) ?_
          with_reducible refine spN ?_
          refine newTupS (by assumption) (RowP (.type "tuple") [.s "equal", .i q1, .i (q1 + q3), .i q2, .i (q2 + q3)]) ⟨_, _, .str _ _ (.int _ _ (.int _ _ (.int _ _ (.int _ _ .nil)))), rfl, rfl⟩ fun qb h' S => ?_
          with_reducible refine spN ?_
          refine appendS S (vs := av2) (by (with_reducible refine List.mem_cons_of_mem _ ?_; with_reducible exact List.mem_cons_self)) (.tail .head) (by lia  ) fun h' S => ?_
          with_reducible refine appN ?_
          refine xEnd (hN2 _ _ _ _ _ ⟨av2 ++ [.ref qb], _, _, _, _, (q1, q2, q3), _, _, _, _, rfl, rfl, fun p hp => .tail _ (hs3 _ (hs p hp)), hqn, rfl, rfl, ?_⟩ (by assumption)).1
          rw [eqR, if_pos (by show 0 < q3; lia  )]
          exact (hav2.mono fun p hp => .tail _ hp).append (.cons (.head _) .nil)
        · with_reducible refine appN ?_
          refine xEnd (hN2 _ _ _ _ _ ⟨av2, _, _, _, _, (q1, q2, q3), _, _, _, _, rfl, rfl, fun p hp => hs3 _ (hs p hp), hqn, rfl, rfl, ?_⟩ (by assumption)).1
          rw [eqR, if_neg (by show ¬ 0 < q3; lia  ), List.append_nil]
          exact hav2
  · rintro al m n' h tk ⟨avs, c1, c2, w1, w2, p, x1, x2, x3, x4, rfl, rfl, hs, hp, e1, e2, hav⟩ S
    with_reducible refine xRet ?_
    refine St.ld (by assumption) (by with_reducible exact Mine.at3) ?_
    have S := S.demote
    have hpl : p = ((xs.length : Int), (ys.length : Int), (0 : Int)) := by
      rw [hKL, ← List.cons_append, List.getElem?_append_right (by simp)] at hp
      simp at hp
      exact hp.symm
    subst hpl
    rw [eqR, if_neg (by simp), List.append_nil, List.take_of_length_le (by simp), hKL] at hav
    refine G _ [(dx, AtP (("matching_blocks", .ref r) :: ("opcodes", .ref an) :: ats))] _ _ _ (St.finM (mm := [(dx, AtP (("matching_blocks", .ref r) :: ("opcodes", .ref an) :: ats))]) (m := []) S) ⟨an, avs, ks, _, rfl, rfl, by (with_reducible refine List.mem_cons_of_mem _ ?_; (with_reducible refine List.mem_append_right _ ?_; with_reducible exact List.mem_cons_self)), hks, hav.mono fun p hp => by (with_reducible refine List.mem_cons_of_mem _ ?_; (with_reducible refine List.mem_append_right _ ?_; (with_reducible refine List.mem_cons_of_mem _ ?_; with_reducible assumption)))⟩

end Mine
end
section
open PySem PySem.W PyProof.Rows PySem.Calls
set_option autoImplicit false
namespace Mine
section
local macro_rules | `(tactic| x_close) => `(tactic| exact ⟨rfl, _, _, rfl, fun _ _ e => e⟩)
theorem inteq_run {prog : Program} {w : World} {E : Value → Shared → Prop} {h : Heap} {g : Array GenState} {d : Drawn} {tk : Nat} {os : OsState} {nu : Addr} {k : Int} {t : Tok} (hx : h.get? nu = some { cls := .type "object", data := .plain }) :
    wpAny (model prog w) wideA (PySem.call (.builtin "int.__eq__") [.int k t, .ref nu]) (Still .notImplemented h g d os) E ⟨h, g, d, tk, os⟩ := by
  x_run
theorem objeq_run {prog : Program} {w : World} {E : Value → Shared → Prop} {h : Heap} {g : Array GenState} {d : Drawn} {tk : Nat} {os : OsState} {nu : Addr} {k : Int} {t : Tok} (hx : h.get? nu = some { cls := .type "object", data := .plain }) :
    wpAny (model prog w) wideA (PySem.call (.builtin "object.__eq__") [.ref nu, .int k t]) (Still .notImplemented h g d os) E ⟨h, g, d, tk, os⟩ := by
  x_run
end
section
local macro_rules | `(tactic| x_close) => `(tactic| exact NewRow.of (by assumption) (by first | exact .head _ | exact .tail _ (.head _) | exact .tail _ (.tail _ (.head _))) rfl)
theorem obj_run {prog : Program} {w : World} {E : Value → Shared → Prop} {h : Heap} {g : Array GenState} {d : Drawn} {tk : Nat} {os : OsState} (KX : (Mine.kmake.heap_1 w.params).In h) :
    wpAny (model prog w) wideA (PySem.call (.type "object") []) (NewRow (fun o => o = { cls := .type "object", data := .plain }) h g d os) E ⟨h, g, d, tk, os⟩ := by
  x_run
end
theorem ieq_slot : Slot "int" "__eq__" "int.__eq__" := Slot.of (T := "int") (name := "__eq__") (owner := "int") (n := "__eq__") (by rw [typeLookup_type, builtinLookup_eq_fast]; kernel_rfl) (by decide +kernel) (by decide +kernel) (by decide +kernel)
    (.inl (by decide +kernel)) (by rw [isSubtype_type]; kernel_rfl)
theorem oeq_slot : Slot "object" "__eq__" "object.__eq__" := Slot.of (T := "object") (name := "__eq__") (owner := "object") (n := "__eq__") (by rw [typeLookup_type, builtinLookup_eq_fast]; kernel_rfl) (by decide +kernel) (by decide +kernel) (by decide +kernel)
    (.inl (by decide +kernel)) (by rw [isSubtype_type]; kernel_rfl)
theorem sub_int_obj0 : True := trivial
theorem sub_int_obj : isSubtype (.type "int") (.type "object") = pure true := by rw [isSubtype_type]; kernel_rfl
section
variable {w : World} {A : Around} {E : Value → Shared → Prop} {h : Heap} {g : Array GenState} {d : Drawn} {tk : Nat} {os : OsState} {nu : Addr} {k : Int} {t : Tok} 
theorem objEq {Q : Value → Shared → Prop} (hx : h.get? nu = some { cls := .type "object", data := .plain }) (hh : A.handled = none) (hd : A.depth ≤ 500) (hu : A.units ≤ 5000)
    (hq : ∀ h' tk', (∀ b o, h.get? b = some o → h'.get? b = some o) → Q (.bool false) ⟨h', g, d, tk', os⟩) :
    wpAny (model PySem.Challenge.pw_il0152_01 w) A (compareOp .Eq (.ref nu) (.int k t)) Q E ⟨h, g, d, tk, os⟩ := by
  have c1 : ∀ (h : Heap) (tk : Nat), h.get? nu = some { cls := .type "object", data := .plain } → ∀ (Q : Option Value → Shared → Prop), (∀ h' tk', (∀ b o, h.get? b = some o → h'.get? b = some o) → Q none ⟨h', g, d, tk', os⟩) → wpAny (model PySem.Challenge.pw_il0152_01 w) A (tryCompare (.int k t) "__eq__" (.ref nu)) Q E ⟨h, g, d, tk, os⟩ := by
    intro h tk hx Q hq
    unfold tryCompare
    refine wpAny_bind (wpAny_callSpecialIfBound?_slot (T := "int") (typeIs_int _ _ _) ieq_slot (wpAny_mono (narrow (inteq_run (E := fun _ _ => False) hx) hh hd hu) (fun v s hv => ?_) fun _ _ z => z.elim))
    obtain ⟨rfl, h', tk', rfl, hk⟩ := hv
    exact wpAny_pure (hq _ _ hk)
  have c2 : ∀ (h : Heap) (tk : Nat), h.get? nu = some { cls := .type "object", data := .plain } → ∀ (Q : Option Value → Shared → Prop), (∀ h' tk', (∀ b o, h.get? b = some o → h'.get? b = some o) → Q none ⟨h', g, d, tk', os⟩) → wpAny (model PySem.Challenge.pw_il0152_01 w) A (tryCompare (.ref nu) "__eq__" (.int k t)) Q E ⟨h, g, d, tk, os⟩ := by
    intro h tk hx Q hq
    unfold tryCompare
    refine wpAny_bind (wpAny_callSpecialIfBound?_slot (T := "object") ⟨_, hx, rfl⟩ oeq_slot (wpAny_mono (narrow (objeq_run (E := fun _ _ => False) hx) hh hd hu) (fun v s hv => ?_) fun _ _ z => z.elim))
    obtain ⟨rfl, h', tk', rfl, hk⟩ := hv
    exact wpAny_pure (hq _ _ hk)
  show wpAny _ _ (richCompare .Eq (.ref nu) (.int k t)) _ _ _
  unfold richCompare
  refine wpAny_holding (wpAny_bind (wpAny_cRoomFor (by have : (9900 : Nat) = cLine := by decide +kernel
                                                       lia  ) ?_))
  have e1 : oneThing? .Eq (.ref nu) (.int k t) = none := rfl
  rw [e1]
  dsimp only
  refine wpAny_bind (wpAny_typeOf (T := "object") ⟨_, hx, rfl⟩ (wpAny_bind (wpAny_typeOf (T := "int") (typeIs_int _ _ _) ?_)))
  rw [if_pos (by decide)]
  refine wpAny_bind (wpAny_of_eq sub_int_obj ?_)
  simp only [if_true, Bool.not_true, Bool.false_eq_true, if_false]
  refine wpAny_bind (c1 _ _ hx _ fun h1 tk1 k1 => ?_)
  refine wpAny_bind (c2 _ _ (k1 _ _ hx) _ fun h2 tk2 k2 => ?_)
  refine wpAny_bind (wpAny_rule ?_)
  refine wpAny_bind (wpAny_isSame_plain rfl ?_)
  exact wpAny_pure (hq _ _ fun b o e => k2 _ _ (k1 _ _ e))
end
end Mine
end
section
open PySem PySem.W PyProof.Rows PySem.Calls
set_option autoImplicit false
namespace Mine
def NulP : OP := fun o => o = { cls := .type "object", data := .plain }
inductive MV (nu : Addr) : Option Int → Value → Prop
  | int (x : Int) (t : Tok) : MV nu (some x) (.int x t)
  | nul : MV nu none (.ref nu)
def MskP (nu : Addr) (len : Nat) (f : Nat → Option Int) : OP := fun o => ∃ vs : List Value, vs.length = len ∧ (∀ k v, vs[k]? = some v → MV nu (f k) v) ∧ o.cls = .type "list" ∧ ∃ c, o.data = .seq vs.toArray c
theorem MskP.weak {nu : Addr} {len : Nat} {f f' : Nat → Option Int} {o : Obj} (x : MskP nu len f o) (h : ∀ k, k < len → f k = f' k) : MskP nu len f' o := by
  obtain ⟨vs, h1, h2, h3⟩ := x
  refine ⟨vs, h1, fun k v e => ?_, h3⟩
  obtain ⟨hk, _⟩ := List.getElem?_eq_some_iff.mp e
  rw [← h k (by lia  )]
  exact h2 k v e
theorem MskP.of {nu : Addr} {xs : List Int} {o : Obj} (x : IntsP xs o) : MskP nu xs.length (mskS xs []) o := by
  obtain ⟨vs, hi, c, rfl⟩ := x
  refine ⟨vs, hi.length, fun k v e => ?_, rfl, c, rfl⟩
  obtain ⟨y, t, h1, rfl⟩ := ints_of hi e
  rw [msk_atS h1, if_neg (by simp)]
  exact .int _ _
section
variable {prog : Program} {w : World} {A : Around} {E : Value → Shared → Prop} {h : Heap} {g : Array GenState} {d : Drawn} {tk : Nat} {os : OsState}
variable {K : Frag} {L : LT} {h₁ : Heap} {env : Env} {gl : List (Str × Value)} {al al' : AL} {m m' n n' : LT} {x : Str} {v : Value} {pos : Pos} {a b nu : Addr} {P P' : OP} {f f' : Nat → Option Int} {len : Nat}
theorem copyI {xs : List Int} {Q : Value → Shared → Prop} (S : St K L env gl al m n h) (hm : (a, IntsP xs) ∈ m ++ (n ++ L)) (hsz : xs.length ≤ 1000)
    (hq : ∀ b h', St K L env gl al m ((b, IntsP xs) :: n) h' → Q (.ref b) ⟨h', g, d, tk, os⟩) : wpAny (model prog w) A (PySem.call (.type "list") [.ref a]) Q E ⟨h, g, d, tk, os⟩ := by
  obtain ⟨_, ho, vs, hi, c, rfl⟩ := S.get hm
  have hl := hi.length
  refine call_list_seq (s := ⟨h, g, d, tk, os⟩) a (T := "list") (.inl rfl) ho rfl rfl (fun h' c' hk hn => hq _ h' ?_) (by rw [List.size_toArray]; exact fits (by lia  ))
  refine ⟨(Led.add (P := IntsP xs) S.led hk (Heap.get?_none_of_le (Nat.le_refl _)) ⟨_, hn, vs, hi, c', rfl⟩).perm ?_, S.env⟩
  show ((h.objs.size, IntsP xs) :: (env.locals, FrP al) :: (m ++ (n ++ L))).Perm ((env.locals, FrP al) :: (m ++ ((h.objs.size, IntsP xs) :: (n ++ L))))
  exact (List.Perm.swap ..).trans (.cons _ List.perm_middle.symm)
theorem St.isMsk (S : St K L env gl al m n h) (hm : (a, MskP nu len f) ∈ m ++ (n ++ L)) : ∃ vs : List Value, h.IsList a vs.toArray ∧ vs.length = len ∧ ∀ k v, vs[k]? = some v → MV nu (f k) v := by
  obtain ⟨o, ho, vs, h1, h2, hc, c, hd⟩ := S.get hm
  exact ⟨vs, ⟨_, ho, hc, c, hd⟩, h1, h2⟩
theorem gMsk {Q : Value → Shared → Prop} {value slice : PySem.Expr} {k : Nat} {t : Tok} (S : St K L env gl al m n h) (hm : (a, MskP nu len f) ∈ m ++ (n ++ L)) (hk : k < len) (hl : len ≤ 1000)
    (hq : ∀ v, MV nu (f k) v → Q v ⟨h, g, d, tk, os⟩)
    (hs : subscripted slice false (.ref a) (.int k t) = operate [.ref a, .int k t] (getItem (.ref a) (.int k t)) := by with_unfolding_all rfl) :
    wpAny (model prog w) A (subscriptTail value slice (.ref a) (.int k t)) Q E ⟨h, g, d, tk, os⟩ := by
  obtain ⟨vs, hL, h1, h2⟩ := S.isMsk hm
  obtain ⟨v, hv⟩ : ∃ v, vs[k]? = some v := ⟨_, List.getElem?_eq_getElem (by lia  )⟩
  exact tail_any hL.typeIs slot_list_getitem.lookup (wpAny_getItem_list hL (by lia  ) (by lia  ) (by rw [List.getElem?_toArray]; exact hv) (hq v (h2 k v hv))) hs
theorem setMsk {Q : Unit → Shared → Prop} {k : Nat} {t : Tok} (S : St K L env gl al m n h) (hm : (a, MskP nu len f) ∈ m) (hk : k < len) (hl : len ≤ 1000) (U : Up a (MskP nu len f') m m') (hf : ∀ i, i < len → (if i = k then none else f i) = f' i)
    (hq : ∀ h', St K L env gl al m' n h' → Q () ⟨h', g, d, tk, os⟩) : wpAny (model prog w) A (setItem (.ref a) (.int (k : Nat) t) (.ref nu)) Q E ⟨h, g, d, tk, os⟩ := by
  obtain ⟨o, ho, vs, h1, h2, hc, c, hd⟩ := S.get (List.mem_append_left _ hm)
  refine wpAny_setItem_list (s := ⟨h, g, d, tk, os⟩) (l := a) (items := vs.toArray) ⟨_, ho, hc, c, hd⟩ (by lia  ) (by lia  ) (by rw [List.size_toArray]; lia  ) fun h' hL hs => hq h' (S.up U (fun b o hb e => (hs.2 b hb).trans e) ?_)
  obtain ⟨o', ho', hc', c', hd'⟩ := hL
  refine ⟨o', ho', vs.set k (.ref nu), by rw [List.length_set]; exact h1, fun i v e => ?_, hc', c', ?_⟩
  · rw [List.getElem?_set] at e
    by_cases q : k = i
    · subst q
      rw [if_pos rfl, if_pos (by lia  )] at e
      cases e
      rw [← hf k hk, if_pos rfl]
      exact .nul
    · rw [if_neg q] at e
      obtain ⟨hi, _⟩ := List.getElem?_eq_some_iff.mp e
      rw [← hf i (by lia  ), if_neg (fun z => q z.symm)]
      exact h2 i v e
  · rw [hd']
    congr 1
    apply Array.toList_inj.mp
    simp
end
end Mine
end
section
open PySem PySem.W PyProof.Rows PySem.Calls
set_option autoImplicit false
namespace Mine
theorem newNul {w : World} {A : Around} {E : Value → Shared → Prop} {h : Heap} {g : Array GenState} {d : Drawn} {tk : Nat} {os : OsState} {L : LT} {h₁ : Heap} {env : Env} {gl : List (Str × Value)} {al : AL} {m n : LT} {Q : Value → Shared → Prop} (S : St (K w.params) L env gl al m n h) (B : Bs (K w.params) h₁ L) (hh : A.handled = none) (hd : A.depth ≤ 500) (hu : A.units ≤ 5000)
    (hq : ∀ r h' tk', St (K w.params) L env gl al m ((r, NulP) :: n) h' → Q (.ref r) ⟨h', g, d, tk', os⟩) : wpAny (model PySem.Challenge.pw_il0152_01 w) A (PySem.call (.type "object") []) Q E ⟨h, g, d, tk, os⟩ := by
  refine wpAny_mono (narrow (obj_run (E := fun _ _ => False) (B.K.keeps (S.kb B))) hh hd hu) (fun v s hr => ?_) fun _ _ z => z.elim
  obtain ⟨a, h', tk', o, rfl, rfl, h1, h2, h3, h4⟩ := hr
  exact hq _ _ _ (S.ofRow h1 h2 h3 h4)
theorem St.isML {K : Frag} {L : LT} {env : Env} {gl : List (Str × Value)} {al : AL} {m n : LT} {h : Heap} {a nu : Addr} {len : Nat} {f : Nat → Option Int} (S : St K L env gl al m n h) (hm : (a, MskP nu len f) ∈ m ++ (n ++ L)) : ∃ vs : List Value, h.IsList a vs.toArray := by
  obtain ⟨vs, h, _⟩ := S.isMsk hm; exact ⟨vs, h⟩
abbrev glCd : List (Str × Value) := [("list", .type "list"), ("len", .builtin "len"), ("object", .type "object"), ("enumerate", .type "enumerate"), ("range", .type "range"), ("_Mismatch", .ref 142)]
def nmCd : List Str := ["actual", "expected", "s", "t", "m", "n", "NULL", "result", "i", "elem", "cnt_s", "cnt_t", "j", "other_elem", "diff"]
abbrev alCd (actual expected s t m n nul result i elem cnts cntt j other diff : Option Value) : AL :=
  [("actual", actual), ("expected", expected), ("s", s), ("t", t), ("m", m), ("n", n), ("NULL", nul), ("result", result), ("i", i), ("elem", elem), ("cnt_s", cnts), ("cnt_t", cntt), ("j", j), ("other_elem", other), ("diff", diff)]
inductive OkCd (xs ys : List Int) (n : LT) (v : Value) : Prop
  | mk (r : Addr) (vs : List Value) (e : v = .ref r) (h1 : (r, ListP vs) ∈ n) (h2 : RowsIn (.ref 142) n vs (crows xs ys [] (xs ++ ys)))
section
variable (a1 a2 sl tl nu rs : Addr) (xs ys : List Int)
inductive K11a (Mt Ms : OP) (R : List (List Sc)) (al : AL) (m n : LT) : Prop
  | mk (vs : List Value) (tm tn : Tok) (x1 x2 x3 x4 x5 x6 x7 : Option Value) (e1 : al = alCd (some (.ref a1)) (some (.ref a2)) (some (.ref sl)) (some (.ref tl)) (some (.int xs.length tm)) (some (.int ys.length tn)) (some (.ref nu)) (some (.ref rs)) x1 x2 x3 x4 x5 x6 x7) (e2 : m = [(rs, ListP vs), (tl, Mt), (sl, Ms)]) (hn : (nu, NulP) ∈ n) (hw : RowsIn (.ref 142) n vs R)
variable (p q : Addr × OP) (vs : List Value) (Mt Ms : OP) (i : Nat) (y : Int) (R : List (List Sc))
inductive K11b (C : Nat) (al : AL) (m n : LT) : Prop
  | mk (cn : Nat) (tc td ti tx tm tn : Tok) (x3 x6 x7 : Option Value) (e1 : al = alCd (some (.ref a1)) (some (.ref a2)) (some (.ref sl)) (some (.ref tl)) (some (.int xs.length tm)) (some (.int ys.length tn)) (some (.ref nu)) (some (.ref rs)) (some (.int i ti)) (some (.int y tx)) (some (.int cn tc)) (some (.int 0 td)) x3 x6 x7) (e2 : m = [p, q, (rs, ListP vs), (tl, Mt), (sl, Ms)]) (hn : (nu, NulP) ∈ n) (hw : RowsIn (.ref 142) n vs R) (hc : cn = C)
inductive K11c (cn : Nat) (C : Nat) (al : AL) (m n : LT) : Prop
  | mk (ct : Nat) (tc td ti tx tm tn : Tok) (x3 x6 x7 : Option Value) (e1 : al = alCd (some (.ref a1)) (some (.ref a2)) (some (.ref sl)) (some (.ref tl)) (some (.int xs.length tm)) (some (.int ys.length tn)) (some (.ref nu)) (some (.ref rs)) (some (.int i ti)) (some (.int y tx)) (some (.int cn tc)) (some (.int ct td)) x3 x6 x7) (e2 : m = [p, q, (rs, ListP vs), (tl, Mt), (sl, Ms)]) (hn : (nu, NulP) ∈ n) (hw : RowsIn (.ref 142) n vs R) (hc : ct = C)
inductive K11e (C : Nat) (al : AL) (m n : LT) : Prop
  | mk (ct : Nat) (td ti tx tm tn : Tok) (x1 x3 x6 x7 : Option Value) (e1 : al = alCd (some (.ref a1)) (some (.ref a2)) (some (.ref sl)) (some (.ref tl)) (some (.int xs.length tm)) (some (.int ys.length tn)) (some (.ref nu)) (some (.ref rs)) (some (.int i ti)) (some (.int y tx)) x1 (some (.int ct td)) x3 x6 x7) (e2 : m = [p, q, (rs, ListP vs), (tl, Mt), (sl, Ms)]) (hn : (nu, NulP) ∈ n) (hw : RowsIn (.ref 142) n vs R) (hc : ct = C)
end
theorem diff_does {w : World} {h₁ : Heap} {a1 a2 : Addr} {xs ys : List Int} {L : LT} (B : Bs (K w.params) h₁ L) (m1 : (a1, IntsP xs) ∈ L) (m2 : (a2, IntsP ys) ∈ L) (h7 : xs.length ≤ 100) (h8 : ys.length ≤ 100) :
    Does PySem.Challenge.pw_il0152_01 w L 5 (.ref 152) [.ref a1, .ref a2]
      (OkCd xs ys) := by
  refine enter B (f := 152) (name := _) (qual := _) (params := _) (body := _) (scope := _) (dV := _) (kV := _) (doc := _) (pm := _) (cdv := _) (ct := _) (oc := _) (an := _) (od := _) (osl := _) rfl (by rfl) glCd
    (alCd (some (.ref a1)) (some (.ref a2)) none none none none none none none none none none none none none) nmCd rfl
    [("actual", .ref a1), ("expected", .ref a2)] (fun s _ => BindsTo.of_eq rfl) (fun L' => ?_) ?_ (by kernel_rfl!) (by lia  ) ?_
  case refine_1 => exact ⟨rfl, rfl, rfl, by rfl, by decide +kernel, ⟨rfl, .inr ⟨by rfl, by rfl, by decide +kernel⟩⟩, ⟨rfl, .inr ⟨by rfl, by rfl, by decide +kernel⟩⟩, ⟨rfl, .inr ⟨by rfl, by rfl, by decide +kernel⟩⟩, ⟨rfl, .inr ⟨by rfl, by rfl, by decide +kernel⟩⟩, ⟨rfl, .inr ⟨by rfl, by rfl, by decide +kernel⟩⟩, ⟨rfl, .inl (by rfl)⟩, trivial⟩
  case refine_2 => exact hal_of (binds := [("actual", .ref a1), ("expected", .ref a2)]) (ns := nmCd.drop 2) (by show (nmCd.take 2).Nodup; decide +kernel)
  intro A h g d tk os E env Q RM henv G S
  have hh := RM.hh
  refine xExpr (by assumption) ?_
  with_reducible refine cS fun _ _ => ?_
  refine xSwap ["s", "t"] henv ?_
  refine spC ?_
  refine eCallT (by assumption) (by assumption) (by with_reducible exact Mine.at0) ?_
  refine spC ?_
  refine St.ld (by assumption) (by with_reducible exact Mine.at0) ?_
  with_reducible refine spN ?_
  refine copyI (xs := xs) (by assumption) (by (with_reducible refine List.mem_append_right _ ?_; (with_reducible refine List.mem_append_right _ ?_; with_reducible assumption))) (by lia  ) fun sl h' S => ?_
  have S := S.promote
  refine spC ?_
  refine eCallT (by assumption) (by assumption) (by with_reducible exact Mine.at0) ?_
  refine spC ?_
  refine St.ld (by assumption) (by with_reducible exact Mine.at1) ?_
  with_reducible refine spN ?_
  refine copyI (xs := ys) (by assumption) (by (with_reducible refine List.mem_append_right _ ?_; (with_reducible refine List.mem_append_right _ ?_; with_reducible assumption))) (by lia  ) fun tl h' S => ?_
  have S := S.promote
  with_reducible refine spN ?_
  refine newTupUnpack (by assumption) (by assumption) rfl fun _ _ => ?_
  refine asgN ?_
  refine St.st (by assumption) (by with_reducible exact Mine.put3) fun _ _ _ => ?_
  refine asgN ?_
  refine St.st (by assumption) (by with_reducible exact Mine.put2) fun _ _ _ => ?_
  refine assignInOrder_nil ?_
  refine xSwap ["m", "n"] henv ?_
  refine spC ?_
  refine eCallB (by assumption) (by assumption) (by with_reducible exact Mine.at1) ?_
  refine spC ?_
  refine St.ld (by assumption) (by with_reducible exact Mine.at2) ?_
  with_reducible refine spN ?_
  refine lenI (xs := xs) (by assumption) (by (with_reducible refine List.mem_append_left _ ?_; (with_reducible refine List.mem_cons_of_mem _ ?_; with_reducible exact List.mem_cons_self))) (by lia  ) fun _ _ => ?_
  refine spC ?_
  refine eCallB (by assumption) (by assumption) (by with_reducible exact Mine.at1) ?_
  refine spC ?_
  refine St.ld (by assumption) (by with_reducible exact Mine.at3) ?_
  with_reducible refine spN ?_
  refine lenI (xs := ys) (by assumption) (by (with_reducible refine List.mem_append_left _ ?_; with_reducible exact List.mem_cons_self)) (by lia  ) fun _ _ => ?_
  with_reducible refine spN ?_
  refine newTupUnpack (by assumption) (by assumption) rfl fun _ _ => ?_
  refine asgN ?_
  refine St.st (by assumption) (by with_reducible exact Mine.put5) fun _ _ _ => ?_
  refine asgN ?_
  refine St.st (by assumption) (by with_reducible exact Mine.put4) fun _ _ _ => ?_
  refine assignInOrder_nil ?_
  refine xAssign ?_
  refine eCallT0 (by assumption) (by assumption) (by with_reducible exact Mine.at2) ?_
  refine newNul (by assumption) B hh RM.d5 RM.u5 fun nu h' tk' S => ?_
  refine St.st (by assumption) (by with_reducible exact Mine.put6) fun _ _ _ => ?_
  refine xAssign ?_
  with_reducible refine List_ ?_
  with_reducible refine spN ?_
  refine newLstS (by assumption) fun rs h' S => ?_
  have S := S.promote
  have S := S.weakM (a := tl) (P := IntsP ys) (P' := MskP nu ys.length (mskS ys [])) (by (with_reducible refine List.mem_cons_of_mem _ ?_; with_reducible exact List.mem_cons_self)) (.tail .head) fun o => MskP.of
  have S := S.weakM (a := sl) (P := IntsP xs) (P' := MskP nu xs.length (mskS xs [])) (by (with_reducible refine List.mem_cons_of_mem _ ?_; (with_reducible refine List.mem_cons_of_mem _ ?_; with_reducible exact List.mem_cons_self))) (.tail (.tail .head)) fun o => MskP.of
  have hnu : ∀ {h : Heap} {al m n} (S : St (K w.params) L env glCd al m n h), (nu, NulP) ∈ m ++ (n ++ L) → h.get? nu = some { cls := .type "object", data := .plain } := fun S hm => by
    obtain ⟨_, e, rfl⟩ := S.get hm; exact e
  refine St.st (by assumption) (by with_reducible exact Mine.put7) fun _ _ _ => ?_
  refine xFor ?_
  refine eCallT (by assumption) (by assumption) (by with_reducible exact Mine.at3) ?_
  refine spC ?_
  refine St.ld (by assumption) (by with_reducible exact Mine.at2) ?_
  with_reducible refine spN ?_
  refine call_enum (by assumption) (St.isML (nu := nu) (len := xs.length) (f := mskS xs []) (by assumption) (by (with_reducible refine List.mem_append_left _ ?_; (with_reducible refine List.mem_cons_of_mem _ ?_; (with_reducible refine List.mem_cons_of_mem _ ?_; with_reducible exact List.mem_cons_self))))) fun e it h' S => ?_
  refine iter_enum S ?_
  refine forEnum (len := xs.length) (fun i => K11a a1 a2 sl tl nu rs xs ys (MskP nu ys.length (mskS ys (xs.take i))) (MskP nu xs.length (mskS xs (xs.take i))) (crows xs ys [] (xs.take i))) (fun i al m n v => MV nu (mskS xs (xs.take i) i) v) hh S
      ⟨[], _, _, _, _, _, _, _, _, _, rfl, rfl, by with_reducible exact List.mem_cons_self, .nil⟩ rfl rfl ?_ ?_ ?_
  · rintro i al m n h p q ⟨vs, tm, tn, x1, x2, x3, x4, x5, x6, x7, rfl, rfl, hn, hw⟩ S
    obtain ⟨us, u1, u2, u3⟩ := St.isMsk (a := sl) (nu := nu) (len := xs.length) (f := mskS xs (xs.take i)) S (by (with_reducible refine List.mem_append_left _ ?_; (with_reducible refine List.mem_cons_of_mem _ ?_; (with_reducible refine List.mem_cons_of_mem _ ?_; (with_reducible refine List.mem_cons_of_mem _ ?_; (with_reducible refine List.mem_cons_of_mem _ ?_; with_reducible exact List.mem_cons_self))))))
    exact ⟨us, u1, u2, u3 i⟩
  · rintro i al m n h tk t p q E v Q1 hi hv ⟨vs, tm, tn, x1, x2, x3, x4, x5, x6, x7, rfl, rfl, hn, hw⟩ hN1 hB1 hR1 S
    obtain ⟨y, hy⟩ : ∃ y, xs[i]? = some y := ⟨_, List.getElem?_eq_getElem hi⟩
    have hst : xs.take (i + 1) = xs.take i ++ [y] := by rw [List.take_add_one, hy]; rfl
    have hcl := crows_len xs ys (xs.take i) []
    have htl : (xs.take i).length ≤ 100 := by rw [List.length_take]; lia  
    have hvl := hw.length
    rw [msk_atS hy] at hv
    by_cases c : y ∈ xs.take i
    · rw [if_pos c] at hv
      cases hv
      have same : ∀ z, z ∈ xs.take (i + 1) ↔ z ∈ xs.take i := fun z => by
        rw [hst, List.mem_append, List.mem_singleton]
        exact ⟨fun h => h.elim id fun h => h ▸ c, .inl⟩
      refine assignInOrder_cons (assign_Name ?_)
      refine St.st (by assumption) (by with_reducible exact Mine.put8) fun _ _ _ => ?_
      refine assignInOrder_cons (assign_Name ?_)
      refine St.st (by assumption) (by with_reducible exact Mine.put9) fun _ _ _ => ?_
      refine assignInOrder_nil ?_
      refine xIf ?_
      refine wpAny_isTrue_Compare1 ?_
      refine St.ld (by assumption) (by with_reducible exact Mine.at9) ?_
      refine St.ld (by assumption) (by with_reducible exact Mine.at6) ?_
      refine wpAny_is_ref_self ?_
      with_reducible refine wpAny_truthy_bool ?_
      refine ifT ?_
      with_reducible refine appC ?_
      with_reducible refine xCont ?_
      rename_i S1
      have S2 := S1.weakM (a := tl) (P := MskP nu ys.length (mskS ys (xs.take i))) (P' := MskP nu ys.length (mskS ys (xs.take (i + 1)))) (by (with_reducible refine List.mem_cons_of_mem _ ?_; (with_reducible refine List.mem_cons_of_mem _ ?_; (with_reducible refine List.mem_cons_of_mem _ ?_; with_reducible exact List.mem_cons_self)))) (.tail (.tail (.tail .head))) fun o x => x.weak fun k _ => msk_same _ _ _ k same
      have S3 := S2.weakM (a := sl) (P := MskP nu xs.length (mskS xs (xs.take i))) (P' := MskP nu xs.length (mskS xs (xs.take (i + 1)))) (by (with_reducible refine List.mem_cons_of_mem _ ?_; (with_reducible refine List.mem_cons_of_mem _ ?_; (with_reducible refine List.mem_cons_of_mem _ ?_; (with_reducible refine List.mem_cons_of_mem _ ?_; with_reducible exact List.mem_cons_self))))) (.tail (.tail (.tail (.tail .head)))) fun o x => x.weak fun k _ => msk_same _ _ _ k same
      refine (hN1 _ _ _ _ _ ⟨vs, _, _, _, _, _, _, _, _, _, rfl, rfl, hn, ?_⟩ S3).2
      rw [hst, crows_snoc, List.nil_append, crow, if_neg (fun d => d.1 c), List.append_nil]; exact hw
    · rw [if_neg c] at hv
      cases hv
      refine assignInOrder_cons (assign_Name ?_)
      refine St.st (by assumption) (by with_reducible exact Mine.put8) fun _ _ _ => ?_
      refine assignInOrder_cons (assign_Name ?_)
      refine St.st (by assumption) (by with_reducible exact Mine.put9) fun _ _ _ => ?_
      refine assignInOrder_nil ?_
      refine xIf ?_
      refine wpAny_isTrue_Compare1 ?_
      refine St.ld (by assumption) (by with_reducible exact Mine.at9) ?_
      refine St.ld (by assumption) (by with_reducible exact Mine.at6) ?_
      refine wpAny_is_other rfl (by simp) ?_
      with_reducible refine wpAny_truthy_bool ?_
      refine ifF ?_
      with_reducible refine appN ?_
      refine xTwo ?_
      with_reducible refine cI fun _ _ => ?_
      with_reducible refine assign_Name ?_
      refine St.st (by assumption) (by with_reducible exact Mine.put10) fun _ _ _ => ?_
      with_reducible refine assign_Name ?_
      refine St.st (by assumption) (by with_reducible exact Mine.put11) fun _ _ _ => ?_
      refine xFor ?_
      refine eCallT (by assumption) (by assumption) (by with_reducible exact Mine.at4) ?_
      refine spC ?_
      refine St.ld (by assumption) (by with_reducible exact Mine.at8) ?_
      refine spC ?_
      refine St.ld (by assumption) (by with_reducible exact Mine.at4) ?_
      with_reducible refine spN ?_
      refine call_range (by assumption) fun _ _ _ _ => ?_
      rename_i S1
      have S2 := S1.weakM (a := sl) (P := MskP nu xs.length (mskS xs (xs.take i))) (P' := MskP nu xs.length (mskF xs (xs.take i) y i)) (by (with_reducible refine List.mem_cons_of_mem _ ?_; (with_reducible refine List.mem_cons_of_mem _ ?_; (with_reducible refine List.mem_cons_of_mem _ ?_; (with_reducible refine List.mem_cons_of_mem _ ?_; with_reducible exact List.mem_cons_self))))) (.tail (.tail (.tail (.tail .head)))) fun o x => x.weak fun k _ => msk_start _ _ _ _ k fun _ h => h
      clear S1
      refine iter_range S2 (by (with_reducible refine List.mem_append_right _ ?_; (with_reducible refine List.mem_append_left _ ?_; with_reducible exact List.mem_cons_self))) (by lia  ) (by lia  ) (by lia  ) fun it1 h' S => ?_
      refine forRange (fun j => K11b a1 a2 sl tl nu rs xs ys p q vs (MskP nu ys.length (mskS ys (xs.take i))) (MskP nu xs.length (mskF xs (xs.take i) y j.toNat)) i y (crows xs ys [] (xs.take i)) ((xs.take j.toNat).count y)) hh (by lia  ) S
        ⟨0, _, _, _, _, _, _, _, _, _, rfl, rfl, by (with_reducible refine List.mem_cons_of_mem _ ?_; with_reducible assumption), hw.mono fun p hp => by (with_reducible refine List.mem_cons_of_mem _ ?_; with_reducible assumption), ?_⟩ ?_ ?_
      · rw [Int.toNat_natCast]; exact (List.count_eq_zero.mpr c).symm
      · rintro j al m n h tk t2 p2 E2 Q2 j1 j2 ⟨cn, tc, td, ti, tx, tm, tn, x3, x6, x7, rfl, rfl, hn, hw, hc⟩ hN2 hB2 hR2 S
        obtain ⟨j, rfl⟩ := Int.eq_ofNat_of_zero_le (show 0 ≤ j by lia  )
        rw [show ((j : Int) + 1) = ((j + 1 : Nat) : Int) by lia  ] at hN2
        simp only [Int.toNat_natCast] at hc hN2 S
        obtain ⟨z, hz⟩ : ∃ z, xs[j]? = some z := ⟨_, List.getElem?_eq_getElem (by lia  )⟩
        have hcs := count_step (x := y) hz
        with_reducible refine assign_Name ?_
        refine St.st (by assumption) (by with_reducible exact Mine.put12) fun _ _ _ => ?_
        refine xIf ?_
        refine wpAny_isTrue_Compare1 ?_
        with_reducible refine Subscript_ ?_
        refine St.ld (by assumption) (by with_reducible exact Mine.at2) ?_
        refine St.ld (by assumption) (by with_reducible exact Mine.at12) ?_
        refine gMsk (k := j) (nu := nu) (len := xs.length) (f := mskF xs (xs.take i) y j) (by assumption) (by (with_reducible refine List.mem_append_left _ ?_; (with_reducible refine List.mem_cons_of_mem _ ?_; (with_reducible refine List.mem_cons_of_mem _ ?_; (with_reducible refine List.mem_cons_of_mem _ ?_; (with_reducible refine List.mem_cons_of_mem _ ?_; (with_reducible refine List.mem_cons_of_mem _ ?_; with_reducible exact List.mem_cons_self))))))) (by lia  ) (by lia  ) fun v hv => ?_
        rw [msk_at hz] at hv
        by_cases c2 : z ∈ xs.take i
        · rw [if_pos c2] at hv
          cases hv
          refine St.ld (by assumption) (by with_reducible exact Mine.at9) ?_
          refine objEq (hnu (by assumption) (by (with_reducible refine List.mem_append_right _ ?_; (with_reducible refine List.mem_append_left _ ?_; with_reducible assumption)))) hh RM.d5 RM.u5 fun h' tk' hk => ?_
          with_reducible refine wpAny_truthy_bool ?_
          refine ifF ?_
          with_reducible refine appN ?_
          refine xEnd (hN2 _ _ _ _ _ ⟨cn, _, _, _, _, _, _, _, _, _, rfl, rfl, hn, hw, by rw [hcs, if_neg (show ¬ z = y from fun e => c (by rw [← e]; exact c2))]; exact hc⟩ (St.weakM (a := sl) (P := MskP nu xs.length (mskF xs (xs.take i) y j)) (St.grown (by assumption) hk) (by (with_reducible refine List.mem_cons_of_mem _ ?_; (with_reducible refine List.mem_cons_of_mem _ ?_; (with_reducible refine List.mem_cons_of_mem _ ?_; (with_reducible refine List.mem_cons_of_mem _ ?_; (with_reducible refine List.mem_cons_of_mem _ ?_; with_reducible exact List.mem_cons_self)))))) (.tail (.tail (.tail (.tail (.tail .head))))) fun o x => x.weak fun k _ => msk_skip hz (.inl c2) k)).1
        · rw [if_neg c2] at hv
          cases hv
          refine St.ld (by assumption) (by with_reducible exact Mine.at9) ?_
          with_reducible refine tEq ?_
          refine ifE (fun ez => ?_) fun ez => ?_
          · subst ez
            with_reducible refine appC ?_
            refine xAugI (by assumption) (by with_reducible exact Mine.at10) (by exact EvI.ct) (fun _ => by with_reducible exact Mine.put10) fun _ _ _ _ => ?_
            with_reducible refine appC ?_
            refine xSub ?_
            refine St.ld (by assumption) (by with_reducible exact Mine.at6) ?_
            refine St.ld (by assumption) (by with_reducible exact Mine.at2) ?_
            refine St.ld (by assumption) (by with_reducible exact Mine.at12) ?_
            refine setMsk (k := j) (nu := nu) (len := xs.length) (f := mskF xs (xs.take i) z j) (f' := mskF xs (xs.take i) z (j + 1)) (by assumption) (by (with_reducible refine List.mem_cons_of_mem _ ?_; (with_reducible refine List.mem_cons_of_mem _ ?_; (with_reducible refine List.mem_cons_of_mem _ ?_; (with_reducible refine List.mem_cons_of_mem _ ?_; (with_reducible refine List.mem_cons_of_mem _ ?_; with_reducible exact List.mem_cons_self)))))) (by lia  ) (by lia  ) (.tail (.tail (.tail (.tail (.tail .head))))) (fun i _ => msk_put hz i) fun h' S => ?_
            with_reducible refine appN ?_
            exact xEnd (hN2 _ _ _ _ _ ⟨cn + 1, _, _, _, _, _, _, _, _, _, rfl, rfl, hn, hw, by rw [hcs, if_pos rfl, hc]⟩ S).1
          · with_reducible refine appN ?_
            exact xEnd (hN2 _ _ _ _ _ ⟨cn, _, _, _, _, _, _, _, _, _, rfl, rfl, hn, hw, by rw [hcs, if_neg ez]; exact hc⟩ (St.weakM (a := sl) (P := MskP nu xs.length (mskF xs (xs.take i) y j)) (by assumption) (by (with_reducible refine List.mem_cons_of_mem _ ?_; (with_reducible refine List.mem_cons_of_mem _ ?_; (with_reducible refine List.mem_cons_of_mem _ ?_; (with_reducible refine List.mem_cons_of_mem _ ?_; (with_reducible refine List.mem_cons_of_mem _ ?_; with_reducible exact List.mem_cons_self)))))) (.tail (.tail (.tail (.tail (.tail .head))))) fun o x => x.weak fun k _ => msk_skip hz (.inr ez) k)).1
      · rintro al m n h tk ⟨cn, tc, td, ti, tx, tm, tn, x3, x6, x7, rfl, rfl, hn, hw, hc⟩ S
        simp only [Int.toNat_natCast, List.take_length] at hc S
        have more : ∀ z, z ∈ xs.take (i + 1) ↔ z ∈ xs.take i ∨ z = y := fun z => by rw [hst, List.mem_append, List.mem_singleton]
        have S := S.weakM (a := sl) (P := MskP nu xs.length (mskF xs (xs.take i) y xs.length)) (P' := MskP nu xs.length (mskS xs (xs.take (i + 1)))) (by (with_reducible refine List.mem_cons_of_mem _ ?_; (with_reducible refine List.mem_cons_of_mem _ ?_; (with_reducible refine List.mem_cons_of_mem _ ?_; (with_reducible refine List.mem_cons_of_mem _ ?_; with_reducible exact List.mem_cons_self))))) (.tail (.tail (.tail (.tail .head)))) fun o x => x.weak fun k _ => msk_end xs _ _ y k more
        have S := S.weakM (a := tl) (P := MskP nu ys.length (mskS ys (xs.take i))) (P' := MskP nu ys.length (mskF ys (xs.take i) y 0)) (by (with_reducible refine List.mem_cons_of_mem _ ?_; (with_reducible refine List.mem_cons_of_mem _ ?_; (with_reducible refine List.mem_cons_of_mem _ ?_; with_reducible exact List.mem_cons_self)))) (.tail (.tail (.tail .head))) fun o x => x.weak fun k _ => msk_start0 ys _ y k
        refine xFor ?_
        refine eCallT (by assumption) (by assumption) (by with_reducible exact Mine.at3) ?_
        refine spC ?_
        refine St.ld (by assumption) (by with_reducible exact Mine.at3) ?_
        with_reducible refine spN ?_
        refine call_enum S (St.isML (nu := nu) (len := ys.length) (f := mskF ys (xs.take i) y 0) S (by (with_reducible refine List.mem_append_left _ ?_; (with_reducible refine List.mem_cons_of_mem _ ?_; (with_reducible refine List.mem_cons_of_mem _ ?_; (with_reducible refine List.mem_cons_of_mem _ ?_; with_reducible exact List.mem_cons_self)))))) fun e2 it2 h' S => ?_
        refine iter_enum S ?_
        refine forEnum (len := ys.length) (fun j => K11c a1 a2 sl tl nu rs xs ys p q vs (MskP nu ys.length (mskF ys (xs.take i) y j)) (MskP nu xs.length (mskS xs (xs.take (i + 1)))) i y (crows xs ys [] (xs.take i)) cn ((ys.take j).count y)) (fun j al m n v => MV nu (mskF ys (xs.take i) y j j) v) hh S
          ⟨0, _, _, _, _, _, _, _, _, _, rfl, rfl, hn, hw, by simp⟩ rfl rfl ?_ ?_ ?_
        · rintro j al m n h p2 q2 ⟨ct, tc, td, ti, tx, tm, tn, x3, x6, x7, rfl, rfl, hn, hw, hct⟩ S
          obtain ⟨us, u1, u2, u3⟩ := St.isMsk (a := tl) (nu := nu) (len := ys.length) (f := mskF ys (xs.take i) y j) S (by (with_reducible refine List.mem_append_left _ ?_; (with_reducible refine List.mem_cons_of_mem _ ?_; (with_reducible refine List.mem_cons_of_mem _ ?_; (with_reducible refine List.mem_cons_of_mem _ ?_; (with_reducible refine List.mem_cons_of_mem _ ?_; (with_reducible refine List.mem_cons_of_mem _ ?_; with_reducible exact List.mem_cons_self)))))))
          exact ⟨us, u1, u2, u3 j⟩
        · rintro j al m n h tk t2 p2 q2 E2 v Q2 hj hv ⟨ct, tc, td, ti, tx, tm, tn, x3, x6, x7, rfl, rfl, hn, hw, hct⟩ hN2 hB2 hR2 S
          obtain ⟨z, hz⟩ : ∃ z, ys[j]? = some z := ⟨_, List.getElem?_eq_getElem (by lia  )⟩
          have hcs := count_step (x := y) hz
          rw [msk_at hz] at hv
          by_cases c2 : z ∈ xs.take i
          · rw [if_pos c2] at hv
            cases hv
            refine assignInOrder_cons (assign_Name ?_)
            refine St.st (by assumption) (by with_reducible exact Mine.put12) fun _ _ _ => ?_
            refine assignInOrder_cons (assign_Name ?_)
            refine St.st (by assumption) (by with_reducible exact Mine.put13) fun _ _ _ => ?_
            refine assignInOrder_nil ?_
            refine xIf ?_
            refine wpAny_isTrue_Compare1 ?_
            refine St.ld (by assumption) (by with_reducible exact Mine.at13) ?_
            refine St.ld (by assumption) (by with_reducible exact Mine.at9) ?_
            refine objEq (hnu (by assumption) (by (with_reducible refine List.mem_append_right _ ?_; (with_reducible refine List.mem_append_left _ ?_; with_reducible assumption)))) hh RM.d5 RM.u5 fun h' tk' hk => ?_
            with_reducible refine wpAny_truthy_bool ?_
            refine ifF ?_
            with_reducible refine appN ?_
            refine xEnd (hN2 _ _ _ _ _ ⟨ct, _, _, _, _, _, _, _, _, _, rfl, rfl, hn, hw, by rw [hcs, if_neg (show ¬ z = y from fun e => c (by rw [← e]; exact c2))]; exact hct⟩ (St.weakM (a := tl) (P := MskP nu ys.length (mskF ys (xs.take i) y j)) (St.grown (by assumption) hk) (by (with_reducible refine List.mem_cons_of_mem _ ?_; (with_reducible refine List.mem_cons_of_mem _ ?_; (with_reducible refine List.mem_cons_of_mem _ ?_; (with_reducible refine List.mem_cons_of_mem _ ?_; (with_reducible refine List.mem_cons_of_mem _ ?_; with_reducible exact List.mem_cons_self)))))) (.tail (.tail (.tail (.tail (.tail .head))))) fun o x => x.weak fun k _ => msk_skip hz (.inl c2) k)).1
          · rw [if_neg c2] at hv
            cases hv
            refine assignInOrder_cons (assign_Name ?_)
            refine St.st (by assumption) (by with_reducible exact Mine.put12) fun _ _ _ => ?_
            refine assignInOrder_cons (assign_Name ?_)
            refine St.st (by assumption) (by with_reducible exact Mine.put13) fun _ _ _ => ?_
            refine assignInOrder_nil ?_
            refine xIf ?_
            with_reducible refine nCmp (by assumption) (by with_reducible exact Mine.at13) (by with_reducible exact Mine.at9) (by with_unfolding_all exact rfl) ?_
            refine ifE (fun ez => ?_) fun ez => ?_
            · subst ez
              with_reducible refine appC ?_
              refine xAugI (by assumption) (by with_reducible exact Mine.at11) (by exact EvI.ct) (fun _ => by with_reducible exact Mine.put11) fun _ _ _ _ => ?_
              with_reducible refine appC ?_
              refine xSub ?_
              refine St.ld (by assumption) (by with_reducible exact Mine.at6) ?_
              refine St.ld (by assumption) (by with_reducible exact Mine.at3) ?_
              refine St.ld (by assumption) (by with_reducible exact Mine.at12) ?_
              refine setMsk (k := j) (nu := nu) (len := ys.length) (f := mskF ys (xs.take i) z j) (f' := mskF ys (xs.take i) z (j + 1)) (by assumption) (by (with_reducible refine List.mem_cons_of_mem _ ?_; (with_reducible refine List.mem_cons_of_mem _ ?_; (with_reducible refine List.mem_cons_of_mem _ ?_; (with_reducible refine List.mem_cons_of_mem _ ?_; (with_reducible refine List.mem_cons_of_mem _ ?_; with_reducible exact List.mem_cons_self)))))) (by lia  ) (by lia  ) (.tail (.tail (.tail (.tail (.tail .head))))) (fun i _ => msk_put hz i) fun h' S => ?_
              with_reducible refine appN ?_
              exact xEnd (hN2 _ _ _ _ _ ⟨ct + 1, _, _, _, _, _, _, _, _, _, rfl, rfl, hn, hw, by rw [hcs, if_pos rfl, hct]⟩ S).1
            · with_reducible refine appN ?_
              exact xEnd (hN2 _ _ _ _ _ ⟨ct, _, _, _, _, _, _, _, _, _, rfl, rfl, hn, hw, by rw [hcs, if_neg ez]; exact hct⟩ (St.weakM (a := tl) (P := MskP nu ys.length (mskF ys (xs.take i) y j)) (by assumption) (by (with_reducible refine List.mem_cons_of_mem _ ?_; (with_reducible refine List.mem_cons_of_mem _ ?_; (with_reducible refine List.mem_cons_of_mem _ ?_; (with_reducible refine List.mem_cons_of_mem _ ?_; (with_reducible refine List.mem_cons_of_mem _ ?_; with_reducible exact List.mem_cons_self)))))) (.tail (.tail (.tail (.tail (.tail .head))))) fun o x => x.weak fun k _ => msk_skip hz (.inr ez) k)).1
        · rintro al m n h tk ⟨ct, tc, td, ti, tx, tm, tn, x3, x6, x7, rfl, rfl, hn, hw, hct⟩ S
          have S := S.weakM (a := tl) (P := MskP nu ys.length (mskF ys (xs.take i) y ys.length)) (P' := MskP nu ys.length (mskS ys (xs.take (i + 1)))) (by (with_reducible refine List.mem_cons_of_mem _ ?_; (with_reducible refine List.mem_cons_of_mem _ ?_; (with_reducible refine List.mem_cons_of_mem _ ?_; with_reducible exact List.mem_cons_self)))) (.tail (.tail (.tail .head))) fun o x => x.weak fun k _ => msk_end ys _ _ y k more
          rw [List.take_length] at hct
          have hcr : crows xs ys [] (xs.take (i + 1)) = crows xs ys [] (xs.take i) ++ crow xs ys (xs.take i) y := by rw [hst, crows_snoc, List.nil_append]
          skip
          refine xIf ?_
          with_reducible refine nCmp (by assumption) (by with_reducible exact Mine.at10) (by with_reducible exact Mine.at11) (by with_unfolding_all exact rfl) ?_
          refine ifN (fun cd => ?_) fun cd => ?_
          · with_reducible refine appC ?_
            refine xAssign ?_
            refine eCallK (by assumption) (by assumption) (by with_reducible exact Mine.at5) (by rfl) ?_
            refine spC ?_
            refine St.ld (by assumption) (by with_reducible exact Mine.at10) ?_
            refine spC ?_
            refine St.ld (by assumption) (by with_reducible exact Mine.at11) ?_
            refine spC ?_
            refine St.ld (by assumption) (by with_reducible exact Mine.at9) ?_
            with_reducible refine spN ?_
            refine ⟨kIn (by assumption) B, ?_⟩
            refine newMism (by assumption) (kIn (g := g) (d := d) (tk := 0) (os := os) (by assumption) B) hh RM.d5 RM.u5 fun r h' tk' S => ?_
            refine St.st (by assumption) (by with_reducible exact Mine.put14) fun _ _ _ => ?_
            with_reducible refine appC ?_
            refine xExpr (by assumption) ?_
            refine methL PySem.F.slot_list_append PySem.F.type_list_append ?_
            refine St.ld (by assumption) (by with_reducible exact Mine.at7) ?_
            refine ⟨St.lst (vs := vs) (by assumption) (by (with_reducible refine List.mem_append_left _ ?_; (with_reducible refine List.mem_cons_of_mem _ ?_; (with_reducible refine List.mem_cons_of_mem _ ?_; with_reducible exact List.mem_cons_self)))), ?_⟩
            refine spC ?_
            refine St.ld (by assumption) (by with_reducible exact Mine.at14) ?_
            with_reducible refine spN ?_
            refine appendS (by assumption) (vs := vs) (by (with_reducible refine List.mem_cons_of_mem _ ?_; (with_reducible refine List.mem_cons_of_mem _ ?_; with_reducible exact List.mem_cons_self))) (.tail (.tail .head)) (by lia  ) fun h' S => ?_
            with_reducible refine appN ?_
            refine xEnd (hN1 _ _ _ _ _ ⟨vs ++ [.ref r], _, _, _, _, _, _, _, _, _, rfl, rfl, by (with_reducible refine List.mem_cons_of_mem _ ?_; with_reducible assumption), ?_⟩ S).1
            rw [hcr, crow, if_pos ⟨c, by lia  ⟩]
            refine (hw.mono fun p hp => .tail _ hp).append (.cons ?_ .nil)
            rw [← hc, ← hct]; exact .head _
          · with_reducible refine appN ?_
            refine xEnd (hN1 _ _ _ _ _ ⟨vs, _, _, _, _, _, _, _, _, _, rfl, rfl, hn, ?_⟩ (by assumption)).1
            rw [hcr, crow, if_neg (fun d => d.2 (by lia  )), List.append_nil]; exact hw
  · rintro al m n h tk ⟨vs, tm, tn, x1, x2, x3, x4, x5, x6, x7, rfl, rfl, hn, hw⟩ S
    rw [List.take_length] at S hw
    have S := S.weakM (a := tl) (P := MskP nu ys.length (mskS ys xs)) (P' := MskP nu ys.length (mskS ys (xs ++ ys.take 0))) (by (with_reducible refine List.mem_cons_of_mem _ ?_; with_reducible exact List.mem_cons_self)) (.tail .head) fun o x => x.weak fun k _ => msk_same _ _ _ k fun z => by simp
    refine xFor ?_
    refine eCallT (by assumption) (by assumption) (by with_reducible exact Mine.at3) ?_
    refine spC ?_
    refine St.ld (by assumption) (by with_reducible exact Mine.at3) ?_
    with_reducible refine spN ?_
    refine call_enum S (St.isML (nu := nu) (len := ys.length) (f := mskS ys (xs ++ ys.take 0)) S (by (with_reducible refine List.mem_append_left _ ?_; (with_reducible refine List.mem_cons_of_mem _ ?_; with_reducible exact List.mem_cons_self)))) fun e it h' S => ?_
    refine iter_enum S ?_
    refine forEnum (len := ys.length) (fun i => K11a a1 a2 sl tl nu rs xs ys (MskP nu ys.length (mskS ys (xs ++ ys.take i))) (MskP nu xs.length (mskS xs xs)) (crows xs ys [] (xs ++ ys.take i))) (fun i al m n v => MV nu (mskS ys (xs ++ ys.take i) i) v) hh S
        ⟨vs, _, _, _, _, _, _, _, _, _, rfl, rfl, hn, by simpa using hw⟩ rfl rfl ?_ ?_ ?_
    · rintro i al m n h p q ⟨vs, tm, tn, x1, x2, x3, x4, x5, x6, x7, rfl, rfl, hn, hw⟩ S
      obtain ⟨us, u1, u2, u3⟩ := St.isMsk (a := tl) (nu := nu) (len := ys.length) (f := mskS ys (xs ++ ys.take i)) S (by (with_reducible refine List.mem_append_left _ ?_; (with_reducible refine List.mem_cons_of_mem _ ?_; (with_reducible refine List.mem_cons_of_mem _ ?_; (with_reducible refine List.mem_cons_of_mem _ ?_; with_reducible exact List.mem_cons_self)))))
      exact ⟨us, u1, u2, u3 i⟩
    · rintro i al m n h tk t p q E v Q1 hi hv ⟨vs, tm, tn, x1, x2, x3, x4, x5, x6, x7, rfl, rfl, hn, hw⟩ hN1 hB1 hR1 S
      obtain ⟨y, hy⟩ : ∃ y, ys[i]? = some y := ⟨_, List.getElem?_eq_getElem hi⟩
      have hst : ys.take (i + 1) = ys.take i ++ [y] := by rw [List.take_add_one, hy]; rfl
      have hcl := crows_len xs ys (xs ++ ys.take i) []
      have htl : (xs ++ ys.take i).length ≤ 200 := by rw [List.length_append, List.length_take]; lia  
      have hvl := hw.length
      have hcr : crows xs ys [] (xs ++ ys.take (i + 1)) = crows xs ys [] (xs ++ ys.take i) ++ crow xs ys (xs ++ ys.take i) y := by rw [hst, ← List.append_assoc, crows_snoc, List.nil_append]
      rw [msk_atS hy] at hv
      by_cases c : y ∈ xs ++ ys.take i
      · rw [if_pos c] at hv
        cases hv
        have same : ∀ z, z ∈ xs ++ ys.take (i + 1) ↔ z ∈ xs ++ ys.take i := fun z => by
          rw [hst, ← List.append_assoc, List.mem_append, List.mem_singleton]
          exact ⟨fun h => h.elim id fun h => h ▸ c, .inl⟩
        refine assignInOrder_cons (assign_Name ?_)
        refine St.st (by assumption) (by with_reducible exact Mine.put8) fun _ _ _ => ?_
        refine assignInOrder_cons (assign_Name ?_)
        refine St.st (by assumption) (by with_reducible exact Mine.put9) fun _ _ _ => ?_
        refine assignInOrder_nil ?_
        refine xIf ?_
        refine wpAny_isTrue_Compare1 ?_
        refine St.ld (by assumption) (by with_reducible exact Mine.at9) ?_
        refine St.ld (by assumption) (by with_reducible exact Mine.at6) ?_
        refine wpAny_is_ref_self ?_
        with_reducible refine wpAny_truthy_bool ?_
        refine ifT ?_
        with_reducible refine appC ?_
        with_reducible refine xCont ?_
        rename_i S1
        have S2 := S1.weakM (a := tl) (P := MskP nu ys.length (mskS ys (xs ++ ys.take i))) (P' := MskP nu ys.length (mskS ys (xs ++ ys.take (i + 1)))) (by (with_reducible refine List.mem_cons_of_mem _ ?_; (with_reducible refine List.mem_cons_of_mem _ ?_; (with_reducible refine List.mem_cons_of_mem _ ?_; with_reducible exact List.mem_cons_self)))) (.tail (.tail (.tail .head))) fun o x => x.weak fun k _ => msk_same _ _ _ k same
        refine (hN1 _ _ _ _ _ ⟨vs, _, _, _, _, _, _, _, _, _, rfl, rfl, hn, ?_⟩ S2).2
        rw [hcr, crow, if_neg (fun d => d.1 c), List.append_nil]; exact hw
      · rw [if_neg c] at hv
        cases hv
        refine assignInOrder_cons (assign_Name ?_)
        refine St.st (by assumption) (by with_reducible exact Mine.put8) fun _ _ _ => ?_
        refine assignInOrder_cons (assign_Name ?_)
        refine St.st (by assumption) (by with_reducible exact Mine.put9) fun _ _ _ => ?_
        refine assignInOrder_nil ?_
        refine xIf ?_
        refine wpAny_isTrue_Compare1 ?_
        refine St.ld (by assumption) (by with_reducible exact Mine.at9) ?_
        refine St.ld (by assumption) (by with_reducible exact Mine.at6) ?_
        refine wpAny_is_other rfl (by simp) ?_
        with_reducible refine wpAny_truthy_bool ?_
        refine ifF ?_
        with_reducible refine appN ?_
        refine xAsgI (by assumption) (by exact EvI.ct) (fun _ => by with_reducible exact Mine.put11) fun _ _ _ _ => ?_
        refine xFor ?_
        refine eCallT (by assumption) (by assumption) (by with_reducible exact Mine.at4) ?_
        refine spC ?_
        refine St.ld (by assumption) (by with_reducible exact Mine.at8) ?_
        refine spC ?_
        refine St.ld (by assumption) (by with_reducible exact Mine.at5) ?_
        with_reducible refine spN ?_
        refine call_range (by assumption) fun _ _ _ _ => ?_
        rename_i S1
        have S2 := S1.weakM (a := tl) (P := MskP nu ys.length (mskS ys (xs ++ ys.take i))) (P' := MskP nu ys.length (mskF ys (xs ++ ys.take i) y i)) (by (with_reducible refine List.mem_cons_of_mem _ ?_; (with_reducible refine List.mem_cons_of_mem _ ?_; (with_reducible refine List.mem_cons_of_mem _ ?_; with_reducible exact List.mem_cons_self)))) (.tail (.tail (.tail .head))) fun o x => x.weak fun k _ => msk_start _ _ _ _ k fun _ h => List.mem_append_right _ h
        clear S1
        refine iter_range S2 (by (with_reducible refine List.mem_append_right _ ?_; (with_reducible refine List.mem_append_left _ ?_; with_reducible exact List.mem_cons_self))) (by lia  ) (by lia  ) (by lia  ) fun it1 h' S => ?_
        refine forRange (fun j => K11e a1 a2 sl tl nu rs xs ys p q vs (MskP nu ys.length (mskF ys (xs ++ ys.take i) y j.toNat)) (MskP nu xs.length (mskS xs xs)) i y (crows xs ys [] (xs ++ ys.take i)) ((ys.take j.toNat).count y)) hh (by lia  ) S
          ⟨0, _, _, _, _, _, _, _, _, _, rfl, rfl, by (with_reducible refine List.mem_cons_of_mem _ ?_; with_reducible assumption), hw.mono fun p hp => by (with_reducible refine List.mem_cons_of_mem _ ?_; with_reducible assumption), ?_⟩ ?_ ?_
        · rw [Int.toNat_natCast]; exact (List.count_eq_zero.mpr (fun h => c (List.mem_append_right _ h))).symm
        · rintro j al m n h tk t2 p2 E2 Q2 j1 j2 ⟨ct, td, ti, tx, tm, tn, x1, x3, x6, x7, rfl, rfl, hn, hw, hc⟩ hN2 hB2 hR2 S
          obtain ⟨j, rfl⟩ := Int.eq_ofNat_of_zero_le (show 0 ≤ j by lia  )
          rw [show ((j : Int) + 1) = ((j + 1 : Nat) : Int) by lia  ] at hN2
          simp only [Int.toNat_natCast] at hc hN2 S
          obtain ⟨z, hz⟩ : ∃ z, ys[j]? = some z := ⟨_, List.getElem?_eq_getElem (by lia  )⟩
          have hcs := count_step (x := y) hz
          with_reducible refine assign_Name ?_
          refine St.st (by assumption) (by with_reducible exact Mine.put12) fun _ _ _ => ?_
          refine xIf ?_
          refine wpAny_isTrue_Compare1 ?_
          with_reducible refine Subscript_ ?_
          refine St.ld (by assumption) (by with_reducible exact Mine.at3) ?_
          refine St.ld (by assumption) (by with_reducible exact Mine.at12) ?_
          refine gMsk (k := j) (nu := nu) (len := ys.length) (f := mskF ys (xs ++ ys.take i) y j) (by assumption) (by (with_reducible refine List.mem_append_left _ ?_; (with_reducible refine List.mem_cons_of_mem _ ?_; (with_reducible refine List.mem_cons_of_mem _ ?_; (with_reducible refine List.mem_cons_of_mem _ ?_; (with_reducible refine List.mem_cons_of_mem _ ?_; with_reducible exact List.mem_cons_self)))))) (by lia  ) (by lia  ) fun v hv => ?_
          rw [msk_at hz] at hv
          by_cases c2 : z ∈ xs ++ ys.take i
          · rw [if_pos c2] at hv
            cases hv
            refine St.ld (by assumption) (by with_reducible exact Mine.at9) ?_
            refine objEq (hnu (by assumption) (by (with_reducible refine List.mem_append_right _ ?_; (with_reducible refine List.mem_append_left _ ?_; with_reducible assumption)))) hh RM.d5 RM.u5 fun h' tk' hk => ?_
            with_reducible refine wpAny_truthy_bool ?_
            refine ifF ?_
            with_reducible refine appN ?_
            refine xEnd (hN2 _ _ _ _ _ ⟨ct, _, _, _, _, _, _, _, _, _, rfl, rfl, hn, hw, by rw [hcs, if_neg (show ¬ z = y from fun e => c (by rw [← e]; exact c2))]; exact hc⟩ (St.weakM (a := tl) (P := MskP nu ys.length (mskF ys (xs ++ ys.take i) y j)) (St.grown (by assumption) hk) (by (with_reducible refine List.mem_cons_of_mem _ ?_; (with_reducible refine List.mem_cons_of_mem _ ?_; (with_reducible refine List.mem_cons_of_mem _ ?_; (with_reducible refine List.mem_cons_of_mem _ ?_; with_reducible exact List.mem_cons_self))))) (.tail (.tail (.tail (.tail .head)))) fun o x => x.weak fun k _ => msk_skip hz (.inl c2) k)).1
          · rw [if_neg c2] at hv
            cases hv
            refine St.ld (by assumption) (by with_reducible exact Mine.at9) ?_
            with_reducible refine tEq ?_
            refine ifE (fun ez => ?_) fun ez => ?_
            · subst ez
              with_reducible refine appC ?_
              refine xAugI (by assumption) (by with_reducible exact Mine.at11) (by exact EvI.ct) (fun _ => by with_reducible exact Mine.put11) fun _ _ _ _ => ?_
              with_reducible refine appC ?_
              refine xSub ?_
              refine St.ld (by assumption) (by with_reducible exact Mine.at6) ?_
              refine St.ld (by assumption) (by with_reducible exact Mine.at3) ?_
              refine St.ld (by assumption) (by with_reducible exact Mine.at12) ?_
              refine setMsk (k := j) (nu := nu) (len := ys.length) (f := mskF ys (xs ++ ys.take i) z j) (f' := mskF ys (xs ++ ys.take i) z (j + 1)) (by assumption) (by (with_reducible refine List.mem_cons_of_mem _ ?_; (with_reducible refine List.mem_cons_of_mem _ ?_; (with_reducible refine List.mem_cons_of_mem _ ?_; (with_reducible refine List.mem_cons_of_mem _ ?_; with_reducible exact List.mem_cons_self))))) (by lia  ) (by lia  ) (.tail (.tail (.tail (.tail .head)))) (fun i _ => msk_put hz i) fun h' S => ?_
              with_reducible refine appN ?_
              exact xEnd (hN2 _ _ _ _ _ ⟨ct + 1, _, _, _, _, _, _, _, _, _, rfl, rfl, hn, hw, by rw [hcs, if_pos rfl, hc]⟩ S).1
            · with_reducible refine appN ?_
              exact xEnd (hN2 _ _ _ _ _ ⟨ct, _, _, _, _, _, _, _, _, _, rfl, rfl, hn, hw, by rw [hcs, if_neg ez]; exact hc⟩ (St.weakM (a := tl) (P := MskP nu ys.length (mskF ys (xs ++ ys.take i) y j)) (by assumption) (by (with_reducible refine List.mem_cons_of_mem _ ?_; (with_reducible refine List.mem_cons_of_mem _ ?_; (with_reducible refine List.mem_cons_of_mem _ ?_; (with_reducible refine List.mem_cons_of_mem _ ?_; with_reducible exact List.mem_cons_self))))) (.tail (.tail (.tail (.tail .head)))) fun o x => x.weak fun k _ => msk_skip hz (.inr ez) k)).1
        · rintro al m n h tk ⟨ct, td, ti, tx, tm, tn, x1, x3, x6, x7, rfl, rfl, hn, hw, hc⟩ S
          simp only [Int.toNat_natCast, List.take_length] at hc S
          have more : ∀ z, z ∈ xs ++ ys.take (i + 1) ↔ z ∈ xs ++ ys.take i ∨ z = y := fun z => by rw [hst, ← List.append_assoc, List.mem_append, List.mem_singleton]
          have S := S.weakM (a := tl) (P := MskP nu ys.length (mskF ys (xs ++ ys.take i) y ys.length)) (P' := MskP nu ys.length (mskS ys (xs ++ ys.take (i + 1)))) (by (with_reducible refine List.mem_cons_of_mem _ ?_; (with_reducible refine List.mem_cons_of_mem _ ?_; (with_reducible refine List.mem_cons_of_mem _ ?_; with_reducible exact List.mem_cons_self)))) (.tail (.tail (.tail .head))) fun o x => x.weak fun k _ => msk_end ys _ _ y k more
          refine xAssign ?_
          refine eCallK (by assumption) (by assumption) (by with_reducible exact Mine.at5) (by rfl) ?_
          refine spC ?_
          with_reducible refine cI fun _ _ => ?_
          refine spC ?_
          refine St.ld (by assumption) (by with_reducible exact Mine.at11) ?_
          refine spC ?_
          refine St.ld (by assumption) (by with_reducible exact Mine.at9) ?_
          with_reducible refine spN ?_
          refine ⟨kIn (by assumption) B, ?_⟩
          refine newMism (by assumption) (kIn (g := g) (d := d) (tk := 0) (os := os) (by assumption) B) hh RM.d5 RM.u5 fun r h' tk' S => ?_
          refine St.st (by assumption) (by with_reducible exact Mine.put14) fun _ _ _ => ?_
          refine xExpr (by assumption) ?_
          refine methL PySem.F.slot_list_append PySem.F.type_list_append ?_
          refine St.ld (by assumption) (by with_reducible exact Mine.at7) ?_
          refine ⟨St.lst (vs := vs) (by assumption) (by (with_reducible refine List.mem_append_left _ ?_; (with_reducible refine List.mem_cons_of_mem _ ?_; (with_reducible refine List.mem_cons_of_mem _ ?_; with_reducible exact List.mem_cons_self)))), ?_⟩
          refine spC ?_
          refine St.ld (by assumption) (by with_reducible exact Mine.at14) ?_
          with_reducible refine spN ?_
          refine appendS (by assumption) (vs := vs) (by (with_reducible refine List.mem_cons_of_mem _ ?_; (with_reducible refine List.mem_cons_of_mem _ ?_; with_reducible exact List.mem_cons_self))) (.tail (.tail .head)) (by lia  ) fun h' S => ?_
          skip
          refine xEnd (hN1 _ _ _ _ _ ⟨vs ++ [.ref r], _, _, _, _, _, _, _, _, _, rfl, rfl, by (with_reducible refine List.mem_cons_of_mem _ ?_; with_reducible assumption), ?_⟩ S).1
          have cx : xs.count y = 0 := List.count_eq_zero.mpr (fun h => c (List.mem_append_left _ h))
          have cy : 0 < ys.count y := List.count_pos_iff.mpr (List.mem_of_getElem? hy)
          rw [hcr, crow, if_pos ⟨c, by lia  ⟩, cx]
          refine (hw.mono fun p hp => .tail _ hp).append (.cons ?_ .nil)
          rw [← hc]; exact .head _
    · rintro al m n h tk ⟨vs, tm, tn, x1, x2, x3, x4, x5, x6, x7, rfl, rfl, hn, hw⟩ S
      rw [List.take_length] at hw
      with_reducible refine xRet ?_
      refine St.ld (by assumption) (by with_reducible exact Mine.at7) ?_
      have S := S.demote
      exact G _ _ _ _ S.fin ⟨_, _, rfl, by (with_reducible refine List.mem_cons_of_mem _ ?_; (with_reducible refine List.mem_append_right _ ?_; with_reducible exact List.mem_cons_self)), hw.mono fun p hp => by (with_reducible refine List.mem_cons_of_mem _ ?_; (with_reducible refine List.mem_append_right _ ?_; (with_reducible refine List.mem_cons_of_mem _ ?_; with_reducible assumption)))⟩ _ rfl

end Mine
end
section
open PySem PySem.W PyProof.Rows PySem.Calls
set_option autoImplicit false
namespace Mine
section
variable {prog : Program} {w : World} {A : Around} {R : Result → Shared → Prop} {s : Shared}
theorem compLoop_any {elt target iter : PySem.Expr} {ifs : List PySem.Expr} {scope : Scope} {pos : Pos} {it acc : Value} {env : Env} (I : Nat → Shared → Prop)
    (turn : ∀ n s, I n s → wpAny (model prog w) A (pyNext it) (fun r s₁ => match r with
      | none => R (.ok .next) s₁
      | some v => wpAny (model prog w) A (letOwnedTupleGo target it v) (fun _ s₁' => wpAny (model prog w) A (assign target env v) (fun _ s₂ =>
          wpAny (model prog w) A (forIn ifs true fun c r => if r = true then do let ok ← isTrue c env (eval c env); pure (ForInStep.yield ok) else pure (ForInStep.yield r)) (fun ok s₃ =>
            if ok = true then wpAny (model prog w) A (eval elt env) (fun x s₄ =>
              wpAny (model prog w) A (PySem.call (.builtin "list.append") [acc, x]) (fun _ s₅ => ∃ m, m < n ∧ I m s₅) (notedBy (model prog w) A env fun e s' => R (.error e) s') s₄) (notedBy (model prog w) A env fun e s' => R (.error e) s') s₃
            else ∃ m, m < n ∧ I m s₃) (notedBy (model prog w) A env fun e s' => R (.error e) s') s₂) (notedBy (model prog w) A env fun e s' => R (.error e) s') s₁') (notedBy (model prog w) A env fun e s' => R (.error e) s') s₁) (notedBy (model prog w) A env fun e s' => R (.error e) s') s)
    (n : Nat) (h : I n s) : codeAny (model prog w) A (.compLoop (.ListComp elt [⟨target, iter, ifs, 0⟩] scope pos) 0 it acc env) R s := by
  refine codeAny_loop rfl I (fun n s hI => ?_) n h
  show wpAny _ A ((compTurn (.ListComp elt [⟨target, iter, ifs, 0⟩] scope pos) 0 it acc env).onRaise (fun x => do noteFrame x env; theTreesLotGoes x)) _ _ s
  refine wpAny_noted ?_
  rw [compTurn_list]
  refine wpAny_bind (wpAny_standAt (wpAny_bind (wpAny_mono (turn n s hI) (fun r s₁ h₁ => ?_) fun _ _ h' => h')))
  cases r with
  | none => exact wpAny_pure h₁
  | some v =>
    refine wpAny_bind (wpAny_mono h₁ (fun _ s₁' h₁ => ?_) fun _ _ h' => h')
    refine wpAny_bind (wpAny_mono h₁ (fun _ s₂ h₂ => wpAny_bind (wpAny_mono h₂ (fun ok s₃ h₃ => ?_) fun _ _ h' => h')) fun _ _ h' => h')
    cases ok with
    | false => exact wpAny_pure ⟨rfl, h₃⟩
    | true =>
      exact wpAny_bind (wpAny_bind (wpAny_mono h₃ (fun x s₄ h₄ => wpAny_bind (wpAny_mono h₄ (fun _ s₅ h₅ => wpAny_pure (wpAny_pure ⟨rfl, h₅⟩)) fun _ _ h' => h')) fun _ _ h' => h'))
end
section
variable {prog : Program} {w : World} {A : Around} {E : Value → Shared → Prop} {h : Heap} {g : Array GenState} {d : Drawn} {tk : Nat} {os : OsState}
variable {K : Frag} {L : LT} {h₁ : Heap} {env : Env} {gl : List (Str × Value)} {al : AL} {m n : LT} {x : Str} {v : Value} {pos : Pos} {a b : Addr}
theorem compRun {elt target iter : PySem.Expr} {ifs : List PySem.Expr} {scope sc' : Scope} {pos : Pos} {cl : List (Str × Addr)} {l it : Addr} {len : Nat} {RR : Value → Addr → Result → Shared → Prop} (al0 : AL) (I : Nat → AL → List Value → LT → Prop) (V : Nat → Value → Prop) (hVr : (∃ y p, target = .Name y p) ∨ ∀ i x, V i x → ∃ T, x = .ref T)
    (htup : (∃ y p, target = .Name y p) ∨ ∃ es k p, target = .Tuple es k p)
    (S : St K L env gl al ((it, LIterP l 0) :: m) n h) (hh : A.handled = none) (hlen : len ≤ 1000)
    (hl : ∃ P : OP, (l, P) ∈ m ++ (n ++ L) ∧ ∀ o, P o → ∃ vs : List Value, ListP vs o ∧ vs.length = len ∧ ∀ i x, vs[i]? = some x → V i x)
    (hrel : relabel scope env = sc') (hcell : ∀ y ∈ scope.names, y.2 ≠ .cell) (hkind : scope.kind = .function)
    (hloc : ((al0.map (·.1)).all fun x => sc'.names.lookup x == some .local) = true) (hnd : (al0.map (·.1)).Nodup) (h0 : ∀ p ∈ al0, p.2 = none)
    (i0 : I 0 al0 [] [])
    (turn : ∀ cenv i al' D acc n' h tk p E x Q' (N' : Shared → Prop), { cenv with scope := sc' } = cenv → cenv.cells = cl → i < len → V i x → I i al' acc n' →
      (∀ y al'' n'' h tk, I (i + 1) al'' (acc ++ [y]) n'' → St K ((env.locals, FrP al) :: (m ++ (n ++ L))) cenv [] al'' [p, (D, ListP acc)] n'' h → Q' y ⟨h, g, d, tk, os⟩) →
      (∀ al'' n'' h tk, I (i + 1) al'' acc n'' → St K ((env.locals, FrP al) :: (m ++ (n ++ L))) cenv [] al'' [p, (D, ListP acc)] n'' h → N' ⟨h, g, d, tk, os⟩) →
      St K ((env.locals, FrP al) :: (m ++ (n ++ L))) cenv [] al' [p, (D, ListP acc)] n' h →
      wpAny (model prog w) A (assign target cenv x) (fun _ s₂ => wpAny (model prog w) A (forIn ifs true fun c r => if r = true then do let ok ← isTrue c cenv (eval c cenv); pure (ForInStep.yield ok) else pure (ForInStep.yield r)) (fun ok s₃ => if ok = true then wpAny (model prog w) A (eval elt cenv) Q' E s₃ else N' s₃) E s₂) E ⟨h, g, d, tk, os⟩)
    (ilen : ∀ i al' acc n', I i al' acc n' → acc.length ≤ i)
    (done : ∀ D C al' acc n' h tk, I len al' acc n' → Led h ((C, FrP al') :: (D, ListP acc) :: (n' ++ ((env.locals, FrP al) :: (m ++ (n ++ L))))) → RR (.ref D) C (.ok .next) ⟨h, g, d, tk, os⟩) :
    wpAny (model prog w) A (newList []) (fun acc s₃ => wpAny (model prog w) A (newFunctionEnv scope env.globals cl [] env.qual none .none (some env)) (fun cenv s₄ =>
      codeAny (model prog w) A (.compStart (.ListComp elt [⟨target, iter, ifs, 0⟩] scope pos) 0 (.ref it) acc { cenv with scope := relabel scope env }) (RR acc cenv.locals) s₄) E s₃) E ⟨h, g, d, tk, os⟩ := by
  refine wpAny_newObj_type (wpAny_newFunctionEnv hcell (by intro y hy; simp at hy) (fun h₂ hns hsb => ?_) hkind) (Nat.zero_le _)
  dsimp only at hns hsb ⊢
  have S1 := S.pushM (o := { cls := .type "list", dict := none, data := .seq ([] : List Value).toArray }) (ListP []) rfl ⟨_, rfl⟩
  generalize h.objs.size = D at S1 ⊢
  generalize hH : h.push { cls := .type "list", dict := none, data := .seq ([] : List Value).toArray } = H at S1 hns hsb ⊢
  have hC0 : H.get? H.objs.size = none := Heap.get?_none_of_le (Nat.le_refl _)
  have hk : ∀ b o, H.get? b = some o → h₂.get? b = some o := fun b o e => hsb.extBut b o (Nat.ne_of_lt (Heap.lt_size e)) (Heap.get?_push_of_some _ e)
  generalize H.objs.size = C at hns hsb hC0 ⊢
  have D1 : Led h₂ ((C, FrP al0) :: ((env.locals, FrP al) :: ((D, ListP []) :: (it, LIterP l 0) :: m) ++ (n ++ L))) := by
    refine Led.add S1.led hk hC0 ?_
    obtain ⟨o, es, ep, e1, e2, e3, e4⟩ := hns
    exact ⟨o, e1, es, ep, e2, e3, fun y u hy => absurd (h0 _ hy) (by simp)⟩
  have D2 : Led h₂ ((C, FrP al0) :: ([(it, LIterP l 0), (D, ListP [])] ++ (([] : LT) ++ ((env.locals, FrP al) :: (m ++ (n ++ L)))))) := D1.perm (.cons _ (by
    show ((env.locals, FrP al) :: (D, ListP []) :: (it, LIterP l 0) :: (m ++ (n ++ L))).Perm ((it, LIterP l 0) :: (D, ListP []) :: (env.locals, FrP al) :: (m ++ (n ++ L)))
    refine (List.Perm.swap ..).trans ?_
    refine (List.Perm.cons _ (List.Perm.swap ..)).trans ?_
    refine (List.Perm.swap ..).trans ?_
    exact .refl _))
  have hE : EnvOk K { compEnvC scope cl C env with scope := sc' } (al0.map (·.1)) [] := by
    refine ⟨?_, S.env.glo, S.env.blt, ?_, hnd, trivial⟩
    · show sc'.kind = _; rw [← hrel]; exact hkind
    · exact hloc
  have hce : compEnvC scope cl C env = { compEnvC scope cl C env with scope := sc' } := by rw [← hrel]; rfl
  have main : ∀ tk, codeAny (model prog w) A (.compLoop (.ListComp elt [⟨target, iter, ifs, 0⟩] scope pos) 0 (.ref it) (.ref D) (compEnvC scope cl C env)) (RR (.ref D) C) ⟨h₂, g, d, tk, os⟩ := by
    intro tk
    obtain ⟨cenv, hcv⟩ : ∃ cenv, cenv = compEnvC scope cl C env := ⟨_, rfl⟩
    have hloc2 : cenv.locals = C := by rw [hcv]; rfl
    have hcells : cenv.cells = cl := by rw [hcv]; rfl
    have hsc : { cenv with scope := sc' } = cenv := by rw [hcv]; exact hce.symm
    have S2 : St K ((env.locals, FrP al) :: (m ++ (n ++ L))) cenv [] al0 [(it, LIterP l 0), (D, ListP [])] [] h₂ := ⟨by rw [hloc2]; exact D2, by rw [← hsc, hcv]; exact hE⟩
    rw [← hcv]
    obtain ⟨PL, hm, hPL⟩ := hl
    have hm' : ∀ {n' : LT} {m' : LT}, (l, PL) ∈ m' ++ (n' ++ ((env.locals, FrP al) :: (m ++ (n ++ L)))) := List.mem_append_right _ (List.mem_append_right _ (.tail _ hm))
    refine compLoop_any (fun k s => ∃ i al' acc n' h tk, s = ⟨h, g, d, tk, os⟩ ∧ i ≤ len ∧ k = len - i ∧ St K ((env.locals, FrP al) :: (m ++ (n ++ L))) cenv [] al' [(it, LIterP l i), (D, ListP acc)] n' h ∧ I i al' acc n') (fun k s hs => ?_) len
      ⟨0, al0, [], [], h₂, tk, rfl, Nat.zero_le _, rfl, S2, i0⟩
    obtain ⟨i, al', acc, n', h3, tk3, rfl, hle, rfl, S3, i3⟩ := hs
    obtain ⟨o, ho, hc, hd⟩ := S3.get (.head _)
    obtain ⟨ol, hol, hPo⟩ := S3.get (a := l) (P := PL) (m := [(it, LIterP l i), (D, ListP acc)]) hm'
    obtain ⟨vs, ⟨cc, rfl⟩, hvl, hV⟩ := hPL ol hPo
    have hL : h3.IsList l vs.toArray := ⟨_, hol, rfl, cc, rfl⟩
    by_cases hi : i < len
    · obtain ⟨x, hx⟩ : ∃ x, vs[i]? = some x := ⟨_, List.getElem?_eq_getElem (by lia  )⟩
      refine wpAny_pyNext_list_item ⟨o, ho, hc, hd⟩ hL (by rw [List.getElem?_toArray]; exact hx) fun h4 e4 s4 => ?_
      have S4 : St K ((env.locals, FrP al) :: (m ++ (n ++ L))) cenv [] al' [(it, LIterP l (i + 1)), (D, ListP acc)] n' h4 := S3.up .head (fun b o hb e => (s4.2 b hb).trans e) (by obtain ⟨o, a, b, c⟩ := e4; exact ⟨o, a, b, c⟩)
      have hal := ilen _ _ _ _ i3
      have fin : ∀ (al'' : AL) (ac2 : List Value) (n'' : LT) (h : Heap) (tk : Nat), I (i + 1) al'' ac2 n'' → St K ((env.locals, FrP al) :: (m ++ (n ++ L))) cenv [] al'' [(it, LIterP l (i + 1)), (D, ListP ac2)] n'' h → ∃ m', m' < len - i ∧ ∃ i al' acc n' h' tk', (⟨h, g, d, tk, os⟩ : Shared) = ⟨h', g, d, tk', os⟩ ∧ i ≤ len ∧ m' = len - i ∧ St K ((env.locals, FrP al) :: (m ++ (n ++ L))) cenv [] al' [(it, LIterP l i), (D, ListP acc)] n' h' ∧ I i al' acc n' :=
        fun al'' ac2 n'' h tk i1 S => ⟨_, by lia  , i + 1, al'', ac2, n'', h, tk, rfl, by lia  , rfl, S, i1⟩
      have go : wpAny (model prog w) A (letOwnedTupleGo target (.ref it) x) (fun _ s => s = ⟨h4, g, d, tk3, os⟩) (notedBy (model prog w) A cenv fun e s' => RR (.ref D) C (.error e) s') ⟨h4, g, d, tk3, os⟩ := by
        rcases htup with ⟨y, p, rfl⟩ | ⟨es, kk, p, rfl⟩
        · exact wpAny_of_eq (a := ()) rfl rfl
        · rcases hVr with ⟨y, p, e⟩ | hVr
          · cases e
          · obtain ⟨T, rfl⟩ := hVr _ _ (hV i x hx)
            exact wpAny_letOwnedTupleGo_listiter (s := ⟨h4, g, d, tk3, os⟩) e4 rfl
      refine wpAny_mono go (fun _ s5 e5 => ?_) fun _ _ e => e
      subst e5
      refine wpAny_mono (turn cenv i al' D acc n' h4 tk3 _ (notedBy (model prog w) A cenv fun e s' => RR (.ref D) C (.error e) s') x (fun y s₄ => wpAny (model prog w) A (PySem.call (.builtin "list.append") [.ref D, y]) (fun _ s₅ => ∃ m', m' < len - i ∧ ∃ i al' acc n' h' tk', s₅ = ⟨h', g, d, tk', os⟩ ∧ i ≤ len ∧ m' = len - i ∧ St K ((env.locals, FrP al) :: (m ++ (n ++ L))) cenv [] al' [(it, LIterP l i), (D, ListP acc)] n' h' ∧ I i al' acc n') (notedBy (model prog w) A cenv fun e s' => RR (.ref D) C (.error e) s') s₄) (fun s => ∃ m', m' < len - i ∧ ∃ i al' acc n' h' tk', s = ⟨h', g, d, tk', os⟩ ∧ i ≤ len ∧ m' = len - i ∧ St K ((env.locals, FrP al) :: (m ++ (n ++ L))) cenv [] al' [(it, LIterP l i), (D, ListP acc)] n' h' ∧ I i al' acc n')
        hsc hcells hi (hV i x hx) i3 (fun y al'' n'' h tk i1 S => ?_) (fun al'' n'' h tk i1 S => fin _ _ _ _ _ i1 S) S4) (fun _ s6 h6 => wpAny_mono h6 (fun ok s7 h7 => ?_) fun _ _ e => e) fun _ _ e => e
      · exact appendS S (vs := acc) (.tail _ (.head _)) (.tail .head) (by lia  ) fun h' S => fin _ _ _ _ _ i1 S
      · cases ok <;> exact h7
    · refine wpAny_pyNext_list_end hh ⟨o, ho, hc, hd⟩ hL (by rw [List.getElem?_toArray]; exact List.getElem?_eq_none (by lia  )) fun h' hx => ?_
      have e : i = len := by lia  
      subst e
      have := (S3.end hx).led
      rw [hloc2] at this
      exact done D C al' acc n' h' tk3 i3 this
  exact codeAny_compStart_list (main _) (wpAny_pyIter_listiter (by obtain ⟨o, ho, hc, hd⟩ := D2.at_ _ (.tail _ (.head _)); exact ⟨o, ho, hc, hd⟩) (main _))
def CompBlk (prog : Program) (w : World) (A : Around) (E : Value → Shared → Prop) (use : Option (Value → Sem Unit)) (Q : Value → Shared → Prop) (elt target iter : PySem.Expr) (ifs : List PySem.Expr) (scope : Scope) (pos : Pos) (cl : List (Str × Addr)) (env : Env) (it : Value) (s : Shared) : Prop :=
  wpAny (model prog w) A (newList []) (fun acc s₃ => wpAny (model prog w) A (newFunctionEnv scope env.globals cl [] env.qual none .none (some env)) (fun cenv s₄ =>
      codeAny (model prog w) A (.compStart (.ListComp elt [⟨target, iter, ifs, 0⟩] scope pos) 0 it acc { cenv with scope := relabel scope env }) (compPost (model prog w) A E use Q acc cenv.locals) s₄) E s₃) E s
theorem evComp {elt target iter : PySem.Expr} {ifs : List PySem.Expr} {scope : Scope} {pos : Pos} (cl : List (Str × Addr)) {Q : Value → Shared → Prop} {s : Shared} (hclos : closureFor scope env = pure cl) (hkind : scope.kind = .function) (hnames : ∀ x ∈ scope.names, x.2 = .local → scope.names.lookup x.1 = some .local)
    (hq : wpAny (model prog w) A (eval iter env) (fun x s₁ => wpAny (model prog w) A (pyIter x) (fun it s₂ => CompBlk prog w A E none Q elt target iter ifs scope pos cl env it s₂) E s₁) E s)
    (hs : ∀ x, foldedSetIterable iter env x = pure x := by intro _; rfl) : wpAny (model prog w) A (eval (.ListComp elt [⟨target, iter, ifs, 0⟩] scope pos) env) Q E s := by
  rw [eval_ListComp]
  exact wpAny_comprehension_free (use := none) rfl hs hclos hkind hnames hq
theorem xAsgComp {elt target iter : PySem.Expr} {ifs : List PySem.Expr} {scope : Scope} {pos py q : Pos} {y : Str} {rest : List Stmt} (cl : List (Str × Addr)) {Q : Flow → Shared → Prop} {s : Shared} (hclos : closureFor scope env = pure cl) (hkind : scope.kind = .function) (hnames : ∀ x ∈ scope.names, x.2 = .local → scope.names.lookup x.1 = some .local)
    (hq : wpAny (model prog w) A (eval iter env) (fun x s₁ => wpAny (model prog w) A (pyIter x) (fun it s₂ => CompBlk prog w A E (some (assign (.Name y py) env)) (fun _ s' => wpAny (model prog w) A (execs rest env) Q E s') elt target iter ifs scope pos cl env it s₂) E s₁) E s)
    (hsw : swapsWith (.ListComp elt [⟨target, iter, ifs, 0⟩] scope pos) (some (.Name y py)) q.line env = pure true)
    (hs : ∀ x, foldedSetIterable iter env x = pure x := by intro _; rfl) : wpAny (model prog w) A (execs (.Assign [.Name y py] (.ListComp elt [⟨target, iter, ifs, 0⟩] scope pos) q :: rest) env) Q E s := by
  refine wpAny_execs_cons ?_
  rw [exec_Assign_Name_used _ _ _ _ hsw]
  refine wpAny_bind (wpAny_standAt (wpAny_bind ?_))
  show wpAny _ A (do let _ ← comprehension (.ListComp elt [⟨target, iter, ifs, 0⟩] scope pos) scope env _ (newList []) false (eval iter env) (some (assign (.Name y py) env))) _ _ s
  exact wpAny_bind (wpAny_mono (wpAny_comprehension_free (use := some (assign (.Name y py) env)) (Q := fun _ s' => wpAny (model prog w) A (execs rest env) Q E s') rfl hs hclos hkind hnames hq) (fun _ s' hq => wpAny_pure (wpAny_pure hq)) fun _ _ e => e)
section
variable {elt target iter : PySem.Expr} {ifs : List PySem.Expr} {scope sc' : Scope} {cl : List (Str × Addr)} {l it : Addr} {len : Nat}
theorem back_of {C D : Addr} {al' : AL} {acc : List Value} {n' : LT} {h : Heap} {m0 n0 : LT} {h0 : Heap} (S : St K L env gl al m0 n0 h0) (D1 : Led h ((C, FrP al') :: (D, ListP acc) :: (n' ++ ((env.locals, FrP al) :: (m ++ (n ++ L)))))) : St K L env gl al ((C, FrP al') :: m) ((D, ListP acc) :: (n' ++ n)) h := by
  refine ⟨D1.perm ?_, S.env⟩
  have e1 : ((C, FrP al') :: (D, ListP acc) :: (n' ++ ((env.locals, FrP al) :: (m ++ (n ++ L))))).Perm ((env.locals, FrP al) :: (C, FrP al') :: (D, ListP acc) :: (n' ++ (m ++ (n ++ L)))) := by
    exact List.perm_middle (l₁ := (C, FrP al') :: (D, ListP acc) :: n')
  refine e1.trans (.cons _ (.cons _ ?_))
  show ((D, ListP acc) :: (n' ++ (m ++ (n ++ L)))).Perm (m ++ ((D, ListP acc) :: ((n' ++ n) ++ L)))
  refine List.Perm.trans (.cons _ ?_) List.perm_middle.symm
  rw [List.append_assoc]
  exact List.perm_append_comm_assoc n' m (n ++ L)
theorem FrP.ns {C : Addr} {h : Heap} (S : ∃ o, h.get? C = some o ∧ FrP al o) : ∃ m, h.Ns C m := by
  obtain ⟨o, e, es, ep, a, b, _⟩ := S
  exact ⟨_, o, es, ep, e, a, b, fun _ => rfl⟩
theorem blkEval {Q : Value → Shared → Prop} (al0 : AL) (I : Nat → AL → List Value → LT → Prop) (V : Nat → Value → Prop) (hVr : (∃ y p, target = .Name y p) ∨ ∀ i x, V i x → ∃ T, x = .ref T)
    (htup : (∃ y p, target = .Name y p) ∨ ∃ es k p, target = .Tuple es k p)
    (S : St K L env gl al ((it, LIterP l 0) :: m) n h) (hh : A.handled = none) (hlen : len ≤ 1000)
    (hl : ∃ P : OP, (l, P) ∈ m ++ (n ++ L) ∧ ∀ o, P o → ∃ vs : List Value, ListP vs o ∧ vs.length = len ∧ ∀ i x, vs[i]? = some x → V i x)
    (hrel : relabel scope env = sc') (hcell : ∀ y ∈ scope.names, y.2 ≠ .cell) (hkind : scope.kind = .function)
    (hloc : ((al0.map (·.1)).all fun x => sc'.names.lookup x == some .local) = true) (hnd : (al0.map (·.1)).Nodup) (h0 : ∀ p ∈ al0, p.2 = none)
    (i0 : I 0 al0 [] [])
    (turn : ∀ cenv i al' D acc n' h tk p E x Q' (N' : Shared → Prop), { cenv with scope := sc' } = cenv → cenv.cells = cl → i < len → V i x → I i al' acc n' →
      (∀ y al'' n'' h tk, I (i + 1) al'' (acc ++ [y]) n'' → St K ((env.locals, FrP al) :: (m ++ (n ++ L))) cenv [] al'' [p, (D, ListP acc)] n'' h → Q' y ⟨h, g, d, tk, os⟩) →
      (∀ al'' n'' h tk, I (i + 1) al'' acc n'' → St K ((env.locals, FrP al) :: (m ++ (n ++ L))) cenv [] al'' [p, (D, ListP acc)] n'' h → N' ⟨h, g, d, tk, os⟩) →
      St K ((env.locals, FrP al) :: (m ++ (n ++ L))) cenv [] al' [p, (D, ListP acc)] n' h →
      wpAny (model prog w) A (assign target cenv x) (fun _ s₂ => wpAny (model prog w) A (forIn ifs true fun c r => if r = true then do let ok ← isTrue c cenv (eval c cenv); pure (ForInStep.yield ok) else pure (ForInStep.yield r)) (fun ok s₃ => if ok = true then wpAny (model prog w) A (eval elt cenv) Q' E s₃ else N' s₃) E s₂) E ⟨h, g, d, tk, os⟩)
    (ilen : ∀ i al' acc n', I i al' acc n' → acc.length ≤ i)
    (done : ∀ D al' acc n' h tk, I len al' acc n' → St K L env gl al m ((D, ListP acc) :: (n' ++ n)) h → Q (.ref D) ⟨h, g, d, tk, os⟩) :
    CompBlk prog w A E none Q elt target iter ifs scope pos cl env (.ref it) ⟨h, g, d, tk, os⟩ :=
  compRun (RR := fun acc C => compPost (model prog w) A E none Q acc C) al0 I V hVr htup S hh hlen hl hrel hcell hkind hloc hnd h0 i0 turn ilen fun D C al' acc n' h tk i1 D1 => by
    have S1 := back_of S D1
    obtain ⟨mm, hmm⟩ := FrP.ns (S1.get (.head _))
    exact ⟨mm, hmm, fun h' hs => done D al' acc n' h' tk i1 (S1.end hs.extBut)⟩
theorem blkAsg {y : Str} {py : Pos} {Q : Value → Shared → Prop} {al2 : Value → AL} (al0 : AL) (I : Nat → AL → List Value → LT → Prop) (V : Nat → Value → Prop) (hVr : (∃ y p, target = .Name y p) ∨ ∀ i x, V i x → ∃ T, x = .ref T)
    (htup : (∃ y p, target = .Name y p) ∨ ∃ es k p, target = .Tuple es k p)
    (S : St K L env gl al ((it, LIterP l 0) :: m) n h) (U : ∀ v, Put y v al (al2 v)) (hh : A.handled = none) (hlen : len ≤ 1000)
    (hl : ∃ P : OP, (l, P) ∈ m ++ (n ++ L) ∧ ∀ o, P o → ∃ vs : List Value, ListP vs o ∧ vs.length = len ∧ ∀ i x, vs[i]? = some x → V i x)
    (hrel : relabel scope env = sc') (hcell : ∀ y ∈ scope.names, y.2 ≠ .cell) (hkind : scope.kind = .function)
    (hloc : ((al0.map (·.1)).all fun x => sc'.names.lookup x == some .local) = true) (hnd : (al0.map (·.1)).Nodup) (h0 : ∀ p ∈ al0, p.2 = none)
    (i0 : I 0 al0 [] [])
    (turn : ∀ cenv i al' D acc n' h tk p E x Q' (N' : Shared → Prop), { cenv with scope := sc' } = cenv → cenv.cells = cl → i < len → V i x → I i al' acc n' →
      (∀ y al'' n'' h tk, I (i + 1) al'' (acc ++ [y]) n'' → St K ((env.locals, FrP al) :: (m ++ (n ++ L))) cenv [] al'' [p, (D, ListP acc)] n'' h → Q' y ⟨h, g, d, tk, os⟩) →
      (∀ al'' n'' h tk, I (i + 1) al'' acc n'' → St K ((env.locals, FrP al) :: (m ++ (n ++ L))) cenv [] al'' [p, (D, ListP acc)] n'' h → N' ⟨h, g, d, tk, os⟩) →
      St K ((env.locals, FrP al) :: (m ++ (n ++ L))) cenv [] al' [p, (D, ListP acc)] n' h →
      wpAny (model prog w) A (assign target cenv x) (fun _ s₂ => wpAny (model prog w) A (forIn ifs true fun c r => if r = true then do let ok ← isTrue c cenv (eval c cenv); pure (ForInStep.yield ok) else pure (ForInStep.yield r)) (fun ok s₃ => if ok = true then wpAny (model prog w) A (eval elt cenv) Q' E s₃ else N' s₃) E s₂) E ⟨h, g, d, tk, os⟩)
    (ilen : ∀ i al' acc n', I i al' acc n' → acc.length ≤ i)
    (done : ∀ D al' acc n' h tk, I len al' acc n' → St K L env gl (al2 (.ref D)) m ((D, ListP acc) :: (n' ++ n)) h → Q .none ⟨h, g, d, tk, os⟩) :
    CompBlk prog w A E (some (assign (.Name y py) env)) Q elt target iter ifs scope pos cl env (.ref it) ⟨h, g, d, tk, os⟩ :=
  compRun (RR := fun acc C => compPost (model prog w) A E (some (assign (.Name y py) env)) Q acc C) al0 I V hVr htup S hh hlen hl hrel hcell hkind hloc hnd h0 i0 turn ilen fun D C al' acc n' h tk i1 D1 => by
    have S1 := back_of S D1
    show wpAny _ _ (assign (.Name y py) env (.ref D)) _ _ _
    refine assign_Name (S1.st (U (.ref D)) fun h2 tk2 S2 => ?_)
    obtain ⟨mm, hmm⟩ := FrP.ns (S2.get (.head _))
    exact ⟨mm, hmm, fun h' hs => done D al' acc n' h' tk2 i1 (S2.end hs.extBut)⟩
end
end
end Mine
end
section
open PySem PySem.W PyProof.Rows PySem.Calls PyProof.V PySem.Spec PySem.SeqAt
set_option autoImplicit false
namespace Mine
def IntsQ (xs : List Int) : OP := fun o => ∃ vs, IntsAre vs xs ∧ o.cls = .type "list" ∧ ∃ c, o.data = .seq vs.toArray c
theorem IntsP.q {xs : List Int} {o : Obj} (h : IntsP xs o) : IntsQ xs o := by
  obtain ⟨vs, hi, c, rfl⟩ := h
  exact ⟨vs, hi, rfl, c, rfl⟩
def CellP (v : Option Value) : OP := fun o => o.data = .cell v
def SliceP (l u st : Value) : OP := fun o => o.cls = .type "slice" ∧ o.data = .fields #[l, u, st]
theorem fm_congr {α β : Type} {f : α → Option β} {g : α → β} : ∀ {l : List α}, (∀ x ∈ l, f x = some (g x)) → l.filterMap f = l.map g
  | [], _ => rfl
  | x :: r, h => by rw [List.filterMap_cons, h x (.head _), List.map_cons, fm_congr fun y hy => h y (.tail _ hy)]
theorem range_pick (xs : List Int) (a b : Nat) (hb : b ≤ xs.length) : (sliceRange (a : Int) (b : Int) 1).filterMap (xs[·]?) = (xs.take b).drop a := by
  unfold sliceRange
  rw [if_pos (by decide)]
  dsimp only
  apply List.ext_getElem?
  intro k
  by_cases h : a < b
  · rw [if_pos (by lia  )]
    have e : (((b : Int) - a + 1 - 1) / 1).toNat = b - a := by rw [Int.ediv_one]; lia  
    rw [e]
    have hall : ∀ k ∈ (List.range (b - a)).map fun (k : Nat) => ((a : Int) + 1 * (k : Int)).toNat, k < xs.length := by
      intro k hk
      obtain ⟨j, hj, rfl⟩ := List.mem_map.mp hk
      have := List.mem_range.mp hj
      lia  
    have e2 : ((List.range (b - a)).map fun (k : Nat) => ((a : Int) + 1 * (k : Int)).toNat).filterMap (xs[·]?) = ((List.range (b - a)).map fun k => xs.getD (a + k) 0) := by
      rw [List.filterMap_map]
      refine fm_congr fun j hj => ?_
      · have := List.mem_range.mp hj
        have e3 : ((a : Int) + 1 * (j : Int)).toNat = a + j := by lia  
        show xs[((a : Int) + 1 * (j : Int)).toNat]? = _
        rw [e3, List.getD_eq_getElem?_getD, List.getElem?_eq_getElem (by lia  )]; rfl
    rw [e2, List.getElem?_map, List.getElem?_drop, List.getElem?_take]
    by_cases hk : k < b - a
    · rw [List.getElem?_range hk, if_pos (by lia  ), Option.map_some, List.getD_eq_getElem?_getD, List.getElem?_eq_getElem (by lia  )]; rfl
    · rw [List.getElem?_eq_none (by rw [List.length_range]; lia  ), if_neg (by lia  )]; rfl
  · rw [if_neg (by lia  )]
    simp only [Int.toNat_zero, List.range_zero, List.map_nil, List.filterMap_nil, List.getElem?_nil]
    rw [List.getElem?_drop, List.getElem?_take, if_neg (by lia  )]
theorem pick_ij (xs : List Int) (i j : Int) (h0 : 0 ≤ i) (h1 : 0 ≤ j) (h2 : j ≤ xs.length) (h3 : i ≤ xs.length) : pickNums xs (some i) (some j) none = (xs.take j.toNat).drop i.toNat := by
  obtain ⟨a, rfl⟩ := Int.eq_ofNat_of_zero_le h0
  obtain ⟨b, rfl⟩ := Int.eq_ofNat_of_zero_le h1
  unfold pickNums
  have e : sliceBounds (some (a : Int)) (some (b : Int)) none xs.length = ((a : Int), (b : Int), 1) := by
    have h1 : ((1 : Int) > 0) = True := eq_true (by decide)
    simp only [sliceBounds, Option.getD_none, h1, if_true]
    rw [if_neg (by lia  ), if_neg (by lia  )]
    refine Prod.ext ?_ (Prod.ext ?_ rfl) <;> dsimp only <;> lia  
  rw [e, range_pick xs a b (by lia  )]
  rfl
theorem pick_10 (xs : List Int) : (pickNums xs none (some 10) none).length ≤ 10 := by
  unfold pickNums
  have e : ∃ b : Nat, b ≤ 10 ∧ b ≤ xs.length ∧ sliceBounds none (some (10 : Int)) none xs.length = (((0 : Nat) : Int), (b : Int), 1) := by
    refine ⟨min 10 xs.length, by lia  , by lia  , ?_⟩
    have h1 : ((1 : Int) > 0) = True := eq_true (by decide)
    simp only [sliceBounds, Option.getD_none, h1, if_true]
    refine Prod.ext ?_ (Prod.ext ?_ rfl) <;> dsimp only <;> lia  
  obtain ⟨b, hb, hb2, e⟩ := e
  rw [e, range_pick xs 0 b hb2, List.length_drop, List.length_take]
  lia  
section
variable {prog : Program} {w : World} {A : Around} {E : Value → Shared → Prop} {h : Heap} {g : Array GenState} {d : Drawn} {tk : Nat} {os : OsState}
variable {K : Frag} {L : LT} {h₁ : Heap} {env : Env} {gl : List (Str × Value)} {al : AL} {m m' n : LT} {x : Str} {v : Value} {pos : Pos} {a b c : Addr}
theorem St.ldc {Q : Value → Shared → Prop} (S : St K L env gl al m n h) (hl : env.kindOf x = some .cell) (hc : env.cells.lookup x = some c) (hm : (c, CellP (some v)) ∈ m ++ (n ++ L)) (hq : Q v ⟨h, g, d, tk, os⟩) (hd : (x == ("__debug__" : Str)) = false := by decide +kernel) :
    wpAny (model prog w) A (eval (.Name x pos) env) Q E ⟨h, g, d, tk, os⟩ := by
  obtain ⟨o, ho, e⟩ := S.get hm
  exact wpAny_Name (wpAny_loadName_cell (s := ⟨h, g, d, tk, os⟩) S.env.fn hl hc ⟨o, ho, e⟩ hq) hd
theorem St.stc {v₀ : Option Value} {Q : Unit → Shared → Prop} (S : St K L env gl al m n h) (hl : env.kindOf x = some .cell) (hc : env.cells.lookup x = some c) (hm : (c, CellP v₀) ∈ m) (U : Up c (CellP (some v)) m m') (hq : ∀ h', St K L env gl al m' n h' → Q () ⟨h', g, d, tk, os⟩) :
    wpAny (model prog w) A (storeName env x v) Q E ⟨h, g, d, tk, os⟩ := by
  obtain ⟨o, ho, e⟩ := S.get (List.mem_append_left _ hm)
  refine wpAny_storeName_cell (s := ⟨h, g, d, tk, os⟩) S.env.fn hl hc ⟨o, ho, e⟩ fun h' hx hs => hq h' (S.up U (fun b o hb e => (hs.2 b hb).trans e) hx)
theorem mkSlice {l u st : Value} {Q : Value → Shared → Prop} (S : St K L env gl al m n h) (hq : ∀ r h', St K L env gl al m ((r, SliceP l u st) :: n) h' → Q (.ref r) ⟨h', g, d, tk, os⟩) :
    Q (.ref (Shared.heap ⟨h, g, d, tk, os⟩).objs.size) { (⟨h, g, d, tk, os⟩ : Shared) with heap := (Shared.heap ⟨h, g, d, tk, os⟩).push { cls := .type "slice", data := .fields #[l, u, st] } } :=
  hq _ _ (S.push (SliceP l u st) rfl ⟨rfl, rfl⟩)
theorem slcI {value slice : PySem.Expr} {r l : Addr} {xs : List Int} {vl vu vk : Value} {lo hi st : Option Int} {ops : List Value} {Q : Value → Shared → Prop} (S : St K L env gl al m n h)
    (hm : ∃ P : OP, (l, P) ∈ m ++ (n ++ L) ∧ ∀ o, P o → IntsQ xs o) (hr : (r, SliceP vl vu vk) ∈ m ++ (n ++ L)) (pl : IsPart vl lo) (pu : IsPart vu hi) (pk : IsPart vk st) (h0 : st ≠ some 0) (hsz : xs.length ≤ 1000)
    (hq : ∀ b h', St K L env gl al m ((b, IntsP (pickNums xs lo hi st)) :: n) h' → Q (.ref b) ⟨h', g, d, tk, os⟩)
    (hs : subscripted slice false (.ref l) (.ref r) = operate ops (getItem (.ref l) (.ref r)) := by with_unfolding_all rfl)
    (ht : ∀ r, letTemporaryGo value (.ref l) r = pure () := by intro _; with_unfolding_all rfl) :
    wpAny (model prog w) A (subscriptTail value slice (.ref l) (.ref r)) Q E ⟨h, g, d, tk, os⟩ := by
  obtain ⟨P, hm, hP⟩ := hm
  obtain ⟨_, ho, q⟩ := S.get hm
  obtain ⟨vs, hi', k1, c, k2⟩ := hP _ q
  obtain ⟨so, hso, hc1, hc2⟩ := S.get hr
  have hl : h.IsList l vs.toArray := ⟨_, ho, k1, c, k2⟩
  have e := hi'.length
  exact subscriptTail_ops (s := ⟨h, g, d, tk, os⟩) (Heap.IsList.typeIs hl) list_getitem_lookup (wpAny_getItem_list_slice hl ⟨so, hso, hc1, hc2⟩ pl pu pk h0 (hq _ _ (S.push (IntsP (pickNums xs lo hi st)) rfl ⟨_, hi'.pick lo hi st, 0, by simp⟩)) (by rw [List.size_toArray]; exact fits (by lia  ))) hs ht
theorem sumAny {xs : List Int} {Q : Value → Shared → Prop} (S : St K L env gl al m n h) (hh : A.handled = none) (hm : (a, IntsP xs) ∈ m ++ (n ++ L)) (hq : ∀ y t h' tk', St K L env gl al m n h' → Q (.int y t) ⟨h', g, d, tk', os⟩) :
    wpAny (model prog w) A (PySem.call (.builtin "sum") [.ref a]) Q E ⟨h, g, d, tk, os⟩ := by
  obtain ⟨vs, hi, hl⟩ := S.isInts hm
  obtain ⟨zs, hz⟩ := hi.allInts.items
  exact sum_intListG (s := ⟨h, g, d, tk, os⟩) hh (hz ▸ hl) fun h' tk t' hk => hq _ _ _ _ (S.grown hk)
theorem sortI {xs : List Int} {Q : Value → Shared → Prop} (S : St K L env gl al m n h) (hm : (a, IntsP xs) ∈ m ++ (n ++ L)) (h64 : xs.length < 64)
    (hq : ∀ b ys h', ys.Perm xs → ys.Pairwise (· ≤ ·) → St K L env gl al m ((b, IntsP ys) :: n) h' → Q (.ref b) ⟨h', g, d, tk, os⟩) :
    wpAny (model prog w) A (PySem.call (.builtin "sorted") [.ref a]) Q E ⟨h, g, d, tk, os⟩ := by
  obtain ⟨vs, hi, hl⟩ := S.isInts hm
  refine sorted_ints (s := ⟨h, g, d, tk, os⟩) hl hi (by have := hi.length; lia  ) fun out ns' a1 a2 a3 => ?_
  obtain ⟨e, he⟩ := sortedAll_at h vs out
  exact hq _ ns' _ a2 a3 (S.ofRow (fun b o e => sortedAll_old e) (Heap.get?_none_of_le (Nat.le_succ _)) he ⟨_, a1, e, by simp [seqObj]⟩)
theorem lay_ints : ∀ xs : List Int, PyData.canLayAll0 (xs.map .int) = true
  | [] => by simp [PyData.canLayAll0]
  | x :: r => by simp [PyData.canLayAll0, PyData.canLay0, lay_ints r]
theorem dep_ints : ∀ xs : List Int, PyData.depthAll (xs.map .int) ≤ 1
  | [] => by simp [PyData.depthAll]
  | x :: r => by have := dep_ints r; simp only [List.map_cons, PyData.depthAll, PyData.depth]; lia  
theorem shaped_ints (xs : List Int) : shaped (.list (xs.map .int)) = true := by
  have h1 := dep_ints xs
  have h2 : PyData.depth (.list (xs.map .int)) ≤ 64 := by simp only [PyData.depth]; lia  
  show ((PyData.list (xs.map .int)).canLay0 && decide ((PyData.list (xs.map .int)).depth ≤ 64)) = true
  simp only [PyData.canLay0, lay_ints, Bool.true_and, decide_eq_true_eq]
  exact h2
theorem mix_ints : ∀ r q : List Int, noMixAll (r.map .int) (q.map .int) = true
  | [], [] => by simp [noMixAll]
  | [], _ :: _ => by simp [noMixAll]
  | _ :: _, [] => by simp [noMixAll]
  | _ :: r, _ :: q => by simp [noMixAll, noMix, mix_ints r q]
theorem ints_reads {hp : Heap} : ∀ {vs : List Value} {r : List Int}, IntsAre vs r → ReadsAll hp vs (r.map .int) []
  | _, _, .nil => .nil
  | _, _, .cons k t r => ReadsAll.cons (as := []) (bs := []) (Reads.int (h := hp) k t) (ints_reads (hp := hp) r)
theorem St.readI {xs : List Int} (S : St K L env gl al m n h) (hm : (a, IntsP xs) ∈ m ++ (n ++ L)) : Reads h (.ref a) (.list (xs.map .int)) [a] := by
  obtain ⟨_, ho, vs, hv, c, rfl⟩ := S.get hm
  exact Reads.list ho rfl rfl (by simpa using ints_reads hv)
theorem eqInts {xs ys : List Int} {Q : Value → Shared → Prop} (S : St K L env gl al m n h) (h1 : (a, IntsP xs) ∈ m ++ (n ++ L)) (h2 : (b, IntsP ys) ∈ m ++ (n ++ L)) (hu : A.units + 64 < cLine) (e : xs = ys) (hq : Q (.bool true) ⟨h, g, d, tk, os⟩) :
    wpAny (model prog w) A (compareOp .Eq (.ref a) (.ref b)) Q E ⟨h, g, d, tk, os⟩ := by
  subst e
  exact eq_dataH_same (S.readI h1) (S.readI h2) (shaped_ints _) (shaped_ints _) hu (by simp only [noMix]; exact mix_ints _ _) (by rw [PyProof.Rows.same_refl]; exact hq)
def SlQ (l u k : Value) (Q : Value → Shared → Prop) (s : Shared) : Prop := Q (.ref s.heap.objs.size) { s with heap := s.heap.push { cls := .type "slice", data := .fields #[l, u, k] } }
theorem sliceE {M : Model} {s : Shared} {lo hi st : Option PySem.Expr} {p : Pos} {Q : Value → Shared → Prop} (hq : wpAny M A (evalPart lo env) (fun l s₁ => wpAny M A (evalPart hi env) (fun u s₂ => wpAny M A (evalPart st env) (fun k s₃ => SlQ l u k Q s₃) E s₂) E s₁) E s) :
    wpAny M A (eval (.Slice lo hi st p) env) Q E s := wpAny_Slice hq
theorem partN {M : Model} {s : Shared} {Q : Value → Shared → Prop} (hq : Q .none s) : wpAny M A (evalPart none env) Q E s := wpAny_of_eq rfl hq
theorem partS {M : Model} {s : Shared} {e : PySem.Expr} {Q : Value → Shared → Prop} (hq : wpAny M A (eval e env) Q E s) : wpAny M A (evalPart (some e) env) Q E s := hq
theorem SlQ.of {l u k : Value} {Q : Value → Shared → Prop} (S : St K L env gl al m n h) (hq : ∀ r h', St K L env gl al m ((r, SliceP l u k) :: n) h' → Q (.ref r) ⟨h', g, d, tk, os⟩) : SlQ l u k Q ⟨h, g, d, tk, os⟩ :=
  hq _ _ (S.push (SliceP l u k) rfl ⟨rfl, rfl⟩)
theorem St.weakN {P P' : OP} (S : St K L env gl al m ((a, P) :: n) h) (hp : ∀ o, P o → P' o) : St K L env gl al m ((a, P') :: n) h := (S.promote.weakM (.head _) .head hp).demote
end
end Mine
end
section
open PySem PySem.W PyProof.Rows PySem.Calls
set_option autoImplicit false
namespace Mine
abbrev glKept : List (Str × Value) := [("range", .type "range"), ("_law_kept", .ref 384)]
def nmKept : List Str := ["one", "two", "top", "stop", "left", "edge", "size", "row", "col", "k", "l", "n", "ahead", "behind"]
abbrev alKept (one two top stop left edge size row col k l n ahead behind : Option Value) : AL := [("one", one), ("two", two), ("top", top), ("stop", stop), ("left", left), ("edge", edge), ("size", size), ("row", row), ("col", col), ("k", k), ("l", l), ("n", n), ("ahead", ahead), ("behind", behind)]
inductive OkKept (one two : List Int) (top stop left edge : Int) (n : LT) (v : Value) : Prop
  | mk (r : Addr) (vs : List Value) (rows : List (Int × Int × Int)) (e : v = .ref r) (hr : (r, ListP vs) ∈ n) (hk : Kept one two top stop left edge rows) (hw : RowsIn (.type "tuple") n vs (rows.map fun r => [.i r.1, .i r.2.1, .i r.2.2]))
inductive K1a (F : Option Value → Option Value → Option Value → Option Value → Option Value → Option Value → Option Value → Option Value → AL) (one two : List Int) (top stop left edge : Int) (p : Int) (al : AL) (m n : LT) : Prop
  | mk (s1 s2 s3 : Tok) (size row col : Int) (k l nn : Option Value) (e1 : al = F (some (.int size s1)) (some (.int row s2)) (some (.int col s3)) k l nn none none) (e2 : m = []) (h : Sofar one two top stop left edge p left row col size)
inductive K1b (F : Option Value → Option Value → Option Value → Option Value → Option Value → Option Value → Option Value → Option Value → AL) (one two : List Int) (top stop left edge p : Int) (q : Addr × OP) (r : Int) (al : AL) (m n : LT) : Prop
  | mk (s0 s1 s2 s3 : Tok) (size row col : Int) (l nn : Option Value) (e1 : al = F (some (.int size s1)) (some (.int row s2)) (some (.int col s3)) (some (.int p s0)) l nn none none) (e2 : m = [q]) (h : Sofar one two top stop left edge p r row col size)
inductive K1c (F : Option Value → Option Value → Option Value → Option Value → Option Value → Option Value → Option Value → Option Value → AL) (size row col p r : Int) (q2 q : Addr × OP) (X : Int → Prop) (al : AL) (m n : LT) : Prop
  | mk (s0 s1 s2 s3 s4 s5 : Tok) (nn : Int) (e1 : al = F (some (.int size s1)) (some (.int row s2)) (some (.int col s3)) (some (.int p s0)) (some (.int r s4)) (some (.int nn s5)) none none) (e2 : m = [q2, q]) (h : X nn)
theorem kept_does {prog : Program} {w : World} {h₁ : Heap} {a1 a2 : Addr} {one two : List Int} (P : Params) : ∀ (N : Nat) (top stop left edge : Int) (t1 t2 t3 t4 : Tok) (L : LT), Bs (K P) h₁ L → (a1, IntsP one) ∈ L → (a2, IntsP two) ∈ L →
    0 ≤ top → top ≤ stop → stop ≤ one.length → 0 ≤ left → left ≤ edge → edge ≤ two.length → one.length ≤ 1000 → two.length ≤ 1000 → stop - top ≤ N →
    Does prog w L (N + 1) (.ref 384) [.ref a1, .ref a2, .int top t1, .int stop t2, .int left t3, .int edge t4]
      (OkKept one two top stop left edge) := by
  intro N
  induction N using Nat.strongRecOn with | ind N ih =>
  intro top stop left edge t1 t2 t3 t4 L B m1 m2 h1 h2 h3 h4 h5 h6 h7 h8 h9
  refine enter B (f := 384) (name := _) (qual := _) (params := _) (body := _) (scope := _) (dV := _) (kV := _) (doc := _) (pm := _) (cdv := _) (ct := _) (oc := _) (an := _) (od := _) (osl := _) rfl (by rfl) glKept
    (alKept (some (.ref a1)) (some (.ref a2)) (some (.int top t1)) (some (.int stop t2)) (some (.int left t3)) (some (.int edge t4)) none none none none none none none none) nmKept rfl
    [("one", .ref a1), ("two", .ref a2), ("top", .int top t1), ("stop", .int stop t2), ("left", .int left t3), ("edge", .int edge t4)] (fun s _ => BindsTo.of_eq rfl) (fun L' => ?_) ?_ (by kernel_rfl!) (by lia  ) ?_
  case refine_1 => exact ⟨rfl, rfl, rfl, by rfl, by decide +kernel, ⟨rfl, .inr ⟨by rfl, by rfl, by decide +kernel⟩⟩, ⟨rfl, .inl (by rfl)⟩, trivial⟩
  case refine_2 => exact hal_of (binds := [("one", .ref a1), ("two", .ref a2), ("top", .int top t1), ("stop", .int stop t2), ("left", .int left t3), ("edge", .int edge t4)]) (ns := nmKept.drop 6) (by show (nmKept.take 6).Nodup; decide +kernel)
  intro A h g d tk os E env Q RM henv G S
  have hh := RM.hh
  refine xSwap ["size", "row", "col"] henv ?_
  refine spC ?_
  with_reducible refine cI fun _ _ => ?_
  refine spC ?_
  refine St.ld (by assumption) (by with_reducible exact Mine.at2) ?_
  refine spC ?_
  refine St.ld (by assumption) (by with_reducible exact Mine.at4) ?_
  with_reducible refine spN ?_
  refine newTupUnpack (by assumption) (by assumption) rfl fun _ _ => ?_
  refine asgN ?_
  refine St.st (by assumption) (by with_reducible exact Mine.put8) fun _ _ _ => ?_
  refine asgN ?_
  refine St.st (by assumption) (by with_reducible exact Mine.put7) fun _ _ _ => ?_
  refine asgN ?_
  refine St.st (by assumption) (by with_reducible exact Mine.put6) fun _ _ _ => ?_
  refine assignInOrder_nil ?_
  refine xFor ?_
  refine eCallT (by assumption) (by assumption) (by with_reducible exact Mine.at0) ?_
  refine spC ?_
  refine St.ld (by assumption) (by with_reducible exact Mine.at2) ?_
  refine spC ?_
  refine St.ld (by assumption) (by with_reducible exact Mine.at3) ?_
  with_reducible refine spN ?_
  refine call_range (by assumption) fun _ _ _ _ => ?_
  refine iter_range (by assumption) (by (with_reducible refine List.mem_append_right _ ?_; (with_reducible refine List.mem_append_left _ ?_; with_reducible exact List.mem_cons_self))) h1 h2 (by lia  ) fun it1 h' S => ?_
  refine forRange (K1a (alKept (some (.ref a1)) (some (.ref a2)) (some (.int top t1)) (some (.int stop t2)) (some (.int left t3)) (some (.int edge t4))) one two top stop left edge) hh h2 S ⟨_, _, _, _, _, _, _, _, _, rfl, rfl, Sofar.start h2 h5⟩ ?_ ?_
  · rintro p al m n h tk t q E Q1 p1 p2 ⟨s1, s2, s3, size, row, col, k, l, nn, rfl, rfl, hs⟩ hN1 hB1 hR1 S
    with_reducible refine assign_Name ?_
    refine St.st (by assumption) (by with_reducible exact Mine.put9) fun _ _ _ => ?_
    refine xFor ?_
    refine eCallT (by assumption) (by assumption) (by with_reducible exact Mine.at0) ?_
    refine spC ?_
    refine St.ld (by assumption) (by with_reducible exact Mine.at4) ?_
    refine spC ?_
    refine St.ld (by assumption) (by with_reducible exact Mine.at5) ?_
    with_reducible refine spN ?_
    refine call_range (by assumption) fun _ _ _ _ => ?_
    refine iter_range (by assumption) (by (with_reducible refine List.mem_append_right _ ?_; (with_reducible refine List.mem_append_left _ ?_; with_reducible exact List.mem_cons_self))) h4 h5 (by lia  ) fun it1 h' S => ?_
    refine forRange (K1b (alKept (some (.ref a1)) (some (.ref a2)) (some (.int top t1)) (some (.int stop t2)) (some (.int left t3)) (some (.int edge t4))) one two top stop left edge p q) hh h5 S ⟨_, _, _, _, _, _, _, _, _, rfl, rfl, hs⟩ ?_ ?_
    · rintro r al m n h tk t q2 E Q2 r1 r2 ⟨s0, s1, s2, s3, size, row, col, l, nn, rfl, rfl, hs⟩ hN2 hB2 hR2 S
      with_reducible refine assign_Name ?_
      refine St.st (by assumption) (by with_reducible exact Mine.put10) fun _ _ _ => ?_
      refine xAsgI (by assumption) (by exact EvI.ct) (fun _ => by with_reducible exact Mine.put11) fun _ _ _ _ => ?_
      with_reducible refine xWhile ?_
      refine whileSt (fun k => K1c (alKept (some (.ref a1)) (some (.ref a2)) (some (.int top t1)) (some (.int stop t2)) (some (.int left t3)) (some (.int edge t4))) size row col p r q2 q (fun nn => Blk one two top stop left edge p r nn ∧ k = (stop - p - nn).toNat)) (K1c (alKept (some (.ref a1)) (some (.ref a2)) (some (.int top t1)) (some (.int stop t2)) (some (.int left t3)) (some (.int edge t4))) size row col p r q2 q (fun nn => Blk one two top stop left edge p r nn ∧ (stop ≤ p + nn ∨ edge ≤ r + nn ∨ one[(p + nn).toNat]? ≠ two[(r + nn).toNat]?))) (by assumption)
        ⟨_, _, _, _, _, _, _, rfl, rfl, Blk.zero p1 (by lia  ) r1 (by lia  ), rfl⟩ ?_ ?_
      · rintro k al m n h tk E Q3 X3 ⟨s0, s1, s2, s3, s4, s5, nn, rfl, rfl, hb, rfl⟩ hN3 hB3 hR3 hX3 S
        with_reducible refine isTrue_and ?_
        with_reducible refine vCmp (by assumption) (by with_reducible refine EvI.add (by with_reducible exact EvI.nm (by with_reducible exact Mine.at9)) (by with_reducible exact EvI.nm (by with_reducible exact Mine.at11))) (by with_reducible exact EvI.nm (by with_reducible exact Mine.at3)) (by with_unfolding_all exact rfl) fun _ => ?_
        have hb' := id hb
        obtain ⟨b1, b2, b3, b4, b5, -⟩ := hb'
        refine ifD (fun c => ?_) fun c => ifF (hX3 _ _ _ _ _ ⟨_, _, _, _, _, _, _, rfl, rfl, hb, .inl (by lia  )⟩ (by assumption))
        with_reducible refine isTrue_and ?_
        with_reducible refine vCmp (by assumption) (by with_reducible refine EvI.add (by with_reducible exact EvI.nm (by with_reducible exact Mine.at10)) (by with_reducible exact EvI.nm (by with_reducible exact Mine.at11))) (by with_reducible exact EvI.nm (by with_reducible exact Mine.at5)) (by with_unfolding_all exact rfl) fun _ => ?_
        refine ifD (fun c2 => ?_) fun c => ifF (hX3 _ _ _ _ _ ⟨_, _, _, _, _, _, _, rfl, rfl, hb, .inr (.inl (by lia  ))⟩ (by assumption))
        with_reducible refine isTrue_and ?_
        refine wpAny_isTrue_Compare1 ?_
        with_reducible refine Subscript_ ?_
        refine St.ld (by assumption) (by with_reducible exact Mine.at0) ?_
        with_reducible refine wpAny_BinOp ?_
        refine St.ld (by assumption) (by with_reducible exact Mine.at9) ?_
        refine St.ld (by assumption) (by with_reducible exact Mine.at11) ?_
        with_reducible refine addI fun _ _ => ?_
        obtain ⟨y1, hy1⟩ : ∃ y, one[(p + nn).toNat]? = some y := ⟨_, List.getElem?_eq_getElem (by lia  )⟩
        obtain ⟨y2, hy2⟩ : ∃ y, two[(r + nn).toNat]? = some y := ⟨_, List.getElem?_eq_getElem (by lia  )⟩
        refine gIdx (by assumption) (xs := one) (by (with_reducible refine List.mem_append_right _ ?_; (with_reducible refine List.mem_append_right _ ?_; with_reducible assumption))) (by lia  ) (by lia  ) hy1 fun _ => ?_
        with_reducible refine Subscript_ ?_
        refine St.ld (by assumption) (by with_reducible exact Mine.at1) ?_
        with_reducible refine wpAny_BinOp ?_
        refine St.ld (by assumption) (by with_reducible exact Mine.at10) ?_
        refine St.ld (by assumption) (by with_reducible exact Mine.at11) ?_
        with_reducible refine addI fun _ _ => ?_
        refine gIdx (by assumption) (xs := two) (by (with_reducible refine List.mem_append_right _ ?_; (with_reducible refine List.mem_append_right _ ?_; with_reducible assumption))) (by lia  ) (by lia  ) hy2 fun _ => ?_
        with_reducible refine tEq ?_
        refine ifE (fun c3 => ?_) fun c => ifF (hX3 _ _ _ _ _ ⟨_, _, _, _, _, _, _, rfl, rfl, hb, .inr (.inr (by rw [hy1, hy2]; simpa using c))⟩ (by assumption))
        with_reducible refine isTrue_and_nil ?_
        refine ifT ?_
        refine xAugI (by assumption) (by with_reducible exact Mine.at11) (by exact EvI.ct) (fun _ => by with_reducible exact Mine.put11) fun _ _ _ _ => ?_
        exact xEnd (hN3 _ _ _ _ _ _ (by lia  ) ⟨_, _, _, _, _, _, _, rfl, rfl, hb.more c c2 (by rw [hy1, hy2, c3]), rfl⟩ (by assumption)).1
      · rintro al m n h tk ⟨s0, s1, s2, s3, s4, s5, nn, rfl, rfl, hb, hx⟩ S
        refine xIf ?_
        with_reducible refine nCmp (by assumption) (by with_reducible exact Mine.at11) (by with_reducible exact Mine.at6) (by with_unfolding_all exact rfl) ?_
        refine ifD (fun c => ?_) fun c => ?_
        · refine xSwap ["size", "row", "col"] henv ?_
          refine spC ?_
          refine St.ld (by assumption) (by with_reducible exact Mine.at11) ?_
          refine spC ?_
          refine St.ld (by assumption) (by with_reducible exact Mine.at9) ?_
          refine spC ?_
          refine St.ld (by assumption) (by with_reducible exact Mine.at10) ?_
          with_reducible refine spN ?_
          refine newTupUnpack (by assumption) (by assumption) rfl fun _ _ => ?_
          refine asgN ?_
          refine St.st (by assumption) (by with_reducible exact Mine.put8) fun _ _ _ => ?_
          refine asgN ?_
          refine St.st (by assumption) (by with_reducible exact Mine.put7) fun _ _ _ => ?_
          refine asgN ?_
          refine St.st (by assumption) (by with_reducible exact Mine.put6) fun _ _ _ => ?_
          refine assignInOrder_nil ?_
          exact xEnd (hN2 _ _ _ _ _ ⟨_, _, _, _, _, _, _, _, _, rfl, rfl, hs.take hb (hb.max hx) c⟩ (by assumption)).1
        · exact xEnd (hN2 _ _ _ _ _ ⟨_, _, _, _, _, _, _, _, _, rfl, rfl, hs.leave (hb.max hx) (by lia  )⟩ S).1
    · rintro al m n h tk ⟨s0, s1, s2, s3, size, row, col, l, nn, rfl, rfl, hs⟩ S
      exact xEnd (hN1 _ _ _ _ _ ⟨_, _, _, _, _, _, _, _, _, rfl, rfl, hs.row⟩ S).1
  · rintro al m n h tk ⟨s1, s2, s3, size, row, col, k, l, nn, rfl, rfl, hs⟩ S
    have hB := hs.best
    have hB' := id hB
    obtain ⟨z0, ⟨b1, b2, b3, b4, b5, -⟩, -⟩ := hB'
    refine xIf ?_
    with_reducible refine vCmp (by assumption) (by with_reducible exact EvI.nm (by with_reducible exact Mine.at6)) (by exact EvI.ct) (by with_unfolding_all exact rfl) fun _ => ?_
    refine ifE (fun c => ?_) fun c => ?_
    · with_reducible refine appC ?_
      with_reducible refine xRet ?_
      with_reducible refine List_ ?_
      with_reducible refine spN ?_
      refine newLstS (by assumption) fun r h' S => ?_
      exact G _ _ _ _ S.fin ⟨_, _, [], rfl, by (with_reducible refine List.mem_cons_of_mem _ ?_; (with_reducible refine List.mem_append_right _ ?_; with_reducible exact List.mem_cons_self)), .nil (c ▸ hB), .nil⟩ _ rfl
    · with_reducible refine appN ?_
      refine xAssign ?_
      refine eCallK (by assumption) (by assumption) (by with_reducible exact Mine.at1) (by rfl) ?_
      refine spC ?_
      refine St.ld (by assumption) (by with_reducible exact Mine.at0) ?_
      refine spC ?_
      refine St.ld (by assumption) (by with_reducible exact Mine.at1) ?_
      refine spC ?_
      refine St.ld (by assumption) (by with_reducible exact Mine.at2) ?_
      refine spC ?_
      refine St.ld (by assumption) (by with_reducible exact Mine.at7) ?_
      refine spC ?_
      refine St.ld (by assumption) (by with_reducible exact Mine.at4) ?_
      refine spC ?_
      refine St.ld (by assumption) (by with_reducible exact Mine.at8) ?_
      with_reducible refine spN ?_
      have z1 : 1 ≤ N := by lia  
      refine ⟨kIn (by assumption) B, St.call (by assumption) (ih (N - 1) (by lia  ) top row left col t1 s2 t3 s3 _ (B.mono fun p hp => by (with_reducible refine List.mem_cons_of_mem _ ?_; (with_reducible refine List.mem_append_right _ ?_; (with_reducible refine List.mem_append_right _ ?_; with_reducible assumption)))) (by (with_reducible refine List.mem_cons_of_mem _ ?_; (with_reducible refine List.mem_append_right _ ?_; (with_reducible refine List.mem_append_right _ ?_; with_reducible assumption)))) (by (with_reducible refine List.mem_cons_of_mem _ ?_; (with_reducible refine List.mem_append_right _ ?_; (with_reducible refine List.mem_append_right _ ?_; with_reducible assumption)))) h1 b1 (by lia  ) h4 b3 (by lia  ) h7 h8 (by lia  )) (RM.le (by lia  )) ?_⟩
      rintro h' n1 v tk1 ⟨r1, vs1, rows1, rfl, hr1, hk1, hw1⟩ S
      refine St.st (by assumption) (by with_reducible exact Mine.put12) fun _ _ _ => ?_
      refine xAssign ?_
      refine eCallK (by assumption) (by assumption) (by with_reducible exact Mine.at1) (by rfl) ?_
      refine spC ?_
      refine St.ld (by assumption) (by with_reducible exact Mine.at0) ?_
      refine spC ?_
      refine St.ld (by assumption) (by with_reducible exact Mine.at1) ?_
      refine spC ?_
      with_reducible refine wpAny_BinOp ?_
      refine St.ld (by assumption) (by with_reducible exact Mine.at7) ?_
      refine St.ld (by assumption) (by with_reducible exact Mine.at6) ?_
      with_reducible refine addI fun _ _ => ?_
      refine spC ?_
      refine St.ld (by assumption) (by with_reducible exact Mine.at3) ?_
      refine spC ?_
      with_reducible refine wpAny_BinOp ?_
      refine St.ld (by assumption) (by with_reducible exact Mine.at8) ?_
      refine St.ld (by assumption) (by with_reducible exact Mine.at6) ?_
      with_reducible refine addI fun _ _ => ?_
      refine spC ?_
      refine St.ld (by assumption) (by with_reducible exact Mine.at5) ?_
      with_reducible refine spN ?_
      refine ⟨kIn (by assumption) B, St.call (by assumption) (ih (N - 1) (by lia  ) (row + size) stop (col + size) edge _ _ _ _ _ (B.mono fun p hp => by (with_reducible refine List.mem_cons_of_mem _ ?_; (with_reducible refine List.mem_append_right _ ?_; (with_reducible refine List.mem_append_right _ ?_; with_reducible assumption)))) (by (with_reducible refine List.mem_cons_of_mem _ ?_; (with_reducible refine List.mem_append_right _ ?_; (with_reducible refine List.mem_append_right _ ?_; with_reducible assumption)))) (by (with_reducible refine List.mem_cons_of_mem _ ?_; (with_reducible refine List.mem_append_right _ ?_; (with_reducible refine List.mem_append_right _ ?_; with_reducible assumption)))) (by lia  ) (by lia  ) h3 (by lia  ) (by lia  ) h6 h7 h8 (by lia  )) (RM.le (by lia  )) ?_⟩
      rintro h' n2 v tk1 ⟨r2, vs2, rows2, rfl, hr2, hk2, hw2⟩ S
      refine St.st (by assumption) (by with_reducible exact Mine.put13) fun _ _ _ => ?_
      with_reducible refine xRet ?_
      with_reducible refine wpAny_BinOp ?_
      with_reducible refine wpAny_BinOp ?_
      refine St.ld (by assumption) (by with_reducible exact Mine.at12) ?_
      with_reducible refine List_ ?_
      refine spC ?_
      with_reducible refine Tuple_ ?_
      refine spC ?_
      refine St.ld (by assumption) (by with_reducible exact Mine.at7) ?_
      refine spC ?_
      refine St.ld (by assumption) (by with_reducible exact Mine.at8) ?_
      refine spC ?_
      refine St.ld (by assumption) (by with_reducible exact Mine.at6) ?_
      with_reducible refine spN ?_
      refine newTupS (by assumption) (RowP (.type "tuple") [.i row, .i col, .i size]) ⟨_, _, .int _ _ (.int _ _ (.int _ _ .nil)), rfl, rfl⟩ fun t h' S => ?_
      with_reducible refine spN ?_
      refine newLstS (by assumption) fun r h' S => ?_
      have e1 := hk1.len
      have e2 := hk2.len
      have e3 := hw1.length
      have e4 := hw2.length
      simp only [List.length_map] at e3 e4
      refine addL (by assumption) (vs := vs1) (by (with_reducible refine List.mem_append_right _ ?_; (with_reducible refine List.mem_append_left _ ?_; (with_reducible refine List.mem_cons_of_mem _ ?_; (with_reducible refine List.mem_cons_of_mem _ ?_; (with_reducible refine List.mem_append_right _ ?_; (with_reducible refine List.mem_append_left _ ?_; with_reducible assumption))))))) (by (with_reducible refine List.mem_append_right _ ?_; (with_reducible refine List.mem_append_left _ ?_; with_reducible exact List.mem_cons_self))) (by simp; lia  ) fun r3 h' S => ?_
      refine St.ld (by assumption) (by with_reducible exact Mine.at13) ?_
      refine addL (by assumption) (ws := vs2) (by (with_reducible refine List.mem_append_right _ ?_; (with_reducible refine List.mem_append_left _ ?_; with_reducible exact List.mem_cons_self))) (by (with_reducible refine List.mem_append_right _ ?_; (with_reducible refine List.mem_append_left _ ?_; (with_reducible refine List.mem_cons_of_mem _ ?_; (with_reducible refine List.mem_cons_of_mem _ ?_; (with_reducible refine List.mem_cons_of_mem _ ?_; (with_reducible refine List.mem_append_left _ ?_; with_reducible assumption))))))) (by simp; lia  ) fun r4 h' S => ?_
      refine G _ _ _ _ S.fin ⟨_, _, rows1 ++ (row, col, size) :: rows2, rfl, by (with_reducible refine List.mem_cons_of_mem _ ?_; (with_reducible refine List.mem_append_right _ ?_; with_reducible exact List.mem_cons_self)), .node hB (by lia  ) hk1 hk2, ?_⟩ _ rfl
      rw [List.map_append, List.map_cons, List.append_assoc]
      exact (hw1.mono fun p hp => by (with_reducible refine List.mem_cons_of_mem _ ?_; (with_reducible refine List.mem_append_right _ ?_; (with_reducible refine List.mem_cons_of_mem _ ?_; (with_reducible refine List.mem_cons_of_mem _ ?_; (with_reducible refine List.mem_cons_of_mem _ ?_; (with_reducible refine List.mem_cons_of_mem _ ?_; (with_reducible refine List.mem_append_right _ ?_; (with_reducible refine List.mem_append_left _ ?_; with_reducible assumption))))))))).append (.cons (by (with_reducible refine List.mem_cons_of_mem _ ?_; (with_reducible refine List.mem_append_right _ ?_; (with_reducible refine List.mem_cons_of_mem _ ?_; (with_reducible refine List.mem_cons_of_mem _ ?_; (with_reducible refine List.mem_cons_of_mem _ ?_; with_reducible exact List.mem_cons_self)))))) (hw2.mono fun p hp => by (with_reducible refine List.mem_cons_of_mem _ ?_; (with_reducible refine List.mem_append_right _ ?_; (with_reducible refine List.mem_cons_of_mem _ ?_; (with_reducible refine List.mem_cons_of_mem _ ?_; (with_reducible refine List.mem_cons_of_mem _ ?_; (with_reducible refine List.mem_cons_of_mem _ ?_; (with_reducible refine List.mem_append_left _ ?_; with_reducible assumption)))))))))

end Mine
end
section
open PySem PySem.W PyProof.Rows PySem.Calls
set_option autoImplicit false
namespace Mine
abbrev glCodes : List (Str × Value) := [("_law_kept", .ref 384), ("len", .builtin "len"), ("range", .type "range")]
def nmCodes : List Str := ["one", "two", "kept", "codes", "n", "row", "col", "size", "gap", "word"]
abbrev alCodes (one two kept codes n row col size gap word : Option Value) : AL := [("one", one), ("two", two), ("kept", kept), ("codes", codes), ("n", n), ("row", row), ("col", col), ("size", size), ("gap", gap), ("word", word)]
inductive OkCodes (one two : List Int) (n : LT) (v : Value) : Prop
  | mk (r : Addr) (vs : List Value) (ks : List T3) (e : v = .ref r) (h1 : (r, ListP vs) ∈ n) (h2 : Kept one two 0 one.length 0 two.length ks) (h3 : RowsIn (.type "tuple") n vs (codesOf ((0, 0, 0) :: ks ++ [((one.length : Int), (two.length : Int), 0)])))
inductive K2a (F : Option Value → Option Value → Option Value → Option Value → Option Value → Option Value → AL) (c kp : Addr) (kvs : List Value) (R T : List (List Sc)) (al : AL) (m n : LT) : Prop
  | mk (cvs : List Value) (nn row col size gap word : Option Value) (e1 : al = F nn row col size gap word) (e2 : m = [(c, ListP cvs)]) (h1 : RowsIn (.type "tuple") n cvs R) (h2 : (kp, ListP kvs) ∈ n) (h3 : RowsIn (.type "tuple") n kvs T)
inductive K2b (F : Option Value → Option Value → Option Value → Option Value → Option Value → Option Value → AL) (c kp pa qa : Addr) (q : Addr × OP) (i x y z : Int) (kvs : List Value) (R T : List (List Sc)) (U V : List Sc) (al : AL) (m n : LT) : Prop
  | mk (cvs : List Value) (nn s1 s2 s3 : Tok) (gap word : Option Value) (e1 : al = F (some (.int i nn)) (some (.int x s1)) (some (.int y s2)) (some (.int z s3)) gap word) (e2 : m = [q, (c, ListP cvs)])
      (h1 : RowsIn (.type "tuple") n cvs R) (h2 : (kp, ListP kvs) ∈ n) (h3 : RowsIn (.type "tuple") n kvs T) (h4 : (pa, RowP (.type "tuple") U) ∈ n) (h5 : (qa, RowP (.type "tuple") V) ∈ n)
theorem codes_does {prog : Program} {w : World} {h₁ : Heap} {a1 a2 : Addr} {one two : List Int} {L : LT} (P : Params) (N : Nat) (B : Bs (K P) h₁ L) (m1 : (a1, IntsP one) ∈ L) (m2 : (a2, IntsP two) ∈ L)
    (h7 : one.length ≤ N) (hN : N ≤ 100) (h8 : two.length ≤ 1000) :
    Does prog w L (N + 2) (.ref 391) [.ref a1, .ref a2]
      (OkCodes one two) := by
  refine enter B (f := 391) (name := _) (qual := _) (params := _) (body := _) (scope := _) (dV := _) (kV := _) (doc := _) (pm := _) (cdv := _) (ct := _) (oc := _) (an := _) (od := _) (osl := _) rfl (by rfl) glCodes
    (alCodes (some (.ref a1)) (some (.ref a2)) none none none none none none none none) nmCodes rfl
    [("one", .ref a1), ("two", .ref a2)] (fun s _ => BindsTo.of_eq rfl) (fun L' => ?_) ?_ (by kernel_rfl!) (by lia  ) ?_
  case refine_1 => exact ⟨rfl, rfl, rfl, by rfl, by decide +kernel, ⟨rfl, .inl (by rfl)⟩, ⟨rfl, .inr ⟨by rfl, by rfl, by decide +kernel⟩⟩, ⟨rfl, .inr ⟨by rfl, by rfl, by decide +kernel⟩⟩, trivial⟩
  case refine_2 => exact hal_of (binds := [("one", .ref a1), ("two", .ref a2)]) (ns := nmCodes.drop 2) (by show (nmCodes.take 2).Nodup; decide +kernel)
  intro A h g d tk os E env Q RM henv G S
  have hh := RM.hh
  refine xAssign ?_
  with_reducible refine wpAny_BinOp ?_
  with_reducible refine wpAny_BinOp ?_
  with_reducible refine List_ ?_
  refine spC ?_
  with_reducible refine Tuple_ ?_
  refine spC ?_
  with_reducible refine cI fun _ _ => ?_
  refine spC ?_
  with_reducible refine cI fun _ _ => ?_
  refine spC ?_
  with_reducible refine cI fun _ _ => ?_
  with_reducible refine spN ?_
  refine newTupS (by assumption) (RowP (.type "tuple") (tri (0, 0, 0))) ⟨_, _, .int _ _ (.int _ _ (.int _ _ .nil)), rfl, rfl⟩ fun t0 h' S => ?_
  with_reducible refine spN ?_
  refine newLstS (by assumption) fun r0 h' S => ?_
  refine eCallK (by assumption) (by assumption) (by with_reducible exact Mine.at0) (by rfl) ?_
  refine spC ?_
  refine St.ld (by assumption) (by with_reducible exact Mine.at0) ?_
  refine spC ?_
  refine St.ld (by assumption) (by with_reducible exact Mine.at1) ?_
  refine spC ?_
  with_reducible refine cI fun _ _ => ?_
  refine spC ?_
  refine eCallB (by assumption) (by assumption) (by with_reducible exact Mine.at1) ?_
  refine spC ?_
  refine St.ld (by assumption) (by with_reducible exact Mine.at0) ?_
  with_reducible refine spN ?_
  refine lenI (xs := one) (by assumption) (by (with_reducible refine List.mem_append_right _ ?_; (with_reducible refine List.mem_append_right _ ?_; with_reducible assumption))) (by lia  ) fun _ _ => ?_
  refine spC ?_
  with_reducible refine cI fun _ _ => ?_
  refine spC ?_
  refine eCallB (by assumption) (by assumption) (by with_reducible exact Mine.at1) ?_
  refine spC ?_
  refine St.ld (by assumption) (by with_reducible exact Mine.at1) ?_
  with_reducible refine spN ?_
  refine lenI (xs := two) (by assumption) (by (with_reducible refine List.mem_append_right _ ?_; (with_reducible refine List.mem_append_right _ ?_; with_reducible assumption))) (by lia  ) fun _ _ => ?_
  with_reducible refine spN ?_
  refine ⟨kIn (by assumption) B, St.call (by assumption) (kept_does P N 0 one.length 0 two.length _ _ _ _ _ (B.mono fun p hp => by (with_reducible refine List.mem_cons_of_mem _ ?_; (with_reducible refine List.mem_append_right _ ?_; (with_reducible refine List.mem_append_right _ ?_; with_reducible assumption)))) (by (with_reducible refine List.mem_cons_of_mem _ ?_; (with_reducible refine List.mem_append_right _ ?_; (with_reducible refine List.mem_append_right _ ?_; with_reducible assumption)))) (by (with_reducible refine List.mem_cons_of_mem _ ?_; (with_reducible refine List.mem_append_right _ ?_; (with_reducible refine List.mem_append_right _ ?_; with_reducible assumption)))) (by lia  ) (by lia  ) (by lia  ) (by lia  ) (by lia  ) (by lia  ) (by lia  ) (by lia  ) (by lia  )) (RM.le (by lia  )) ?_⟩
  rintro h' n1 v tk1 ⟨r1, vs1, ks, rfl, hr1, hk1, hw1⟩ S
  have e1 := hk1.len
  have e3 := hw1.length
  simp only [List.length_map] at e3
  refine addL (by assumption) (ws := vs1) (by (with_reducible refine List.mem_append_right _ ?_; (with_reducible refine List.mem_append_left _ ?_; (with_reducible refine List.mem_append_right _ ?_; with_reducible exact List.mem_cons_self)))) (by (with_reducible refine List.mem_append_right _ ?_; (with_reducible refine List.mem_append_left _ ?_; (with_reducible refine List.mem_append_left _ ?_; with_reducible assumption)))) (by simp; lia  ) fun r3 h' S => ?_
  with_reducible refine List_ ?_
  refine spC ?_
  with_reducible refine Tuple_ ?_
  refine spC ?_
  refine eCallB (by assumption) (by assumption) (by with_reducible exact Mine.at1) ?_
  refine spC ?_
  refine St.ld (by assumption) (by with_reducible exact Mine.at0) ?_
  with_reducible refine spN ?_
  refine lenI (xs := one) (by assumption) (by (with_reducible refine List.mem_append_right _ ?_; (with_reducible refine List.mem_append_right _ ?_; with_reducible assumption))) (by lia  ) fun _ _ => ?_
  refine spC ?_
  refine eCallB (by assumption) (by assumption) (by with_reducible exact Mine.at1) ?_
  refine spC ?_
  refine St.ld (by assumption) (by with_reducible exact Mine.at1) ?_
  with_reducible refine spN ?_
  refine lenI (xs := two) (by assumption) (by (with_reducible refine List.mem_append_right _ ?_; (with_reducible refine List.mem_append_right _ ?_; with_reducible assumption))) (by lia  ) fun _ _ => ?_
  refine spC ?_
  with_reducible refine cI fun _ _ => ?_
  with_reducible refine spN ?_
  refine newTupS (by assumption) (RowP (.type "tuple") (tri (one.length, two.length, 0))) ⟨_, _, .int _ _ (.int _ _ (.int _ _ .nil)), rfl, rfl⟩ fun t2 h' S => ?_
  with_reducible refine spN ?_
  refine newLstS (by assumption) fun r4 h' S => ?_
  refine addL (by assumption) (ws := [.ref t2]) (by (with_reducible refine List.mem_append_right _ ?_; (with_reducible refine List.mem_append_left _ ?_; (with_reducible refine List.mem_cons_of_mem _ ?_; (with_reducible refine List.mem_cons_of_mem _ ?_; with_reducible exact List.mem_cons_self))))) (by (with_reducible refine List.mem_append_right _ ?_; (with_reducible refine List.mem_append_left _ ?_; with_reducible exact List.mem_cons_self))) (by simp; lia  ) fun kp h' S => ?_
  obtain ⟨KS, hKS⟩ : ∃ KS, KS = (0, 0, 0) :: ks ++ [((one.length : Int), (two.length : Int), (0 : Int))] := ⟨_, rfl⟩
  obtain ⟨kvs, hkvs⟩ : ∃ kvs, kvs = ([Value.ref t0] ++ vs1) ++ [.ref t2] := ⟨_, rfl⟩
  rw [← hkvs] at S
  have hw : RowsIn (.type "tuple") ((kp, ListP kvs) :: (r4, ListP [.ref t2]) :: (t2, RowP (.type "tuple") (tri (one.length, two.length, 0))) :: (r3, ListP ([.ref t0] ++ vs1)) :: (n1 ++ [(r0, ListP [.ref t0]), (t0, RowP (.type "tuple") (tri (0, 0, 0)))])) kvs (KS.map tri) := by
    rw [hKS, hkvs, List.map_append]
    exact RowsIn.append (.cons (by (with_reducible refine List.mem_cons_of_mem _ ?_; (with_reducible refine List.mem_cons_of_mem _ ?_; (with_reducible refine List.mem_cons_of_mem _ ?_; (with_reducible refine List.mem_cons_of_mem _ ?_; (with_reducible refine List.mem_append_right _ ?_; (with_reducible refine List.mem_cons_of_mem _ ?_; with_reducible exact List.mem_cons_self))))))) (hw1.mono fun p hp => by (with_reducible refine List.mem_cons_of_mem _ ?_; (with_reducible refine List.mem_cons_of_mem _ ?_; (with_reducible refine List.mem_cons_of_mem _ ?_; (with_reducible refine List.mem_cons_of_mem _ ?_; (with_reducible refine List.mem_append_left _ ?_; with_reducible assumption))))))) (.cons (by (with_reducible refine List.mem_cons_of_mem _ ?_; (with_reducible refine List.mem_cons_of_mem _ ?_; with_reducible exact List.mem_cons_self))) .nil)
  have hlen : kvs.length = KS.length := by have := hw.length; simpa using this
  have hKl : KS.length = ks.length + 2 := by rw [hKS]; simp
  refine St.st (by assumption) (by with_reducible exact Mine.put2) fun _ _ _ => ?_
  refine xAssign ?_
  with_reducible refine List_ ?_
  with_reducible refine spN ?_
  refine newLstS (by assumption) fun c h' S => ?_
  have S := S.promote
  refine St.st (by assumption) (by with_reducible exact Mine.put3) fun _ _ _ => ?_
  refine xFor ?_
  refine eCallT (by assumption) (by assumption) (by with_reducible exact Mine.at2) ?_
  refine spC ?_
  with_reducible refine cI fun _ _ => ?_
  refine spC ?_
  refine eCallB (by assumption) (by assumption) (by with_reducible exact Mine.at1) ?_
  refine spC ?_
  refine St.ld (by assumption) (by with_reducible exact Mine.at2) ?_
  with_reducible refine spN ?_
  refine lenV (vs := kvs) (by assumption) (by (with_reducible refine List.mem_append_right _ ?_; (with_reducible refine List.mem_append_left _ ?_; with_reducible exact List.mem_cons_self))) (by lia  ) fun _ _ => ?_
  rw [hlen]
  with_reducible refine spN ?_
  refine call_range (by assumption) fun _ _ _ _ => ?_
  refine iter_range (by assumption) (by (with_reducible refine List.mem_append_right _ ?_; (with_reducible refine List.mem_append_left _ ?_; with_reducible exact List.mem_cons_self))) (by lia  ) (by lia  ) (by lia  ) fun it1 h' S => ?_
  refine forRange (fun i => K2a (alCodes (some (.ref a1)) (some (.ref a2)) (some (.ref kp)) (some (.ref c))) c kp kvs (codesOf (KS.take i.toNat)) (KS.map tri)) hh (by lia  ) S ⟨_, _, _, _, _, _, _, rfl, rfl, ?_, by (with_reducible refine List.mem_cons_of_mem _ ?_; with_reducible exact List.mem_cons_self), hw.mono fun p hp => by (with_reducible refine List.mem_cons_of_mem _ ?_; with_reducible assumption)⟩ ?_ ?_
  · rw [hKS]; exact .nil
  · rintro i al m n h tk t q E Q1 i1 i2 ⟨cvs, nn, row, col, size, gap, word, rfl, rfl, hc, hkp, hw⟩ hN1 hB1 hR1 S
    have hcl := hc.length
    have hcl2 := codes_len (KS.take i.toNat)
    have hcl3 : (KS.take i.toNat).length ≤ KS.length := by rw [List.length_take]; lia  
    obtain ⟨p, hp⟩ : ∃ y, KS[(i - 1).toNat]? = some y := ⟨_, List.getElem?_eq_getElem (by lia  )⟩
    obtain ⟨p', hp'⟩ : ∃ y, KS[i.toNat]? = some y := ⟨_, List.getElem?_eq_getElem (by lia  )⟩
    obtain ⟨pa, hpa, hpm⟩ := hw.at (k := (i - 1).toNat) (r := tri p) (by rw [List.getElem?_map, hp]; rfl)
    obtain ⟨qa, hqa, hqm⟩ := hw.at (k := i.toNat) (r := tri p') (by rw [List.getElem?_map, hp']; rfl)
    have hcod : codesOf (KS.take (i + 1).toNat) = codesOf (KS.take i.toNat) ++ stepR p p' := by
      have := codesOf_take (k := (i - 1).toNat) hp (by rw [← hp']; congr 1; lia  )
      rw [show (i + 1).toNat = (i - 1).toNat + 2 by lia  , this]
      congr 3; lia  
    obtain ⟨x, y, z⟩ := p
    obtain ⟨x', y', z'⟩ := p'
    with_reducible refine assign_Name ?_
    refine St.st (by assumption) (by with_reducible exact Mine.put4) fun _ _ _ => ?_
    refine xUnpack ?_
    with_reducible refine Subscript_ ?_
    refine St.ld (by assumption) (by with_reducible exact Mine.at2) ?_
    with_reducible refine wpAny_BinOp ?_
    refine St.ld (by assumption) (by with_reducible exact Mine.at4) ?_
    with_reducible refine cI fun _ _ => ?_
    with_reducible refine subI fun _ _ => ?_
    refine gVal (by assumption) (vs := kvs) (by (with_reducible refine List.mem_append_right _ ?_; (with_reducible refine List.mem_append_left _ ?_; with_reducible assumption))) (by lia  ) (by lia  ) hpa ?_
    refine unpackRow (r := tri (x, y, z)) (by assumption) (by (with_reducible refine List.mem_append_right _ ?_; (with_reducible refine List.mem_append_left _ ?_; with_reducible assumption))) hh (by rfl) (by rfl) fun vs h' hv S => ?_
    obtain ⟨u1, u2, u3, rfl⟩ := sc3 hv
    refine assignInOrder_cons (assign_Name ?_)
    refine St.st (by assumption) (by with_reducible exact Mine.put5) fun _ _ _ => ?_
    refine assignInOrder_cons (assign_Name ?_)
    refine St.st (by assumption) (by with_reducible exact Mine.put6) fun _ _ _ => ?_
    refine assignInOrder_cons (assign_Name ?_)
    refine St.st (by assumption) (by with_reducible exact Mine.put7) fun _ _ _ => ?_
    refine assignInOrder_nil ?_
    refine xIfJ (by assumption) (K2b (alCodes (some (.ref a1)) (some (.ref a2)) (some (.ref kp)) (some (.ref c))) c kp pa qa q i x y z kvs (codesOf (KS.take i.toNat) ++ eqR (x, y, z)) (KS.map tri) (tri (x, y, z)) (tri (x', y', z'))) ?_ ?_
    · intro Q2 hN2 hR2
      with_reducible refine vCmp (by assumption) (by with_reducible exact EvI.nm (by with_reducible exact Mine.at7)) (by exact EvI.ct) (by with_unfolding_all exact rfl) fun _ => ?_
      refine ifD (fun cz => ?_) fun cz => ?_
      · refine xExpr (by assumption) ?_
        (refine methL PySem.F.slot_list_append PySem.F.type_list_append ?_; refine St.ld (by assumption) (by with_reducible exact Mine.at3) ?_; refine ⟨St.lst (by assumption) (by (with_reducible refine List.mem_append_left _ ?_; (with_reducible refine List.mem_cons_of_mem _ ?_; with_reducible exact List.mem_cons_self))), ?_⟩)
        refine spC ?_
        with_reducible refine Tuple_ ?_
        refine spC ?_
        with_reducible refine cS fun _ _ => ?_
        refine spC ?_
        refine St.ld (by assumption) (by with_reducible exact Mine.at5) ?_
        refine spC ?_
        with_reducible refine wpAny_BinOp ?_
        refine St.ld (by assumption) (by with_reducible exact Mine.at5) ?_
        refine St.ld (by assumption) (by with_reducible exact Mine.at7) ?_
        with_reducible refine addI fun _ _ => ?_
        refine spC ?_
        refine St.ld (by assumption) (by with_reducible exact Mine.at6) ?_
        refine spC ?_
        with_reducible refine wpAny_BinOp ?_
        refine St.ld (by assumption) (by with_reducible exact Mine.at6) ?_
        refine St.ld (by assumption) (by with_reducible exact Mine.at7) ?_
        with_reducible refine addI fun _ _ => ?_
        with_reducible refine spN ?_
        refine newTupS (by assumption) (RowP (.type "tuple") [.s "equal", .i x, .i (x + z), .i y, .i (y + z)]) ⟨_, _, .str _ _ (.int _ _ (.int _ _ (.int _ _ (.int _ _ .nil)))), rfl, rfl⟩ fun t h' S => ?_
        with_reducible refine spN ?_
        refine appendS (by assumption) (vs := cvs) (by (with_reducible refine List.mem_cons_of_mem _ ?_; with_reducible exact List.mem_cons_self)) (by (with_reducible exact Up.tail (by with_reducible exact Up.head))) (by lia  ) fun h' S => ?_
        skip
        refine xEnd (hN2 _ _ _ _ _ ⟨_, _, _, _, _, _, _, rfl, rfl, ?_, by (with_reducible refine List.mem_cons_of_mem _ ?_; with_reducible assumption), hw.mono fun p hp => by (with_reducible refine List.mem_cons_of_mem _ ?_; with_reducible assumption), by (with_reducible refine List.mem_cons_of_mem _ ?_; with_reducible assumption), by (with_reducible refine List.mem_cons_of_mem _ ?_; with_reducible assumption)⟩ S)
        have e : eqR (x, y, z) = [[.s "equal", .i x, .i (x + z), .i y, .i (y + z)]] := if_pos cz
        rw [e]
        exact (hc.mono fun p hp => by (with_reducible refine List.mem_cons_of_mem _ ?_; with_reducible assumption)).append (.cons (by (with_reducible exact List.mem_cons_self)) .nil)
      · have e : eqR (x, y, z) = [] := if_neg cz
        refine xEnd (hN2 _ _ _ _ _ ⟨_, _, _, _, _, _, _, rfl, rfl, ?_, by (with_reducible assumption), hw, by (with_reducible assumption), by (with_reducible assumption)⟩ (by assumption))
        rw [e, List.append_nil]; exact hc
    · rintro al m n h tk ⟨cvs, nn, s1, s2, s3, gap, word, rfl, rfl, hc, hkp, hw, hpm, hqm⟩ S
      refine xAssign ?_
      with_reducible refine Tuple_ ?_
      refine spC ?_
      with_reducible refine wpAny_BinOp ?_
      with_reducible refine wpAny_BinOp ?_
      with_reducible refine Subscript_ ?_
      with_reducible refine Subscript_ ?_
      refine St.ld (by assumption) (by with_reducible exact Mine.at2) ?_
      refine St.ld (by assumption) (by with_reducible exact Mine.at4) ?_
      refine gVal (by assumption) (vs := kvs) (by (with_reducible refine List.mem_append_right _ ?_; (with_reducible refine List.mem_append_left _ ?_; with_reducible assumption))) (by lia  ) (by lia  ) hqa ?_
      with_reducible refine cI fun _ _ => ?_
      refine gRow (k := 0) (r := tri (x', y', z')) (c := .i x') (by assumption) (by (with_reducible refine List.mem_append_right _ ?_; (with_reducible refine List.mem_append_left _ ?_; with_reducible assumption))) rfl (by simp [tri]) fun v hv => ?_
      obtain ⟨u1, rfl⟩ := sc1 hv
      refine St.ld (by assumption) (by with_reducible exact Mine.at5) ?_
      with_reducible refine subI fun _ _ => ?_
      refine St.ld (by assumption) (by with_reducible exact Mine.at7) ?_
      with_reducible refine subI fun _ _ => ?_
      refine spC ?_
      with_reducible refine wpAny_BinOp ?_
      with_reducible refine wpAny_BinOp ?_
      with_reducible refine Subscript_ ?_
      with_reducible refine Subscript_ ?_
      refine St.ld (by assumption) (by with_reducible exact Mine.at2) ?_
      refine St.ld (by assumption) (by with_reducible exact Mine.at4) ?_
      refine gVal (by assumption) (vs := kvs) (by (with_reducible refine List.mem_append_right _ ?_; (with_reducible refine List.mem_append_left _ ?_; with_reducible assumption))) (by lia  ) (by lia  ) hqa ?_
      with_reducible refine cI fun _ _ => ?_
      refine gRow (k := 1) (r := tri (x', y', z')) (c := .i y') (by assumption) (by (with_reducible refine List.mem_append_right _ ?_; (with_reducible refine List.mem_append_left _ ?_; with_reducible assumption))) rfl (by simp [tri]) fun v hv => ?_
      obtain ⟨u2, rfl⟩ := sc1 hv
      refine St.ld (by assumption) (by with_reducible exact Mine.at6) ?_
      with_reducible refine subI fun _ _ => ?_
      refine St.ld (by assumption) (by with_reducible exact Mine.at7) ?_
      with_reducible refine subI fun _ _ => ?_
      with_reducible refine spN ?_
      refine newTupS (by assumption) (RowP (.type "tuple") [.i (x' - x - z), .i (y' - y - z)]) ⟨_, _, .int _ _ (.int _ _ .nil), rfl, rfl⟩ fun gp h' S => ?_
      refine St.st (by assumption) (by with_reducible exact Mine.put8) fun _ _ _ => ?_
      refine xIf ?_
      refine wpAny_isTrue_Compare1 ?_
      refine St.ld (by assumption) (by with_reducible exact Mine.at8) ?_
      with_reducible refine Tuple_ ?_
      refine spC ?_
      with_reducible refine cI fun _ _ => ?_
      refine spC ?_
      with_reducible refine cI fun _ _ => ?_
      with_reducible refine spN ?_
      refine newTupS (by assumption) (RowP (.type "tuple") [.i 0, .i 0]) ⟨_, _, .int _ _ (.int _ _ .nil), rfl, rfl⟩ fun zp h' S => ?_
      refine nePair (p := x' - x - z) (q := y' - y - z) (p' := 0) (q' := 0) (by assumption) (by (with_reducible refine List.mem_append_right _ ?_; (with_reducible refine List.mem_append_left _ ?_; (with_reducible refine List.mem_cons_of_mem _ ?_; with_reducible exact List.mem_cons_self)))) (by (with_reducible refine List.mem_append_right _ ?_; (with_reducible refine List.mem_append_left _ ?_; with_reducible exact List.mem_cons_self))) (by have := RM.hu; lia  ) (wpAny_truthy_bool ?_)
      have a1' : x' - (x + z) = x' - x - z := by lia  
      have a2' : y' - (y + z) = y' - y - z := by lia  
      refine ifB (fun cz => ?_) fun cz => ?_
      · have cz' : ¬ (x' - (x + z) = 0 ∧ y' - (y + z) = 0) := by have := cz; simp at this; lia  
        have hg : gapR (x + z) x' (y + z) y' = [[.s (if x' - (x + z) = 0 then "insert" else if y' - (y + z) = 0 then "delete" else "replace"), .i (x + z), .i x', .i (y + z), .i y']] := if_neg cz'
        refine appC (xAssign ?_)
        refine evJ (if x' - (x + z) = 0 then "insert" else if y' - (y + z) = 0 then "delete" else "replace") ?_ fun _ _ => ?_
        · with_reducible refine IfExp_ ?_
          refine wpAny_isTrue_Compare1 ?_
          with_reducible refine Subscript_ ?_
          refine St.ld (by assumption) (by with_reducible exact Mine.at8) ?_
          with_reducible refine cI fun _ _ => ?_
          refine gRow (k := 0) (r := [.i (x' - x - z), .i (y' - y - z)]) (c := .i (x' - x - z)) (by assumption) (by (with_reducible refine List.mem_append_right _ ?_; (with_reducible refine List.mem_append_left _ ?_; (with_reducible refine List.mem_cons_of_mem _ ?_; with_reducible exact List.mem_cons_self)))) rfl (by simp) fun v hv => ?_
          obtain ⟨u3, rfl⟩ := sc1 hv
          with_reducible refine cI fun _ _ => ?_
          with_reducible refine tEq ?_
          rw [a1', a2']
          refine ifE (fun c1 => ?_) fun c1 => ?_
          · with_reducible refine cS fun _ _ => ?_
            exact ⟨_, _, by rw [if_pos c1], rfl⟩
          · with_reducible refine IfExp_ ?_
            refine wpAny_isTrue_Compare1 ?_
            with_reducible refine Subscript_ ?_
            refine St.ld (by assumption) (by with_reducible exact Mine.at8) ?_
            with_reducible refine cI fun _ _ => ?_
            refine gRow (k := 1) (r := [.i (x' - x - z), .i (y' - y - z)]) (c := .i (y' - y - z)) (by assumption) (by (with_reducible refine List.mem_append_right _ ?_; (with_reducible refine List.mem_append_left _ ?_; (with_reducible refine List.mem_cons_of_mem _ ?_; with_reducible exact List.mem_cons_self)))) rfl (by simp) fun v hv => ?_
            obtain ⟨u3, rfl⟩ := sc1 hv
            with_reducible refine cI fun _ _ => ?_
            with_reducible refine tEq ?_
            refine ifE (fun c2 => ?_) fun c2 => ?_
            · with_reducible refine cS fun _ _ => ?_
              exact ⟨_, _, by rw [if_neg c1, if_pos c2], rfl⟩
            · with_reducible refine cS fun _ _ => ?_
              exact ⟨_, _, by rw [if_neg c1, if_neg c2], rfl⟩
        refine St.st (by assumption) (by with_reducible exact Mine.put9) fun _ _ _ => ?_
        with_reducible refine appC ?_
        refine xExpr (by assumption) ?_
        (refine methL PySem.F.slot_list_append PySem.F.type_list_append ?_; refine St.ld (by assumption) (by with_reducible exact Mine.at3) ?_; refine ⟨St.lst (by assumption) (by (with_reducible refine List.mem_append_left _ ?_; (with_reducible refine List.mem_cons_of_mem _ ?_; with_reducible exact List.mem_cons_self))), ?_⟩)
        refine spC ?_
        with_reducible refine Tuple_ ?_
        refine spC ?_
        refine St.ld (by assumption) (by with_reducible exact Mine.at9) ?_
        refine spC ?_
        with_reducible refine wpAny_BinOp ?_
        refine St.ld (by assumption) (by with_reducible exact Mine.at5) ?_
        refine St.ld (by assumption) (by with_reducible exact Mine.at7) ?_
        with_reducible refine addI fun _ _ => ?_
        refine spC ?_
        with_reducible refine Subscript_ ?_
        with_reducible refine Subscript_ ?_
        refine St.ld (by assumption) (by with_reducible exact Mine.at2) ?_
        refine St.ld (by assumption) (by with_reducible exact Mine.at4) ?_
        refine gVal (by assumption) (vs := kvs) (by (with_reducible refine List.mem_append_right _ ?_; (with_reducible refine List.mem_append_left _ ?_; (with_reducible refine List.mem_cons_of_mem _ ?_; (with_reducible refine List.mem_cons_of_mem _ ?_; with_reducible assumption))))) (by lia  ) (by lia  ) hqa ?_
        with_reducible refine cI fun _ _ => ?_
        refine gRow (k := 0) (r := tri (x', y', z')) (c := .i x') (by assumption) (by (with_reducible refine List.mem_append_right _ ?_; (with_reducible refine List.mem_append_left _ ?_; (with_reducible refine List.mem_cons_of_mem _ ?_; (with_reducible refine List.mem_cons_of_mem _ ?_; with_reducible assumption))))) rfl (by simp [tri]) fun v hv => ?_
        obtain ⟨u1, rfl⟩ := sc1 hv
        refine spC ?_
        with_reducible refine wpAny_BinOp ?_
        refine St.ld (by assumption) (by with_reducible exact Mine.at6) ?_
        refine St.ld (by assumption) (by with_reducible exact Mine.at7) ?_
        with_reducible refine addI fun _ _ => ?_
        refine spC ?_
        with_reducible refine Subscript_ ?_
        with_reducible refine Subscript_ ?_
        refine St.ld (by assumption) (by with_reducible exact Mine.at2) ?_
        refine St.ld (by assumption) (by with_reducible exact Mine.at4) ?_
        refine gVal (by assumption) (vs := kvs) (by (with_reducible refine List.mem_append_right _ ?_; (with_reducible refine List.mem_append_left _ ?_; (with_reducible refine List.mem_cons_of_mem _ ?_; (with_reducible refine List.mem_cons_of_mem _ ?_; with_reducible assumption))))) (by lia  ) (by lia  ) hqa ?_
        with_reducible refine cI fun _ _ => ?_
        refine gRow (k := 1) (r := tri (x', y', z')) (c := .i y') (by assumption) (by (with_reducible refine List.mem_append_right _ ?_; (with_reducible refine List.mem_append_left _ ?_; (with_reducible refine List.mem_cons_of_mem _ ?_; (with_reducible refine List.mem_cons_of_mem _ ?_; with_reducible assumption))))) rfl (by simp [tri]) fun v hv => ?_
        obtain ⟨u2, rfl⟩ := sc1 hv
        with_reducible refine spN ?_
        refine newTupS (by assumption) (RowP (.type "tuple") [.s (if x' - (x + z) = 0 then "insert" else if y' - (y + z) = 0 then "delete" else "replace"), .i (x + z), .i x', .i (y + z), .i y']) ⟨_, _, .str _ _ (.int _ _ (.int _ _ (.int _ _ (.int _ _ .nil)))), rfl, rfl⟩ fun t h' S => ?_
        with_reducible refine spN ?_
        have hcl := hc.length
        have e3 : (eqR (x, y, z)).length ≤ 1 := by unfold eqR; split <;> simp
        refine appendS (by assumption) (vs := cvs) (by (with_reducible refine List.mem_cons_of_mem _ ?_; with_reducible exact List.mem_cons_self)) (by (with_reducible exact Up.tail (by with_reducible exact Up.head))) (by rw [hcl, List.length_append]; lia  ) fun h' S => ?_
        with_reducible refine appN ?_
        refine xEnd (hN1 _ _ _ _ _ ⟨_, _, _, _, _, _, _, rfl, rfl, ?_, by (with_reducible refine List.mem_cons_of_mem _ ?_; (with_reducible refine List.mem_cons_of_mem _ ?_; (with_reducible refine List.mem_cons_of_mem _ ?_; with_reducible assumption))), hw.mono fun p hp => by (with_reducible refine List.mem_cons_of_mem _ ?_; (with_reducible refine List.mem_cons_of_mem _ ?_; (with_reducible refine List.mem_cons_of_mem _ ?_; with_reducible assumption)))⟩ S).1
        rw [hcod, stepR, hg, ← List.append_assoc]
        exact (hc.mono fun p hp => by (with_reducible refine List.mem_cons_of_mem _ ?_; (with_reducible refine List.mem_cons_of_mem _ ?_; (with_reducible refine List.mem_cons_of_mem _ ?_; with_reducible assumption)))).append (.cons (by (with_reducible exact List.mem_cons_self)) .nil)
      · have cz' : x' - (x + z) = 0 ∧ y' - (y + z) = 0 := by have := cz; simp at this; lia  
        have hg : gapR (x + z) x' (y + z) y' = [] := if_pos cz'
        with_reducible refine appN ?_
        refine xEnd (hN1 _ _ _ _ _ ⟨_, _, _, _, _, _, _, rfl, rfl, ?_, by (with_reducible refine List.mem_cons_of_mem _ ?_; (with_reducible refine List.mem_cons_of_mem _ ?_; with_reducible assumption)), hw.mono fun p hp => by (with_reducible refine List.mem_cons_of_mem _ ?_; (with_reducible refine List.mem_cons_of_mem _ ?_; with_reducible assumption))⟩ S).1
        rw [hcod, stepR, hg, List.append_nil]
        exact hc.mono fun p hp => by (with_reducible refine List.mem_cons_of_mem _ ?_; (with_reducible refine List.mem_cons_of_mem _ ?_; with_reducible assumption))
  · rintro al m n h tk ⟨cvs, nn, row, col, size, gap, word, rfl, rfl, hc, hkp, hw⟩ S
    with_reducible refine xRet ?_
    refine St.ld (by assumption) (by with_reducible exact Mine.at3) ?_
    have S := S.demote
    refine G _ _ _ _ S.fin ⟨_, _, ks, rfl, by (with_reducible refine List.mem_cons_of_mem _ ?_; (with_reducible refine List.mem_append_right _ ?_; with_reducible exact List.mem_cons_self)), hk1, ?_⟩ _ rfl
    rw [List.take_of_length_le (by lia  ), hKS] at hc
    exact hc.mono fun p hp => by (with_reducible refine List.mem_cons_of_mem _ ?_; (with_reducible refine List.mem_append_right _ ?_; (with_reducible refine List.mem_cons_of_mem _ ?_; with_reducible assumption)))

end Mine
end
section
open PySem PySem.W PyProof.Rows PySem.Calls
set_option autoImplicit false
namespace Mine
abbrev glRows : List (Str × Value) := []
def nmRows : List Str := ["left", "right", "one", "two", "rows", "seen", "x", "more"]
abbrev alRows (left right one two rows seen x more : Option Value) : AL := [("left", left), ("right", right), ("one", one), ("two", two), ("rows", rows), ("seen", seen), ("x", x), ("more", more)]
inductive OkRows (R : List (List Sc)) (n : LT) (v : Value) : Prop
  | mk (r : Addr) (vs : List Value) (e : v = .ref r) (h1 : (r, ListP vs) ∈ n) (h2 : RowsIn (.type "tuple") n vs R)
inductive K3a (F : Option Value → Option Value → AL) (r l : Addr) (P : OP) (se : Addr) (LR : List Int) (R : List (List Sc)) (al : AL) (m n : LT) : Prop
  | mk (vs : List Value) (x more : Option Value) (e1 : al = F x more) (e2 : m = [(se, P), (r, ListP vs)]) (h1 : (l, IntsP LR) ∈ n) (h2 : RowsIn (.type "tuple") n vs R)
inductive K3b (F : Option Value → AL) (p : Addr × OP) (r l : Addr) (P : OP) (se : Addr) (LR : List Int) (R : List (List Sc)) (al : AL) (m n : LT) : Prop
  | mk (vs : List Value) (more : Option Value) (e1 : al = F more) (e2 : m = [p, (se, P), (r, ListP vs)]) (h1 : (l, IntsP LR) ∈ n) (h2 : RowsIn (.type "tuple") n vs R)
theorem rows_does {prog : Program} {w : World} {h₁ : Heap} {a1 a2 a3 a4 : Addr} {left right one two : List Int} {L : LT} (P : Params) (B : Bs (K P) h₁ L) (m1 : (a1, IntsP left) ∈ L) (m2 : (a2, IntsP right) ∈ L) (m3 : (a3, IntsP one) ∈ L) (m4 : (a4, IntsP two) ∈ L)
    (h7 : left.length ≤ 100) (h8 : right.length ≤ 100) :
    Does prog w L 1 (.ref 398) [.ref a1, .ref a2, .ref a3, .ref a4]
      (OkRows (lrows left one two [] (left ++ right))) := by
  refine enter B (f := 398) (name := _) (qual := _) (params := _) (body := _) (scope := _) (dV := _) (kV := _) (doc := _) (pm := _) (cdv := _) (ct := _) (oc := _) (an := _) (od := _) (osl := _) rfl (by rfl) glRows
    (alRows (some (.ref a1)) (some (.ref a2)) (some (.ref a3)) (some (.ref a4)) none none none none) nmRows rfl
    [("left", .ref a1), ("right", .ref a2), ("one", .ref a3), ("two", .ref a4)] (fun s _ => BindsTo.of_eq rfl) (fun L' => ?_) ?_ (by kernel_rfl!) (by lia  ) ?_
  case refine_1 => exact ⟨rfl, rfl, rfl, by rfl, by decide +kernel, trivial⟩
  case refine_2 => exact hal_of (binds := [("left", .ref a1), ("right", .ref a2), ("one", .ref a3), ("two", .ref a4)]) (ns := nmRows.drop 4) (by show (nmRows.take 4).Nodup; decide +kernel)
  intro A h g d tk os E env Q RM henv G S
  have hh := RM.hh
  refine xAssign ?_
  with_reducible refine List_ ?_
  with_reducible refine spN ?_
  refine newLstS (by assumption) fun r h' S => ?_
  have S := S.promote
  refine St.st (by assumption) (by with_reducible exact Mine.put4) fun _ _ _ => ?_
  refine xAssign ?_
  with_reducible refine List_ ?_
  with_reducible refine spN ?_
  refine newLstI (by assumption) .nil fun se h' S => ?_
  have S := S.promote
  refine St.st (by assumption) (by with_reducible exact Mine.put5) fun _ _ _ => ?_
  refine xFor ?_
  with_reducible refine wpAny_BinOp ?_
  refine St.ld (by assumption) (by with_reducible exact Mine.at0) ?_
  refine St.ld (by assumption) (by with_reducible exact Mine.at1) ?_
  refine addLI (xs := left) (ys := right) (by assumption) (by (with_reducible refine List.mem_append_right _ ?_; (with_reducible refine List.mem_append_right _ ?_; with_reducible assumption))) (by (with_reducible refine List.mem_append_right _ ?_; (with_reducible refine List.mem_append_right _ ?_; with_reducible assumption))) (by lia  ) fun l h' S => ?_
  refine iter_list (by assumption) (by obtain ⟨vs, _, h⟩ := S.isInts (a := l) (by (with_reducible refine List.mem_append_right _ ?_; (with_reducible refine List.mem_append_left _ ?_; with_reducible exact List.mem_cons_self))); exact ⟨vs, h⟩) fun it h' S => ?_
  obtain ⟨LR, hLR⟩ : ∃ LR, LR = left ++ right := ⟨_, rfl⟩
  rw [← hLR] at S
  have hlen : LR.length ≤ 200 := by rw [hLR, List.length_append]; lia  
  refine forList (len := LR.length) (fun i => K3a (alRows (some (.ref a1)) (some (.ref a2)) (some (.ref a3)) (some (.ref a4)) (some (.ref r)) (some (.ref se))) r l (IntsP (LR.take i)) se LR (lrows left one two [] (LR.take i))) (IntAt LR) hh S ⟨_, _, _, rfl, rfl, by with_reducible exact List.mem_cons_self, .nil⟩ ?_ ?_ ?_
  · rintro i al m n h p ⟨vs, x, more, rfl, rfl, hl, hw⟩ S
    obtain ⟨us, hu, hL⟩ := S.isInts (a := l) (xs := LR) (by (with_reducible refine List.mem_append_right _ ?_; (with_reducible refine List.mem_append_left _ ?_; with_reducible assumption)))
    exact ⟨us, hL, hu.length, fun x hx => ints_at2 hu hx⟩
  · rintro i al m n h tk p E v Q1 hi ⟨y, t, hy, rfl⟩ ⟨vs, x, more, rfl, rfl, hl, hw⟩ hN1 hB1 hR1 S
    have e2 := lrows_len left one two (LR.take i) []
    have e3 : (LR.take i).length ≤ LR.length := by rw [List.length_take]; lia  
    have e4 := hw.length
    have hst : LR.take (i + 1) = LR.take i ++ [y] := by rw [List.take_add_one, hy]; rfl
    with_reducible refine assign_Name ?_
    refine St.st (by assumption) (by with_reducible exact Mine.put6) fun _ _ _ => ?_
    refine xAssign ?_
    with_reducible refine wpAny_BinOp ?_
    refine methL PySem.F.slot_list_count PySem.F.type_list_count ?_
    refine St.ld (by assumption) (by with_reducible exact Mine.at3) ?_
    refine ⟨St.lstI (xs := two) (by assumption) (by (with_reducible refine List.mem_append_right _ ?_; (with_reducible refine List.mem_append_right _ ?_; with_reducible assumption))), ?_⟩
    refine spC ?_
    refine St.ld (by assumption) (by with_reducible exact Mine.at6) ?_
    with_reducible refine spN ?_
    refine countI (xs := two) (by assumption) (by (with_reducible refine List.mem_append_right _ ?_; (with_reducible refine List.mem_append_right _ ?_; with_reducible assumption))) fun _ _ => ?_
    refine methL PySem.F.slot_list_count PySem.F.type_list_count ?_
    refine St.ld (by assumption) (by with_reducible exact Mine.at2) ?_
    refine ⟨St.lstI (xs := one) (by assumption) (by (with_reducible refine List.mem_append_right _ ?_; (with_reducible refine List.mem_append_right _ ?_; with_reducible assumption))), ?_⟩
    refine spC ?_
    refine St.ld (by assumption) (by with_reducible exact Mine.at6) ?_
    with_reducible refine spN ?_
    refine countI (xs := one) (by assumption) (by (with_reducible refine List.mem_append_right _ ?_; (with_reducible refine List.mem_append_right _ ?_; with_reducible assumption))) fun _ _ => ?_
    with_reducible refine subI fun _ _ => ?_
    refine St.st (by assumption) (by with_reducible exact Mine.put7) fun _ _ _ => ?_
    refine xIfJ (by assumption) (K3b (alRows (some (.ref a1)) (some (.ref a2)) (some (.ref a3)) (some (.ref a4)) (some (.ref r)) (some (.ref se)) (some (.int y t))) p r l (IntsP (LR.take i)) se LR (lrows left one two [] (LR.take (i + 1)))) ?_ ?_
    · intro Q2 hN2 hR2
      with_reducible refine isTrue_and ?_
      refine wpAny_isTrue_Compare1 ?_
      refine St.ld (by assumption) (by with_reducible exact Mine.at6) ?_
      refine St.ld (by assumption) (by with_reducible exact Mine.at5) ?_
      refine notInI (xs := LR.take i) (by assumption) (by (with_reducible refine List.mem_append_left _ ?_; (with_reducible refine List.mem_cons_of_mem _ ?_; with_reducible exact List.mem_cons_self))) (wpAny_truthy_bool ?_)
      refine ifB (fun c1 => ?_) fun c1 => ifF ?_
      · with_reducible refine isTrue_and ?_
        with_reducible refine vCmp (by assumption) (by with_reducible exact EvI.nm (by with_reducible exact Mine.at7)) (by exact EvI.ct) (by with_unfolding_all exact rfl) fun _ => ?_
        refine ifN (fun c2 => ?_) fun c2 => ifF ?_
        · with_reducible refine isTrue_and_nil ?_
          refine ifT ?_
          refine xExpr (by assumption) ?_
          (refine methL PySem.F.slot_list_append PySem.F.type_list_append ?_; refine St.ld (by assumption) (by with_reducible exact Mine.at4) ?_; refine ⟨St.lst (by assumption) (by (with_reducible refine List.mem_append_left _ ?_; (with_reducible refine List.mem_cons_of_mem _ ?_; (with_reducible refine List.mem_cons_of_mem _ ?_; with_reducible exact List.mem_cons_self)))), ?_⟩)
          refine spC ?_
          with_reducible refine Tuple_ ?_
          refine spC ?_
          refine methL PySem.F.slot_list_count PySem.F.type_list_count ?_
          refine St.ld (by assumption) (by with_reducible exact Mine.at0) ?_
          refine ⟨St.lstI (xs := left) (by assumption) (by (with_reducible refine List.mem_append_right _ ?_; (with_reducible refine List.mem_append_right _ ?_; with_reducible assumption))), ?_⟩
          refine spC ?_
          refine St.ld (by assumption) (by with_reducible exact Mine.at6) ?_
          with_reducible refine spN ?_
          refine countI (xs := left) (by assumption) (by (with_reducible refine List.mem_append_right _ ?_; (with_reducible refine List.mem_append_right _ ?_; with_reducible assumption))) fun _ _ => ?_
          refine spC ?_
          with_reducible refine wpAny_BinOp ?_
          refine methL PySem.F.slot_list_count PySem.F.type_list_count ?_
          refine St.ld (by assumption) (by with_reducible exact Mine.at0) ?_
          refine ⟨St.lstI (xs := left) (by assumption) (by (with_reducible refine List.mem_append_right _ ?_; (with_reducible refine List.mem_append_right _ ?_; with_reducible assumption))), ?_⟩
          refine spC ?_
          refine St.ld (by assumption) (by with_reducible exact Mine.at6) ?_
          with_reducible refine spN ?_
          refine countI (xs := left) (by assumption) (by (with_reducible refine List.mem_append_right _ ?_; (with_reducible refine List.mem_append_right _ ?_; with_reducible assumption))) fun _ _ => ?_
          refine St.ld (by assumption) (by with_reducible exact Mine.at7) ?_
          with_reducible refine addI fun _ _ => ?_
          refine spC ?_
          refine St.ld (by assumption) (by with_reducible exact Mine.at6) ?_
          with_reducible refine spN ?_
          refine newTupS (by assumption) (RowP (.type "tuple") [.i (left.count y), .i (left.count y + ((two.count y : Int) - one.count y)), .i y]) ⟨_, _, .int _ _ (.int _ _ (.int _ _ .nil)), rfl, rfl⟩ fun t h' S => ?_
          with_reducible refine spN ?_
          refine appendS (by assumption) (vs := vs) (by (with_reducible refine List.mem_cons_of_mem _ ?_; (with_reducible refine List.mem_cons_of_mem _ ?_; with_reducible exact List.mem_cons_self))) (by with_reducible exact Up.tail (by with_reducible exact Up.tail (by with_reducible exact Up.head))) (by lia  ) fun h' S => ?_
          skip
          refine xEnd (hN2 _ _ _ _ _ ⟨_, _, rfl, rfl, by (with_reducible refine List.mem_cons_of_mem _ ?_; with_reducible assumption), ?_⟩ S)
          have e : lrow left one two ([] ++ LR.take i) y = [[.i (left.count y), .i (left.count y + ((two.count y : Int) - one.count y)), .i y]] := if_pos ⟨by simpa using c1, c2⟩
          rw [hst, lrows_snoc, e]
          exact (hw.mono fun p hp => by (with_reducible refine List.mem_cons_of_mem _ ?_; with_reducible assumption)).append (.cons (by with_reducible exact List.mem_cons_self) .nil)
        · have e : lrow left one two ([] ++ LR.take i) y = [] := if_neg fun q => q.2 c2
          refine xEnd (hN2 _ _ _ _ _ ⟨_, _, rfl, rfl, by with_reducible assumption, ?_⟩ (by assumption))
          rw [hst, lrows_snoc, e, List.append_nil]; exact hw
      · have e : lrow left one two ([] ++ LR.take i) y = [] := if_neg fun q => by simp at c1; exact q.1 (by simpa using c1)
        refine xEnd (hN2 _ _ _ _ _ ⟨_, _, rfl, rfl, by with_reducible assumption, ?_⟩ (by assumption))
        rw [hst, lrows_snoc, e, List.append_nil]; exact hw
    · rintro al m n h tk ⟨vs, more, rfl, rfl, hl, hw⟩ S
      refine xExpr (by assumption) ?_
      refine methL PySem.F.slot_list_append PySem.F.type_list_append ?_
      refine St.ld (by assumption) (by with_reducible exact Mine.at5) ?_
      refine ⟨St.lstI (xs := LR.take i) (by assumption) (by (with_reducible refine List.mem_append_left _ ?_; (with_reducible refine List.mem_cons_of_mem _ ?_; with_reducible exact List.mem_cons_self))), ?_⟩
      refine spC ?_
      refine St.ld (by assumption) (by with_reducible exact Mine.at6) ?_
      with_reducible refine spN ?_
      refine appendI (by assumption) (xs := LR.take i) (by (with_reducible refine List.mem_cons_of_mem _ ?_; with_reducible exact List.mem_cons_self)) (by with_reducible exact Up.tail (by with_reducible exact Up.head)) (by lia  ) fun h' S => ?_
      skip
      rw [← hst] at S
      exact xEnd (hN1 _ _ _ _ _ ⟨_, _, _, rfl, rfl, by with_reducible assumption, hw⟩ S).1
  · rintro al m n h tk ⟨vs, x, more, rfl, rfl, hl, hw⟩ S
    with_reducible refine xRet ?_
    refine St.ld (by assumption) (by with_reducible exact Mine.at4) ?_
    have S := S.drop.demote
    refine G _ _ _ _ S.fin ⟨_, _, rfl, by (with_reducible refine List.mem_cons_of_mem _ ?_; (with_reducible refine List.mem_append_right _ ?_; with_reducible exact List.mem_cons_self)), ?_⟩ _ rfl
    rw [List.take_length, hLR] at hw
    exact hw.mono fun p hp => by (with_reducible refine List.mem_cons_of_mem _ ?_; (with_reducible refine List.mem_append_right _ ?_; (with_reducible refine List.mem_cons_of_mem _ ?_; with_reducible assumption)))

end Mine
end
section
open PySem PySem.W PyProof.Rows PySem.Calls
set_option autoImplicit false
namespace Mine
def unordF : List Int → List Int → List Int → List Int × List Int
  | [], ys, ms => (ms, ys)
  | x :: r, ys, ms => if x ∈ ys then unordF r (ys.erase x) ms else unordF r ys (ms ++ [x])
abbrev glUn : List (Str × Value) := [("ValueError", .type "ValueError")]
def nmUn : List Str := ["expected", "actual", "missing", "item"]
abbrev alUn (expected actual missing item : Option Value) : AL := [("expected", expected), ("actual", actual), ("missing", missing), ("item", item)]
inductive OkUn (M : Addr → Addr → LT) (a2 : Addr) (m n : LT) (v : Value) : Prop
  | mk (r e mi : Addr) (e1 : v = .ref r) (e2 : m = M mi e) (h : (r, TupP [.ref mi, .ref a2]) ∈ n)
inductive K4a (a1 a2 mi : Addr) (U : List Int × List Int) (k : Nat) (al : AL) (m n : LT) : Prop
  | mk (xs ys ms : List Int) (item : Option Value) (e1 : al = alUn (some (.ref a1)) (some (.ref a2)) (some (.ref mi)) item) (e2 : m = [(mi, IntsP ms), (a1, IntsP xs), (a2, IntsP ys)]) (h1 : unordF xs.reverse ys ms = U) (h2 : xs.length ≤ 100) (h3 : ys.length ≤ 100) (h4 : ms.length + xs.length ≤ 100) (h5 : k = xs.length)
theorem unord_does {prog : Program} {w : World} {h₁ : Heap} {a1 a2 : Addr} {one two : List Int} {L : LT} (P : Params) (B : Bs (K P) h₁ L) (h7 : one.length ≤ 100) (h8 : two.length ≤ 100) :
    DoesM prog w [(a1, IntsP one), (a2, IntsP two)] L 1 (FrsIn L) (.ref 71) [.ref a1, .ref a2]
      (OkUn (fun mi e => [(mi, IntsP (unordF one.reverse two []).1), (e, IntsP []), (a2, IntsP (unordF one.reverse two []).2)]) a2) := by
  refine enterM B (f := 71) (name := _) (qual := _) (params := _) (body := _) (scope := _) (dV := _) (kV := _) (doc := _) (pm := _) (cdv := _) (ct := _) (oc := _) (an := _) (od := _) (osl := _) rfl (by rfl) glUn
    (alUn (some (.ref a1)) (some (.ref a2)) none none) nmUn rfl
    [("expected", .ref a1), ("actual", .ref a2)] (fun s _ => BindsTo.of_eq rfl) (fun L' => ?_) ?_ (by kernel_rfl!) (by lia  ) ?_
  case refine_1 => exact ⟨rfl, rfl, rfl, by rfl, by decide +kernel, ⟨rfl, .inr ⟨by rfl, by rfl, by decide +kernel⟩⟩, trivial⟩
  case refine_2 => exact hal_of (binds := [("expected", .ref a1), ("actual", .ref a2)]) (ns := nmUn.drop 2) (by show (nmUn.take 2).Nodup; decide +kernel)
  rintro A h g d tk os E env Q RM henv hff ⟨outer, hA, hF⟩ G G0 S
  have hh := RM.hh
  have hu := RM.hu
  refine xExpr (by assumption) ?_
  with_reducible refine cS fun _ _ => ?_
  refine xAssign ?_
  with_reducible refine List_ ?_
  with_reducible refine spN ?_
  refine newLstI (by assumption) .nil fun mi h' S => ?_
  have S := S.promote
  refine St.st (by assumption) (by with_reducible exact Mine.put2) fun _ _ _ => ?_
  with_reducible refine xWhile ?_
  refine whileSt (K4a a1 a2 mi (unordF one.reverse two []))
    (fun al m n => ∃ item, al = alUn (some (.ref a1)) (some (.ref a2)) (some (.ref mi)) item ∧ m = [(mi, IntsP (unordF one.reverse two []).1), (a1, IntsP []), (a2, IntsP (unordF one.reverse two []).2)]) (by assumption) ⟨one, two, [], _, rfl, rfl, rfl, h7, h8, by simpa using h7, rfl⟩ ?_ ?_
  · rintro k al m n h tk E Q1 X1 ⟨xs, ys, ms, item, rfl, rfl, hr, l1, l2, l3, rfl⟩ hN1 hB1 hR1 hX1 S
    refine isTrue_plain ?_
    refine St.ld (by assumption) (by with_reducible exact Mine.at0) ?_
    refine truI (xs := xs) (by assumption) (by (with_reducible refine List.mem_append_left _ ?_; (with_reducible refine List.mem_cons_of_mem _ ?_; with_reducible exact List.mem_cons_self))) (by lia  ) fun _ => ?_
    rcases List.eq_nil_or_concat xs with rfl | ⟨us, u, rfl⟩
    · refine hX1 _ _ _ _ _ ⟨item, rfl, ?_⟩ (by assumption)
      rw [← hr]; rfl
    · rw [List.concat_eq_append] at *
      rw [show (!(us ++ [u]).isEmpty) = true by simp]
      refine ifT ?_
      simp only [List.length_append, List.length_singleton] at l1 l3
      refine xAssign ?_
      refine methL0 PySem.F.slot_list_pop PySem.F.type_list_pop ?_
      refine St.ld (by assumption) (by with_reducible exact Mine.at0) ?_
      refine ⟨St.lstI (xs := us ++ [u]) (by assumption) (by (with_reducible refine List.mem_append_left _ ?_; (with_reducible refine List.mem_cons_of_mem _ ?_; with_reducible exact List.mem_cons_self))), ?_⟩
      refine popI (xs := us) (by assumption) (by (with_reducible refine List.mem_cons_of_mem _ ?_; with_reducible exact List.mem_cons_self)) (by with_reducible exact Up.tail (by with_reducible exact Up.head)) (by lia  ) fun t h' S => ?_
      refine St.st (by assumption) (by with_reducible exact Mine.put3) fun _ _ _ => ?_
      refine xTry ?_
      refine xExpr (by assumption) ?_
      refine methL PySem.F.slot_list_remove PySem.F.type_list_remove ?_
      refine St.ld (by assumption) (by with_reducible exact Mine.at1) ?_
      refine ⟨St.lstI (xs := ys) (by assumption) (by (with_reducible refine List.mem_append_left _ ?_; (with_reducible refine List.mem_cons_of_mem _ ?_; (with_reducible refine List.mem_cons_of_mem _ ?_; with_reducible exact List.mem_cons_self)))), ?_⟩
      refine spC ?_
      refine St.ld (by assumption) (by with_reducible exact Mine.at3) ?_
      with_reducible refine spN ?_
      rw [List.reverse_append, List.reverse_singleton, List.singleton_append, unordF] at hr
      by_cases hy : u ∈ ys
      · rw [if_pos hy] at hr
        refine removeI (xs := ys) (by assumption) (by (with_reducible refine List.mem_cons_of_mem _ ?_; (with_reducible refine List.mem_cons_of_mem _ ?_; with_reducible exact List.mem_cons_self))) hy (by with_reducible exact Up.tail (by with_reducible exact Up.tail (by with_reducible exact Up.head))) (by lia  ) fun h' S => ?_
        skip
        refine xEnd (xEnd (hN1 _ _ _ _ _ _ ?_ ⟨us, ys.erase u, ms, _, rfl, rfl, hr, by lia  , by have := List.length_erase_le (a := u) (l := ys); lia  , by lia  , rfl⟩ S).1)
        simp
      · rw [if_neg hy] at hr
        refine removeNone (xs := ys) (by assumption) (by (with_reducible refine List.mem_append_left _ ?_; (with_reducible refine List.mem_cons_of_mem _ ?_; (with_reducible refine List.mem_cons_of_mem _ ?_; with_reducible exact List.mem_cons_self)))) hy hh (by lia  ) fun h1 tk1 e hx => ?_
        refine St.caught (X := "ValueError") (by assumption) B hA hff (fun e' he' => ?_) hx (by with_reducible exact List.mem_cons_self) (by rw [isSubtype_type]; kernel_rfl) (by rw [isSubtype_type]; kernel_rfl) (by rw [isSubtype_type]; kernel_rfl) (by decide +kernel) fun h2 tk2 E2 S => ?_
        · obtain ⟨q1, Lf, alf, q2, q3⟩ := hF e' he'
          exact ⟨q1, Lf, alf, q2, by (with_reducible refine List.mem_cons_of_mem _ ?_; (with_reducible refine List.mem_append_right _ ?_; (with_reducible refine List.mem_append_right _ ?_; with_reducible assumption)))⟩
        refine xExpr (by assumption) ?_
        refine methL PySem.F.slot_list_append PySem.F.type_list_append ?_
        refine St.ld (by assumption) (by with_reducible exact Mine.at2) ?_
        refine ⟨St.lstI (xs := ms) (by assumption) (by (with_reducible refine List.mem_append_left _ ?_; with_reducible exact List.mem_cons_self)), ?_⟩
        refine spC ?_
        refine St.ld (by assumption) (by with_reducible exact Mine.at3) ?_
        with_reducible refine spN ?_
        refine appendI (by assumption) (xs := ms) (by with_reducible exact List.mem_cons_self) (by with_reducible exact Up.head) (by lia  ) fun h' S => ?_
        skip
        refine xEnd (xEnd (hN1 _ _ _ _ _ _ ?_ ⟨us, ys, ms ++ [u], _, rfl, rfl, hr, by lia  , by lia  , by simp; lia  , rfl⟩ S).1)
        simp
  · rintro al m n h tk ⟨item, rfl, rfl⟩ S
    with_reducible refine xRet ?_
    with_reducible refine Tuple_ ?_
    refine spC ?_
    refine St.ld (by assumption) (by with_reducible exact Mine.at2) ?_
    refine spC ?_
    refine St.ld (by assumption) (by with_reducible exact Mine.at1) ?_
    with_reducible refine spN ?_
    refine newTupS (by assumption) (TupP [.ref mi, .ref a2]) ⟨_, rfl⟩ fun r h' S => ?_
    refine G _ [(mi, IntsP (unordF one.reverse two []).1), (a1, IntsP []), (a2, IntsP (unordF one.reverse two []).2)] _ _ _ (St.finM (m := []) S) ⟨_, _, _, rfl, rfl, by (with_reducible refine List.mem_cons_of_mem _ ?_; (with_reducible refine List.mem_append_right _ ?_; with_reducible exact List.mem_cons_self))⟩

end Mine
end
section
open PySem PySem.W PyProof.Rows PySem.Calls
set_option autoImplicit false
namespace Mine
def nmS1 : List Str := ["self", "a"]
def nmS2 : List Str := ["self", "b"]
def nmSS : List Str := ["self", "a", "b"]
def nmIn : List Str := ["self", "isjunk", "a", "b", "autojunk"]
abbrev atsA (aa : Addr) (ats : List (Str × Value)) : List (Str × Value) := ("opcodes", .none) :: ("matching_blocks", .none) :: ("a", .ref aa) :: ats
theorem set1_does {prog : Program} {w : World} {h₁ : Heap} {si dx aa : Addr} {ats : List (Str × Value)} {L : LT} (P : Params) (B : Bs (K P) h₁ L) (hi : (si, InsP 373 dx) ∈ L)
    (a1 : Has ats "a" .none) (hl : ats.length ≤ 100) :
    DoesM prog w [(dx, AtP ats)] L 1 (fun _ => True) (.ref 305) [.ref si, .ref aa] (fun m n v => v = .none ∧ m = [(dx, AtP (atsA aa ats))]) := by
  refine enterM B (f := 305) (name := _) (qual := _) (params := _) (body := _) (scope := _) (dV := _) (kV := _) (doc := _) (pm := _) (cdv := _) (ct := _) (oc := _) (an := _) (od := _) (osl := _) rfl (by rfl) []
    [("self", some (.ref si)), ("a", some (.ref aa))] nmS1 rfl
    [("self", .ref si), ("a", .ref aa)] (fun s _ => BindsTo.of_eq rfl) (fun L' => ?_) ?_ (by kernel_rfl!) (by lia  ) ?_
  case refine_1 => exact ⟨rfl, rfl, rfl, by rfl, by decide +kernel, trivial⟩
  case refine_2 => exact hal_of (binds := [("self", .ref si), ("a", .ref aa)]) (ns := nmS1.drop 2) (by show (nmS1.take 2).Nodup; decide +kernel)
  rintro A h g d tk os E env Q RM henv hff ⟨outer, hA, hF⟩ G G0 S
  refine xExpr (by assumption) ?_
  with_reducible refine cS fun _ _ => ?_
  refine xIf ?_
  refine wpAny_isTrue_Compare1 ?_
  refine St.ld (by assumption) (by with_reducible exact Mine.at1) ?_
  refine Attribute_Name_ ?_
  refine St.ld (by assumption) (by with_reducible exact Mine.at0) ?_
  refine St.getA (by assumption) (by assumption) (by (with_reducible refine List.mem_append_right _ ?_; (with_reducible refine List.mem_append_right _ ?_; with_reducible assumption))) (by (with_reducible refine List.mem_append_left _ ?_; with_reducible exact List.mem_cons_self)) (by rfl) (by rfl) (attr := none) (by rfl) (by rfl) (by first | rfl | assumption) (by rfl) fun _ => ?_
  with_reducible refine is_ref_none ?_
  with_reducible refine wpAny_truthy_bool ?_
  refine ifF ?_
  with_reducible refine appN ?_
  refine xAttr ?_
  refine St.ld (by assumption) (by with_reducible exact Mine.at1) ?_
  refine St.ld (by assumption) (by with_reducible exact Mine.at0) ?_
  refine St.setA (by assumption) (by assumption) (by (with_reducible refine List.mem_append_right _ ?_; (with_reducible refine List.mem_append_right _ ?_; with_reducible assumption))) (by (with_reducible refine List.mem_append_left _ ?_; with_reducible exact List.mem_cons_self)) (by with_reducible exact Up.head) (by rfl) (by rfl) (by rfl) (by rfl) (by first | lia   | (simp only [List.length_cons, List.length_nil]; lia  ) | (simp; done)) fun _ _ _ => ?_
  refine xTwo ?_
  with_reducible refine wpAny_Constant_none ?_
  with_reducible refine asgAttr ?_
  refine St.ld (by assumption) (by with_reducible exact Mine.at0) ?_
  refine St.setA (by assumption) (by assumption) (by (with_reducible refine List.mem_append_right _ ?_; (with_reducible refine List.mem_append_right _ ?_; with_reducible assumption))) (by (with_reducible refine List.mem_append_left _ ?_; with_reducible exact List.mem_cons_self)) (by with_reducible exact Up.head) (by rfl) (by rfl) (by rfl) (by rfl) (by first | lia   | (simp only [List.length_cons, List.length_nil]; lia  ) | (simp; done)) fun _ _ _ => ?_
  with_reducible refine asgAttr ?_
  refine St.ld (by assumption) (by with_reducible exact Mine.at0) ?_
  refine St.setA (by assumption) (by assumption) (by (with_reducible refine List.mem_append_right _ ?_; (with_reducible refine List.mem_append_right _ ?_; with_reducible assumption))) (by (with_reducible refine List.mem_append_left _ ?_; with_reducible exact List.mem_cons_self)) (by with_reducible exact Up.head) (by rfl) (by rfl) (by rfl) (by rfl) (by first | lia   | (simp only [List.length_cons, List.length_nil]; lia  ) | (simp; done)) fun _ _ _ => ?_
  exact xEnd (G0 _ _ _ _ (St.finM (mm := [(dx, AtP (atsA aa ats))]) (m := []) (by assumption)) ⟨rfl, rfl⟩)
abbrev atsB (ab b2j bj bp : Addr) (ats : List (Str × Value)) : List (Str × Value) := ("bpopular", .ref bp) :: ("bjunk", .ref bj) :: ("b2j", .ref b2j) :: ("fullbcount", .none) :: ("opcodes", .none) :: ("matching_blocks", .none) :: ("b", .ref ab) :: ats
theorem set2_does {prog : Program} {w : World} {h₁ : Heap} {si dx ab : Addr} {ys : List Int} {ats : List (Str × Value)} {L : LT} (P : Params) (B : Bs (K P) h₁ L) (hi : (si, InsP 373 dx) ∈ L) (hb : (ab, IntsP ys) ∈ L)
    (a1 : Has ats "b" .none) (a2 : Has ats "isjunk" .none) (a3 : Has ats "autojunk" (.bool false)) (a4 : HasN ats "_SequenceMatcher__chain_b") (hl : ats.length ≤ 90) (h7 : ys.length ≤ 100) :
    DoesM prog w [(dx, AtP ats)] L 2 (fun _ => True) (.ref 312) [.ref si, .ref ab] (OkCh prog w ys fun b2j bj bp => [(dx, AtP (atsB ab b2j bj bp ats))]) := by
  refine enterM B (f := 312) (name := _) (qual := _) (params := _) (body := _) (scope := _) (dV := _) (kV := _) (doc := _) (pm := _) (cdv := _) (ct := _) (oc := _) (an := _) (od := _) (osl := _) rfl (by rfl) []
    [("self", some (.ref si)), ("b", some (.ref ab))] nmS2 rfl
    [("self", .ref si), ("b", .ref ab)] (fun s _ => BindsTo.of_eq rfl) (fun L' => ?_) ?_ (by kernel_rfl!) (by lia  ) ?_
  case refine_1 => exact ⟨rfl, rfl, rfl, by rfl, by decide +kernel, trivial⟩
  case refine_2 => exact hal_of (binds := [("self", .ref si), ("b", .ref ab)]) (ns := nmS2.drop 2) (by show (nmS2.take 2).Nodup; decide +kernel)
  rintro A h g d tk os E env Q RM henv hff ⟨outer, hA, hF⟩ G G0 S
  refine xExpr (by assumption) ?_
  with_reducible refine cS fun _ _ => ?_
  refine xIf ?_
  refine wpAny_isTrue_Compare1 ?_
  refine St.ld (by assumption) (by with_reducible exact Mine.at1) ?_
  refine Attribute_Name_ ?_
  refine St.ld (by assumption) (by with_reducible exact Mine.at0) ?_
  refine St.getA (by assumption) (by assumption) (by (with_reducible refine List.mem_append_right _ ?_; (with_reducible refine List.mem_append_right _ ?_; with_reducible assumption))) (by (with_reducible refine List.mem_append_left _ ?_; with_reducible exact List.mem_cons_self)) (by rfl) (by rfl) (attr := none) (by rfl) (by rfl) (by first | rfl | assumption) (by rfl) fun _ => ?_
  with_reducible refine is_ref_none ?_
  with_reducible refine wpAny_truthy_bool ?_
  refine ifF ?_
  with_reducible refine appN ?_
  refine xAttr ?_
  refine St.ld (by assumption) (by with_reducible exact Mine.at1) ?_
  refine St.ld (by assumption) (by with_reducible exact Mine.at0) ?_
  refine St.setA (by assumption) (by assumption) (by (with_reducible refine List.mem_append_right _ ?_; (with_reducible refine List.mem_append_right _ ?_; with_reducible assumption))) (by (with_reducible refine List.mem_append_left _ ?_; with_reducible exact List.mem_cons_self)) (by with_reducible exact Up.head) (by rfl) (by rfl) (by rfl) (by rfl) (by first | lia   | (simp only [List.length_cons, List.length_nil]; lia  ) | (simp; done)) fun _ _ _ => ?_
  refine xTwo ?_
  with_reducible refine wpAny_Constant_none ?_
  with_reducible refine asgAttr ?_
  refine St.ld (by assumption) (by with_reducible exact Mine.at0) ?_
  refine St.setA (by assumption) (by assumption) (by (with_reducible refine List.mem_append_right _ ?_; (with_reducible refine List.mem_append_right _ ?_; with_reducible assumption))) (by (with_reducible refine List.mem_append_left _ ?_; with_reducible exact List.mem_cons_self)) (by with_reducible exact Up.head) (by rfl) (by rfl) (by rfl) (by rfl) (by first | lia   | (simp only [List.length_cons, List.length_nil]; lia  ) | (simp; done)) fun _ _ _ => ?_
  with_reducible refine asgAttr ?_
  refine St.ld (by assumption) (by with_reducible exact Mine.at0) ?_
  refine St.setA (by assumption) (by assumption) (by (with_reducible refine List.mem_append_right _ ?_; (with_reducible refine List.mem_append_right _ ?_; with_reducible assumption))) (by (with_reducible refine List.mem_append_left _ ?_; with_reducible exact List.mem_cons_self)) (by with_reducible exact Up.head) (by rfl) (by rfl) (by rfl) (by rfl) (by first | lia   | (simp only [List.length_cons, List.length_nil]; lia  ) | (simp; done)) fun _ _ _ => ?_
  refine xAttr ?_
  with_reducible refine wpAny_Constant_none ?_
  refine St.ld (by assumption) (by with_reducible exact Mine.at0) ?_
  refine St.setA (by assumption) (by assumption) (by (with_reducible refine List.mem_append_right _ ?_; (with_reducible refine List.mem_append_right _ ?_; with_reducible assumption))) (by (with_reducible refine List.mem_append_left _ ?_; with_reducible exact List.mem_cons_self)) (by with_reducible exact Up.head) (by rfl) (by rfl) (by rfl) (by rfl) (by first | lia   | (simp only [List.length_cons, List.length_nil]; lia  ) | (simp; done)) fun _ _ _ => ?_
  refine xExpr (by assumption) ?_
  refine selfCall0 B (fun _ hq => St.ld (by assumption) (by (with_reducible exact List.mem_cons_self)) hq) (by assumption) (by (with_reducible refine List.mem_append_right _ ?_; (with_reducible refine List.mem_append_right _ ?_; with_reducible assumption))) (by (with_reducible refine List.mem_append_left _ ?_; with_reducible exact List.mem_cons_self)) (by rfl) (by rfl) (f := 319) (by rfl) (by first | rfl | exact a4) (by rfl) ?_
  refine St.callM (mm := [_]) (m := []) (by assumption) (chain_does (ys := ys) (ats := ("fullbcount", .none) :: ("opcodes", .none) :: ("matching_blocks", .none) :: ("b", .ref ab) :: ats) P (B.mono fun p hp => by (with_reducible refine List.mem_cons_of_mem _ ?_; (with_reducible refine List.mem_append_right _ ?_; (with_reducible refine List.mem_append_right _ ?_; with_reducible assumption)))) (by (with_reducible refine List.mem_cons_of_mem _ ?_; (with_reducible refine List.mem_append_right _ ?_; (with_reducible refine List.mem_append_right _ ?_; with_reducible assumption)))) (by (with_reducible refine List.mem_cons_of_mem _ ?_; (with_reducible refine List.mem_append_right _ ?_; (with_reducible refine List.mem_append_right _ ?_; with_reducible assumption)))) rfl a2 a3 (by simp only [List.length_cons]; lia  ) h7) (RM.le (by lia  )) ⟨_, hA, trivial⟩ ?_
  rintro h' m1 n1 v tk1 ⟨rfl, b2j, bj, bp, rfl, hc⟩ S
  skip
  refine xEnd (G0 _ _ _ _ (St.finM (mm := [(dx, AtP (atsB ab b2j bj bp ats))]) (m := []) S) ⟨rfl, b2j, bj, bp, rfl, ?_⟩)
  obtain ⟨c1, c2, ls, c3, c4, c5⟩ := hc
  exact ⟨c1, by (with_reducible refine List.mem_cons_of_mem _ ?_; (with_reducible refine List.mem_append_right _ ?_; (with_reducible refine List.mem_append_left _ ?_; with_reducible assumption))), ls, by (with_reducible refine List.mem_cons_of_mem _ ?_; (with_reducible refine List.mem_append_right _ ?_; (with_reducible refine List.mem_append_left _ ?_; with_reducible assumption))), fun p hp => by have := c4 p hp; (with_reducible refine List.mem_cons_of_mem _ ?_; (with_reducible refine List.mem_append_right _ ?_; (with_reducible refine List.mem_append_left _ ?_; with_reducible assumption))), c5⟩
theorem sets_does {prog : Program} {w : World} {h₁ : Heap} {si dx aa ab : Addr} {ys : List Int} {ats : List (Str × Value)} {L : LT} (P : Params) (B : Bs (K P) h₁ L) (hi : (si, InsP 373 dx) ∈ L) (hb : (ab, IntsP ys) ∈ L)
    (a0 : Has ats "a" .none) (a1 : Has ats "b" .none) (a2 : Has ats "isjunk" .none) (a3 : Has ats "autojunk" (.bool false)) (a4 : HasN ats "_SequenceMatcher__chain_b") (a5 : HasN ats "set_seq1") (a6 : HasN ats "set_seq2") (hl : ats.length ≤ 80) (h7 : ys.length ≤ 100) :
    DoesM prog w [(dx, AtP ats)] L 3 (fun _ => True) (.ref 298) [.ref si, .ref aa, .ref ab] (OkCh prog w ys fun b2j bj bp => [(dx, AtP (atsB ab b2j bj bp (atsA aa ats)))]) := by
  refine enterM B (f := 298) (name := _) (qual := _) (params := _) (body := _) (scope := _) (dV := _) (kV := _) (doc := _) (pm := _) (cdv := _) (ct := _) (oc := _) (an := _) (od := _) (osl := _) rfl (by rfl) []
    [("self", some (.ref si)), ("a", some (.ref aa)), ("b", some (.ref ab))] nmSS rfl
    [("self", .ref si), ("a", .ref aa), ("b", .ref ab)] (fun s _ => BindsTo.of_eq rfl) (fun L' => ?_) ?_ (by kernel_rfl!) (by lia  ) ?_
  case refine_1 => exact ⟨rfl, rfl, rfl, by rfl, by decide +kernel, trivial⟩
  case refine_2 => exact hal_of (binds := [("self", .ref si), ("a", .ref aa), ("b", .ref ab)]) (ns := nmSS.drop 3) (by show (nmSS.take 3).Nodup; decide +kernel)
  rintro A h g d tk os E env Q RM henv hff ⟨outer, hA, hF⟩ G G0 S
  refine xExpr (by assumption) ?_
  with_reducible refine cS fun _ _ => ?_
  refine xExpr (by assumption) ?_
  refine selfCall B (fun _ hq => St.ld (by assumption) (by (with_reducible exact List.mem_cons_self)) hq) (by assumption) (by (with_reducible refine List.mem_append_right _ ?_; (with_reducible refine List.mem_append_right _ ?_; with_reducible assumption))) (by (with_reducible refine List.mem_append_left _ ?_; with_reducible exact List.mem_cons_self)) (by rfl) (by rfl) (f := 305) (by rfl) (by first | rfl | exact a5) (by rfl) ?_
  refine spC ?_
  refine St.ld (by assumption) (by with_reducible exact Mine.at1) ?_
  with_reducible refine spN ?_
  refine ⟨kIn (by assumption) B, ?_⟩
  refine St.callM (mm := [_]) (m := []) (by assumption) (set1_does (ats := ats) P (B.mono fun p hp => by (with_reducible refine List.mem_cons_of_mem _ ?_; (with_reducible refine List.mem_append_right _ ?_; (with_reducible refine List.mem_append_right _ ?_; with_reducible assumption)))) (by (with_reducible refine List.mem_cons_of_mem _ ?_; (with_reducible refine List.mem_append_right _ ?_; (with_reducible refine List.mem_append_right _ ?_; with_reducible assumption)))) a0 (by lia  )) (RM.le (by lia  )) ⟨_, hA, trivial⟩ ?_
  rintro h' m1 n1 v tk1 ⟨rfl, rfl⟩ S
  refine xExpr (by assumption) ?_
  refine selfCall B (fun _ hq => St.ld (by assumption) (by (with_reducible exact List.mem_cons_self)) hq) (by assumption) (by (with_reducible refine List.mem_append_right _ ?_; (with_reducible refine List.mem_append_right _ ?_; with_reducible assumption))) (by (with_reducible refine List.mem_append_left _ ?_; (with_reducible refine List.mem_append_left _ ?_; with_reducible exact List.mem_cons_self))) (by rfl) (by rfl) (f := 312) (by rfl) (by first | rfl | exact a6) (by rfl) ?_
  refine spC ?_
  refine St.ld (by assumption) (by with_reducible exact Mine.at2) ?_
  with_reducible refine spN ?_
  refine ⟨kIn (by assumption) B, ?_⟩
  refine St.callM (mm := [_]) (m := []) (by assumption) (set2_does (ys := ys) (ats := atsA aa ats) P (B.mono fun p hp => by (with_reducible refine List.mem_cons_of_mem _ ?_; (with_reducible refine List.mem_append_right _ ?_; (with_reducible refine List.mem_append_right _ ?_; with_reducible assumption)))) (by (with_reducible refine List.mem_cons_of_mem _ ?_; (with_reducible refine List.mem_append_right _ ?_; (with_reducible refine List.mem_append_right _ ?_; with_reducible assumption)))) (by (with_reducible refine List.mem_cons_of_mem _ ?_; (with_reducible refine List.mem_append_right _ ?_; (with_reducible refine List.mem_append_right _ ?_; with_reducible assumption)))) a1 a2 a3 a4 (by simp only [List.length_cons]; lia  ) h7) (RM.le (by lia  )) ⟨_, hA, trivial⟩ ?_
  rintro h' m1 n1 v tk1 ⟨rfl, b2j, bj, bp, rfl, hc⟩ S
  skip
  refine xEnd (G0 _ _ _ _ (St.finM (mm := [(dx, AtP (atsB ab b2j bj bp (atsA aa ats)))]) (m := []) S) ⟨rfl, b2j, bj, bp, rfl, ?_⟩)
  obtain ⟨c1, c2, ls, c3, c4, c5⟩ := hc
  exact ⟨c1, by (with_reducible refine List.mem_cons_of_mem _ ?_; (with_reducible refine List.mem_append_right _ ?_; (with_reducible refine List.mem_append_left _ ?_; with_reducible assumption))), ls, by (with_reducible refine List.mem_cons_of_mem _ ?_; (with_reducible refine List.mem_append_right _ ?_; (with_reducible refine List.mem_append_left _ ?_; with_reducible assumption))), fun p hp => by have := c4 p hp; (with_reducible refine List.mem_cons_of_mem _ ?_; (with_reducible refine List.mem_append_right _ ?_; (with_reducible refine List.mem_append_left _ ?_; with_reducible assumption))), c5⟩
abbrev ats0 : List (Str × Value) := [("autojunk", .bool false), ("b", .none), ("a", .none), ("isjunk", .none)]
theorem init_does {prog : Program} {w : World} {h₁ : Heap} {si dx aa ab : Addr} {ys : List Int} {L : LT} (P : Params) (B : Bs (K P) h₁ L) (hi : (si, InsP 373 dx) ∈ L) (hb : (ab, IntsP ys) ∈ L) (h7 : ys.length ≤ 100) :
    DoesM prog w [(dx, AtP [])] L 4 (fun _ => True) (.ref 291) [.ref si, .none, .ref aa, .ref ab, .bool false] (OkCh prog w ys fun b2j bj bp => [(dx, AtP (atsB ab b2j bj bp (atsA aa ats0)))]) := by
  refine enterM B (f := 291) (name := _) (qual := _) (params := _) (body := _) (scope := _) (dV := _) (kV := _) (doc := _) (pm := _) (cdv := _) (ct := _) (oc := _) (an := _) (od := _) (osl := _) rfl (by rfl) []
    [("self", some (.ref si)), ("isjunk", some .none), ("a", some (.ref aa)), ("b", some (.ref ab)), ("autojunk", some (.bool false))] nmIn rfl
    [("self", .ref si), ("isjunk", .none), ("a", .ref aa), ("b", .ref ab), ("autojunk", .bool false)] (fun s hs => BindsTo.of_defaults (T := 284) rfl (hs 284 _ (by rfl)) rfl rfl rfl) (fun L' => ?_) ?_ (by kernel_rfl!) (by lia  ) ?_
  case refine_1 => exact ⟨rfl, rfl, rfl, by rfl, by decide +kernel, trivial⟩
  case refine_2 => exact hal_of (binds := [("self", .ref si), ("isjunk", .none), ("a", .ref aa), ("b", .ref ab), ("autojunk", .bool false)]) (ns := nmIn.drop 5) (by show (nmIn.take 5).Nodup; decide +kernel)
  rintro A h g d tk os E env Q RM henv hff ⟨outer, hA, hF⟩ G G0 S
  refine xExpr (by assumption) ?_
  with_reducible refine cS fun _ _ => ?_
  refine xAttr ?_
  refine St.ld (by assumption) (by with_reducible exact Mine.at1) ?_
  refine St.ld (by assumption) (by with_reducible exact Mine.at0) ?_
  refine St.setA (by assumption) (by assumption) (by (with_reducible refine List.mem_append_right _ ?_; (with_reducible refine List.mem_append_right _ ?_; with_reducible assumption))) (by (with_reducible refine List.mem_append_left _ ?_; with_reducible exact List.mem_cons_self)) (by with_reducible exact Up.head) (by rfl) (by rfl) (by rfl) (by rfl) (by first | lia   | (simp only [List.length_cons, List.length_nil]; lia  ) | (simp; done)) fun _ _ _ => ?_
  refine xTwo ?_
  with_reducible refine wpAny_Constant_none ?_
  with_reducible refine asgAttr ?_
  refine St.ld (by assumption) (by with_reducible exact Mine.at0) ?_
  refine St.setA (by assumption) (by assumption) (by (with_reducible refine List.mem_append_right _ ?_; (with_reducible refine List.mem_append_right _ ?_; with_reducible assumption))) (by (with_reducible refine List.mem_append_left _ ?_; with_reducible exact List.mem_cons_self)) (by with_reducible exact Up.head) (by rfl) (by rfl) (by rfl) (by rfl) (by first | lia   | (simp only [List.length_cons, List.length_nil]; lia  ) | (simp; done)) fun _ _ _ => ?_
  with_reducible refine asgAttr ?_
  refine St.ld (by assumption) (by with_reducible exact Mine.at0) ?_
  refine St.setA (by assumption) (by assumption) (by (with_reducible refine List.mem_append_right _ ?_; (with_reducible refine List.mem_append_right _ ?_; with_reducible assumption))) (by (with_reducible refine List.mem_append_left _ ?_; with_reducible exact List.mem_cons_self)) (by with_reducible exact Up.head) (by rfl) (by rfl) (by rfl) (by rfl) (by first | lia   | (simp only [List.length_cons, List.length_nil]; lia  ) | (simp; done)) fun _ _ _ => ?_
  refine xAttr ?_
  refine St.ld (by assumption) (by with_reducible exact Mine.at4) ?_
  refine St.ld (by assumption) (by with_reducible exact Mine.at0) ?_
  refine St.setA (by assumption) (by assumption) (by (with_reducible refine List.mem_append_right _ ?_; (with_reducible refine List.mem_append_right _ ?_; with_reducible assumption))) (by (with_reducible refine List.mem_append_left _ ?_; with_reducible exact List.mem_cons_self)) (by with_reducible exact Up.head) (by rfl) (by rfl) (by rfl) (by rfl) (by first | lia   | (simp only [List.length_cons, List.length_nil]; lia  ) | (simp; done)) fun _ _ _ => ?_
  refine xExpr (by assumption) ?_
  refine selfCall B (fun _ hq => St.ld (by assumption) (by (with_reducible exact List.mem_cons_self)) hq) (by assumption) (by (with_reducible refine List.mem_append_right _ ?_; (with_reducible refine List.mem_append_right _ ?_; with_reducible assumption))) (by (with_reducible refine List.mem_append_left _ ?_; with_reducible exact List.mem_cons_self)) (by rfl) (by rfl) (f := 298) (by rfl) (by rfl) (by rfl) ?_
  refine spC ?_
  refine St.ld (by assumption) (by with_reducible exact Mine.at2) ?_
  refine spC ?_
  refine St.ld (by assumption) (by with_reducible exact Mine.at3) ?_
  with_reducible refine spN ?_
  refine ⟨kIn (by assumption) B, ?_⟩
  refine St.callM (mm := [_]) (m := []) (by assumption) (sets_does (ys := ys) (ats := ats0) P (B.mono fun p hp => by (with_reducible refine List.mem_cons_of_mem _ ?_; (with_reducible refine List.mem_append_right _ ?_; (with_reducible refine List.mem_append_right _ ?_; with_reducible assumption)))) (by (with_reducible refine List.mem_cons_of_mem _ ?_; (with_reducible refine List.mem_append_right _ ?_; (with_reducible refine List.mem_append_right _ ?_; with_reducible assumption)))) (by (with_reducible refine List.mem_cons_of_mem _ ?_; (with_reducible refine List.mem_append_right _ ?_; (with_reducible refine List.mem_append_right _ ?_; with_reducible assumption)))) rfl rfl rfl rfl rfl rfl rfl (by simp) h7) (RM.le (by lia  )) ⟨_, hA, trivial⟩ ?_
  rintro h' m1 n1 v tk1 ⟨rfl, b2j, bj, bp, rfl, hc⟩ S
  skip
  refine xEnd (G0 _ _ _ _ (St.finM (mm := [(dx, AtP (atsB ab b2j bj bp (atsA aa ats0)))]) (m := []) S) ⟨rfl, b2j, bj, bp, rfl, ?_⟩)
  obtain ⟨c1, c2, ls, c3, c4, c5⟩ := hc
  exact ⟨c1, by (with_reducible refine List.mem_cons_of_mem _ ?_; (with_reducible refine List.mem_append_right _ ?_; (with_reducible refine List.mem_append_left _ ?_; with_reducible assumption))), ls, by (with_reducible refine List.mem_cons_of_mem _ ?_; (with_reducible refine List.mem_append_right _ ?_; (with_reducible refine List.mem_append_left _ ?_; with_reducible assumption))), fun p hp => by have := c4 p hp; (with_reducible refine List.mem_cons_of_mem _ ?_; (with_reducible refine List.mem_append_right _ ?_; (with_reducible refine List.mem_append_left _ ?_; with_reducible assumption))), c5⟩

end Mine
end
section
open PySem PySem.W PyProof.Rows PySem.Calls
set_option autoImplicit false
namespace Mine
inductive OkMake (prog : Program) (w : World) (aa ab : Addr) (ys : List Int) (m n : LT) (v : Value) : Prop
  | mk (si dx b2j bj bp : Addr) (n0 : LT) (e1 : v = .ref si) (e2 : m = [(dx, AtP (atsB ab b2j bj bp (atsA aa ats0)))]) (e3 : n = n0) (h1 : (si, InsP 373 dx) ∈ n) (h2 : Chained prog w ys n b2j bj)
theorem make_does {prog : Program} {w : World} {h₁ : Heap} {aa ab : Addr} {ys : List Int} {L : LT} (P : Params) (B : Bs (K P) h₁ L) (hb : (ab, IntsP ys) ∈ L) (h7 : ys.length ≤ 100) :
    DoesM prog w [] L 6 (fun _ => True) (.ref 373) [.none, .ref aa, .ref ab, .bool false]
      (OkMake prog w aa ab ys) := by
  intro A R h g d tk os RM ⟨outer, hA, hF⟩ D G
  have hh := RM.hh
  have hd := RM.hd
  have hu := RM.hu
  have X : (K P).In h := B.K.keeps (B.keep D fun _ hp => hp)
  refine make_core (init := .ref 291) (makes_of X (by rfl)) (looks_findIn X (by rfl)) (fun self => bind_fn X self (by rfl)) (.inl rfl) ?_
  have e0 : (h.push emptyDict).objs.size = h.objs.size + 1 := Heap.size_push _ _
  have D1 : Led (h.push emptyDict) ((h.objs.size, AtP []) :: L) := Led.push D rfl ⟨[], 0, rfl, Nat.le_refl _, rfl, fun x => rfl⟩
  have D2 := Led.push (o := instObj 373 h.objs.size) (P := InsP 373 h.objs.size) D1 rfl rfl
  rw [e0] at D2
  have D3 : Led ((h.push emptyDict).push (instObj 373 h.objs.size)) ([(h.objs.size, AtP [])] ++ ((h.objs.size + 1, InsP 373 h.objs.size) :: L)) := D2.perm (.swap ..)
  have w1 : (Code.builtin "type.__call__" ⟨.ref 373 :: [.none, .ref aa, .ref ab, .bool false], []⟩).weight = 1 := by first | rfl | kernel_rfl | decide +kernel
  have w2 : (Code.builtin "type.__call__" ⟨.ref 373 :: [.none, .ref aa, .ref ab, .bool false], []⟩).cUnits = 1 := by first | rfl | kernel_rfl | decide +kernel
  have w3 : (Code.builtin "type.__call__" ⟨.ref 373 :: [.none, .ref aa, .ref ab, .bool false], []⟩).envs = [] := by first | rfl | kernel_rfl | decide +kernel
  refine init_does (ys := ys) P (B.mono fun p hp => by (with_reducible refine List.mem_cons_of_mem _ ?_; with_reducible assumption)) (.head _) (by (with_reducible refine List.mem_cons_of_mem _ ?_; with_reducible assumption)) h7 (A.under _) _ _ g d _ os ⟨hh, ?_, ?_, ?_, ?_⟩ ⟨outer, ?_, trivial⟩ D3 ?_
  · show A.depth + Code.weight _ + 4 < _; rw [w1]; lia  
  · show A.units + Code.cUnits _ + 3 * 4 + 200 < _; rw [w2]; lia  
  · show A.depth + Code.weight _ + 4 ≤ _; rw [w1]; have := RM.hD; lia  
  · show A.units + Code.cUnits _ + 3 * 4 ≤ _; rw [w2]; have := RM.hU; lia  
  · unfold Around.under; dsimp only; rw [w3]; exact hA
  · rintro h' m n v tk' D' ⟨rfl, b2j, bj, bp, rfl, hc⟩
    refine ⟨rfl, G h' _ (n ++ [(h.objs.size + 1, InsP 373 h.objs.size)]) _ _ ?_ ⟨_, _, b2j, bj, bp, _, rfl, rfl, rfl, by (with_reducible refine List.mem_append_right _ ?_; with_reducible exact List.mem_cons_self), ?_⟩⟩
    · rwa [List.append_assoc]
    · obtain ⟨c1, c2, ls, c3, c4, c5⟩ := hc
      exact ⟨c1, by (with_reducible refine List.mem_append_left _ ?_; with_reducible assumption), ls, by (with_reducible refine List.mem_append_left _ ?_; with_reducible assumption), fun p hp => by have := c4 p hp; (with_reducible refine List.mem_append_left _ ?_; with_reducible assumption), c5⟩

end Mine
end
section
open PySem PySem.W PyProof.Rows PySem.Calls
set_option autoImplicit false
namespace Mine
def bodyOf (K : Frag) (f : Addr) : List Stmt := match K.lookup f with
  | some o => match o.data with
    | .func fd => match fd.body with
      | .stmts b => b
      | _ => []
    | _ => []
  | _ => []
def scopeOf (K : Frag) (f : Addr) : Scope := match K.lookup f with
  | some o => match o.data with
    | .func fd => fd.scope
    | _ => { kind := .function, names := [], isGenerator := false, isCoroutine := false }
  | _ => { kind := .function, names := [], isGenerator := false, isCoroutine := false }
theorem lawEnter {K : Frag} {f : Addr} {name qual : Str} {params : Arguments} {body : List Stmt} {scope : Scope} {dV kV doc pm cdv ct oc : Value} {an od : Option Addr} {osl : Array (Option Value)} {R : List Stmt → Scope → Prop}
    (ho : K.lookup f = some ⟨oc, od, .func (fnOf name qual params body scope dV kV doc pm an cdv ct), osl⟩) (X : R body scope) : R (bodyOf K f) (scopeOf K f) := by
  unfold bodyOf scopeOf
  rw [ho]
  exact X
abbrev alX (x : Option Value) : AL := [("x", x)]
abbrev glLaw : List (Str × Value) := [("sum", .builtin "sum"), ("unorderable_list_difference", .ref 71), ("list", .type "list"), ("SequenceMatcher", .ref 373), ("_law_codes", .ref 391), ("_count_diff_all_purpose", .ref 152), ("_law_rows", .ref 398), ("sorted", .builtin "sorted")]
abbrev alLaw (script drawn one two missing beyond left right codes rows gone come word i j k l : Option Value) : AL := [("script", script), ("drawn", drawn), ("one", one), ("two", two), ("missing", missing), ("beyond", beyond), ("left", left), ("right", right), ("codes", codes), ("rows", rows), ("gone", gone), ("come", come), ("word", word), ("i", i), ("j", j), ("k", k), ("l", l)]
theorem ints_vals {xs : List Int} {o : Obj} (ho : IntsP xs o) : ∃ vs : List Value, ListP vs o ∧ vs.length = xs.length ∧ ∀ (i : Nat) x, vs[i]? = some x → ∃ y t, x = .int y t := by
  obtain ⟨vs, hi, hl⟩ := ho
  exact ⟨vs, hl, hi.length, fun i x hx => let ⟨y, t, _, e⟩ := ints_of hi hx; ⟨y, t, e⟩⟩
theorem St.thinN {K : Frag} {L : LT} {env : Env} {gl : List (Str × Value)} {al : AL} {m n n' : LT} {h : Heap} (S : St K L env gl al m n h) (hs : n'.Sublist n) : St K L env gl al m n' h :=
  ⟨S.led.sub (.cons_cons _ ((List.Sublist.refl m).append (hs.append (List.Sublist.refl L)))), S.env⟩
theorem lookup_self (x : Str) (c : Addr) : List.lookup x [(x, c)] = some c := by simp [List.lookup]
theorem closure_one {scope : Scope} {env : Env} {a b n : Str} {c : Addr} (hn : scope.names = [(a, .local), (b, .local), (n, .free)]) (hc : env.cells.lookup n = some c) : closureFor scope env = pure [(n, c)] := by
  simp [closureFor, cellOf, hn, hc]
theorem relabel_one {scope : Scope} {env : Env} {a b n : Str} (hn : scope.names = [(a, .local), (b, .local), (n, .free)]) (hk : env.scope.kind = .function) (hkk : env.kindOf n = some .cell) : relabel scope env = { scope with names := [(a, .local), (b, .local), (n, .cell)] } := by
  simp [relabel, hn, hk, hkk]
theorem intsOf : ∀ xs : List Int, IntsAre (xs.map fun n => .int n 0) xs
  | [] => .nil
  | x :: r => .cons x 0 (intsOf r)
theorem pick_le (xs : List Int) (lo hi st : Option Int) : (pickNums xs lo hi st).length ≤ xs.length := length_pickNums_le (intsOf xs) lo hi st

end Mine
end
section
open PySem
set_option autoImplicit false
namespace Mine
theorem blk_seg {xs ys : List Int} {i j k : Int} (h : Blk xs ys 0 xs.length 0 ys.length i j k) : seg xs i (i + k) = seg ys j (j + k) := by
  obtain ⟨h1, h2, h3, h4, h5, h6⟩ := h
  unfold seg
  apply List.ext_getElem?
  intro n
  rw [List.getElem?_drop, List.getElem?_drop, List.getElem?_take, List.getElem?_take]
  by_cases c : (n : Int) < k
  · rw [if_pos (by lia  ), if_pos (by lia  )]
    have := h6 n (by lia  ) c
    rw [show (i + (n : Int)).toNat = i.toNat + n by lia  , show (j + (n : Int)).toNat = j.toNat + n by lia  ] at this
    exact this
  · rw [if_neg (by lia  ), if_neg (by lia  )]
theorem chain_of {xs ys : List Int} {e : T3} (he : e.1 = xs.length ∧ e.2.1 = ys.length ∧ e.2.2 = 0) : ∀ l : List T3, (l ++ [e]).Pairwise (fun (p q : T3) => p.1 + p.2.2 ≤ q.1 ∧ p.2.1 + p.2.2 ≤ q.2.1) →
    (∀ p ∈ l, 0 ≤ p.1 ∧ 0 ≤ p.2.1 ∧ 0 ≤ p.2.2 ∧ seg xs p.1 (p.1 + p.2.2) = seg ys p.2.1 (p.2.1 + p.2.2)) → Chain xs ys (l ++ [e])
  | [], _, _ => he
  | [p], hp, hg => by
    obtain ⟨g1, g2, g3, g4⟩ := hg p (.head _)
    have := (List.pairwise_cons.mp hp).1 e (by simp)
    exact ⟨⟨g1, g2, g3, this.1, this.2, g4⟩, he⟩
  | p :: q :: l, hp, hg => by
    obtain ⟨g1, g2, g3, g4⟩ := hg p (.head _)
    obtain ⟨p1, p2⟩ := List.pairwise_cons.mp hp
    have := p1 q (by simp)
    exact ⟨⟨g1, g2, g3, this.1, this.2, g4⟩, chain_of he (q :: l) p2 fun x hx => hg x (.tail _ hx)⟩
theorem Kept.chain {xs ys : List Int} {ks : List T3} (x : Kept xs ys 0 xs.length 0 ys.length ks) : Chain xs ys ((0, 0, 0) :: ks ++ [((xs.length : Int), (ys.length : Int), 0)]) := by
  refine chain_of ⟨rfl, rfl, rfl⟩ ((0, 0, 0) :: ks) (x.ahead (by lia  ) (by lia  )) fun p hp => ?_
  rcases List.mem_cons.mp hp with rfl | hp
  · refine ⟨Int.le_refl _, Int.le_refl _, Int.le_refl _, ?_⟩
    exact (seg_nil _ _).trans (seg_nil _ _).symm
  · obtain ⟨hb, _⟩ := x.mem p hp
    exact ⟨hb.1, hb.2.2.1, hb.2.2.2.2.1, blk_seg hb⟩
theorem eqR_mem {e p : T3} : ∀ {l : List T3}, p ∈ l → ∀ r ∈ eqR p, r ∈ codesOf (l ++ [e])
  | [a], hp, r, hr => by
    rw [List.mem_singleton] at hp
    subst hp
    show r ∈ stepR p e ++ codesOf [e]
    exact List.mem_append_left _ (List.mem_append_left _ hr)
  | a :: b :: l, hp, r, hr => by
    show r ∈ stepR a b ++ codesOf (b :: l ++ [e])
    rcases List.mem_cons.mp hp with rfl | hp
    · exact List.mem_append_left _ (List.mem_append_left _ hr)
    · exact List.mem_append_right _ (eqR_mem hp r hr)
theorem gap_noeq {i ai j bj : Int} {r : List Sc} (h : r ∈ gapR i ai j bj) : isEqR r = false := by
  unfold gapR at h
  split at h
  · simp at h
  · rw [List.mem_singleton] at h
    subst h
    show (_ == _) = false
    split
    · decide +kernel
    · split <;> decide +kernel
theorem eqs_noeq {xs ys : List Int} : ∀ {l : List T3}, Chain xs ys l → eqs xs l = [] → ∀ r ∈ codesOf l, isEqR r = false
  | [], _, _, r, h => by simp [codesOf] at h
  | [_], _, _, r, h => by simp [codesOf] at h
  | p :: q :: l, ⟨⟨h1, h2, h3, h4, h5, _⟩, hc⟩, he, r, h => by
    have hle := hc.le
    obtain ⟨e1, e2⟩ := List.append_eq_nil_iff.mp he
    have hl := seg_len xs p.1 (p.1 + p.2.2) h1 (by lia  ) (by lia  )
    rw [e1] at hl
    have hz : p.2.2 = 0 := by simp only [List.length_nil] at hl; lia  
    rw [codesOf, List.mem_append, stepR, List.mem_append] at h
    rcases h with (h | h) | h
    · rw [eqR, if_neg (by lia  )] at h; simp at h
    · exact gap_noeq h
    · exact eqs_noeq hc e2 r h
def codesK (xs ys : List Int) (ks : List T3) : List (List Sc) := codesOf ((0, 0, 0) :: ks ++ [((xs.length : Int), (ys.length : Int), 0)])
section
variable {xs ys one two : List Int} {ks : List T3}
theorem Kept.rowsOk (x : Kept xs ys 0 xs.length 0 ys.length ks) : ∀ r ∈ codesK xs ys ks, RowOk xs.length ys.length r := chain_ok x.chain
theorem Kept.cover (x : Kept xs ys 0 xs.length 0 ys.length ks) : xs.Perm (gone xs (codesK xs ys ks) ++ eqs xs ((0, 0, 0) :: ks ++ [((xs.length : Int), (ys.length : Int), 0)])) ∧ ys.Perm (come ys (codesK xs ys ks) ++ eqs xs ((0, 0, 0) :: ks ++ [((xs.length : Int), (ys.length : Int), 0)])) := by
  unfold codesK
  rw [List.cons_append]
  exact chain_perm (xs := xs) (ys := ys) (p := (0, 0, 0)) (r := ks ++ [((xs.length : Int), (ys.length : Int), 0)]) (by have h := x.chain; rwa [List.cons_append] at h)
theorem Kept.diff (x : Kept xs ys 0 xs.length 0 ys.length ks) (z : Int) : ((come ys (codesK xs ys ks)).count z : Int) - (gone xs (codesK xs ys ks)).count z = ys.count z - xs.count z := by
  obtain ⟨h1, h2⟩ := x.cover
  have e1 := h1.count_eq z
  have e2 := h2.count_eq z
  rw [List.count_append] at e1 e2
  lia  
theorem Kept.shrink (x : Kept xs ys 0 xs.length 0 ys.length ks) (h : (codesK xs ys ks).filter isEqR ≠ []) : (gone xs (codesK xs ys ks)).length < xs.length := by
  have h1 := x.cover.1.length_eq
  rw [List.length_append] at h1
  have hne : eqs xs ((0, 0, 0) :: ks ++ [((xs.length : Int), (ys.length : Int), 0)]) ≠ [] := fun e => h (List.filter_eq_nil_iff.mpr fun r hr => by rw [eqs_noeq x.chain e r hr]; simp)
  have := List.length_pos_iff.mpr hne
  lia  
theorem Kept.comeLe (x : Kept xs ys 0 xs.length 0 ys.length ks) : (come ys (codesK xs ys ks)).length ≤ ys.length := by
  have h1 := x.cover.2.length_eq
  rw [List.length_append] at h1
  lia  
theorem Kept.apart (x : Kept xs ys 0 xs.length 0 ys.length ks) (h : (codesK xs ys ks).filter isEqR = []) : ∀ z ∈ xs, z ∉ ys := by
  have hk : ∀ p ∈ ks, False := fun p hp => by
    have hs := (x.mem p hp).2
    have hr : [Sc.s "equal", .i p.1, .i (p.1 + p.2.2), .i p.2.1, .i (p.2.1 + p.2.2)] ∈ codesK xs ys ks := by
      refine eqR_mem (l := (0, 0, 0) :: ks) (.tail _ hp) _ ?_
      rw [eqR, if_pos hs]
      exact .head _
    have := List.filter_eq_nil_iff.mp h _ hr
    exact this (show (("equal" : Str) == "equal") = true by decide +kernel)
  have hb : ∃ i j, Best xs ys 0 xs.length 0 ys.length i j 0 := by
    cases x with
    | nil hb => exact ⟨_, _, hb⟩
    | node _ _ _ _ => exact (hk _ (List.mem_append_right _ (.head _))).elim
  obtain ⟨i, j, hb⟩ := hb
  intro z hx hy
  obtain ⟨p, hp, ep⟩ := List.getElem_of_mem hx
  obtain ⟨q, hq, eq⟩ := List.getElem_of_mem hy
  have := (hb.2.2 p q 1 ⟨by lia  , by lia  , by lia  , by lia  , by lia  , fun t h0 h1 => by
    have e : t = 0 := by lia  
    subst e
    rw [Int.add_zero, Int.add_zero, Int.toNat_natCast, Int.toNat_natCast, List.getElem?_eq_getElem hp, List.getElem?_eq_getElem hq, ep, eq]⟩).1
  lia  
theorem Kept.left (x : Kept xs ys 0 xs.length 0 ys.length ks) (h : (codesK xs ys ks).filter isEqR = []) (hd : ∀ z, (ys.count z : Int) - xs.count z = two.count z - one.count z) (z : Int) :
    xs.count z = one.count z - two.count z ∧ ys.count z = two.count z - one.count z := by
  have := hd z
  by_cases c : z ∈ xs
  · have h2 := List.count_eq_zero.mpr (x.apart h z c)
    lia  
  · have h2 := List.count_eq_zero.mpr c
    lia  
end
theorem unordF_count : ∀ (r ys ms : List Int) (z : Int), (unordF r ys ms).1.count z = ms.count z + (r.count z - ys.count z) ∧ (unordF r ys ms).2.count z = ys.count z - r.count z
  | [], ys, ms, z => by simp [unordF]
  | x :: r, ys, ms, z => by
    unfold unordF
    split
    · rename_i hx
      obtain ⟨h1, h2⟩ := unordF_count r (ys.erase x) ms z
      rw [h1, h2, List.count_cons, List.count_erase]
      by_cases c : x = z
      · subst c
        have := List.count_pos_iff.mpr hx
        simp only [BEq.rfl, if_true]
        lia  
      · simp [c]
    · rename_i hx
      obtain ⟨h1, h2⟩ := unordF_count r ys (ms ++ [x]) z
      rw [h1, h2, List.count_cons, List.count_append, List.count_singleton]
      by_cases c : x = z
      · subst c
        have := List.count_eq_zero.mpr hx
        simp only [BEq.rfl, if_true]
        lia  
      · simp [c]
theorem sorted_uniq {xs ys as bs : List Int} (ha : as.Perm xs) (hb : bs.Perm ys) (sa : as.Pairwise (· ≤ ·)) (sb : bs.Pairwise (· ≤ ·)) (h : ∀ z, xs.count z = ys.count z) : as = bs :=
  List.Perm.eq_of_pairwise (fun _ _ _ _ => Int.le_antisymm) sa sb ((ha.trans (List.perm_iff_count.mpr h)).trans hb.symm)
theorem RowOk.all {la lb : Int} {C : List (List Sc)} (h : ∀ r ∈ C, RowOk la lb r) : (C.all (·.all scOk)) = true := by
  refine List.all_eq_true.mpr fun r hr => ?_
  obtain ⟨w, i, j, k, l, rfl, hw, _⟩ := h r hr
  simp [scOk, hw]
end Mine
end
section
open PySem PySem.W PyProof.Rows PySem.Calls
set_option autoImplicit false
namespace Mine
theorem St.sink {K : Frag} {L : LT} {env : Env} {gl : List (Str × Value)} {al : AL} {m n : LT} {h : Heap} (S : St K L env gl al m n h) : St K (n ++ L) env gl al m [] h := ⟨S.led, S.env⟩
theorem St.rise {K : Frag} {L : LT} {env : Env} {gl : List (Str × Value)} {al : AL} {m n n2 : LT} {h : Heap} (S : St K (n ++ L) env gl al m n2 h) : St K L env gl al m (n2 ++ n) h := ⟨by have := S.led; rwa [List.append_assoc], S.env⟩
theorem crow_form {left right : List Int} : ∀ (l seen : List Int), ∀ r ∈ crows left right seen l, ∃ a b c, r = [.i a, .i b, .i c]
  | [], _, r, h => by simp [crows] at h
  | x :: l, seen, r, h => by
    rw [crows, List.mem_append] at h
    rcases h with h | h
    · unfold crow at h
      split at h
      · rw [List.mem_singleton] at h; exact ⟨_, _, _, h⟩
      · simp at h
    · exact crow_form l _ r h
theorem crow_ok {left right : List Int} (l seen : List Int) : ((crows left right seen l).all (·.all scOk)) = true := by
  refine List.all_eq_true.mpr fun r hr => ?_
  obtain ⟨a, b, c, rfl⟩ := crow_form l seen r hr
  rfl
theorem filt_snoc {α : Type} {p : α → Bool} {l : List α} {i : Nat} {x : α} (h : l[i]? = some x) : (l.take (i + 1)).filter p = (l.take i).filter p ++ (if p x = true then [x] else []) := by
  rw [List.take_add_one, h, List.filter_append]
  simp [List.filter_cons]
theorem gone_snoc {xs : List Int} {C : List (List Sc)} {q : Nat} {w : Str} {i j k l : Int} (h : C[q]? = some [.s w, .i i, .i j, .i k, .i l]) : gone xs (C.take (q + 1)) = gone xs (C.take q) ++ (if w = "equal" then [] else seg xs i j) := by
  rw [List.take_add_one, h, gone_append]
  simp [gone]
theorem come_snoc {xs : List Int} {C : List (List Sc)} {q : Nat} {w : Str} {i j k l : Int} (h : C[q]? = some [.s w, .i i, .i j, .i k, .i l]) : come xs (C.take (q + 1)) = come xs (C.take q) ++ (if w = "equal" then [] else seg xs k l) := by
  rw [List.take_add_one, h, come_append]
  simp [come]
theorem gone_le (xs : List Int) (C : List (List Sc)) (q : Nat) : (gone xs (C.take q)).length ≤ (gone xs C).length := by
  have e : gone xs C = gone xs (C.take q) ++ gone xs (C.drop q) := by rw [← gone_append, List.take_append_drop]
  rw [e, List.length_append]; lia  
theorem come_le (xs : List Int) (C : List (List Sc)) (q : Nat) : (come xs (C.take q)).length ≤ (come xs C).length := by
  have e : come xs C = come xs (C.take q) ++ come xs (C.drop q) := by rw [← come_append, List.take_append_drop]
  rw [e, List.length_append]; lia  
theorem sc5 {vs : List Value} {w : Str} {a b c d : Int} (x : ScAre vs [.s w, .i a, .i b, .i c, .i d]) : ∃ t0 t1 t2 t3 t4, vs = [.str w t0, .int a t1, .int b t2, .int c t3, .int d t4] := by
  obtain ⟨t0, v0, rfl, x1⟩ := x.uns
  obtain ⟨t1, v1, rfl, x2⟩ := x1.un
  obtain ⟨t2, v2, rfl, x3⟩ := x2.un
  obtain ⟨t3, v3, rfl, x4⟩ := x3.un
  obtain ⟨t4, v4, rfl, x5⟩ := x4.un
  rw [x5.un0]
  exact ⟨t0, t1, t2, t3, t4, rfl⟩
theorem scS {y : Value} {a : Str} (x : ScAre [y] [.s a]) : ∃ t, y = .str a t := by cases x; exact ⟨_, rfl⟩
abbrev alR (a b c : Option Value) : AL := [("had", a), ("due", b), ("x", c)]
abbrev alC (a : Option Value) : AL := [("code", a)]
inductive K13a (F : Option Value → Option Value → Option Value → Option Value → Option Value → Option Value → Option Value → Option Value → Option Value → Option Value → Option Value → AL) (L : LT) (one two : List Int) (k : Nat) (al : AL) (m n : LT) : Prop
  | mk (lf rt : Addr) (xs ys : List Int) (v9 v10 v11 v12 v13 v14 v15 v16 v17 : Option Value) (e1 : al = F (some (.ref lf)) (some (.ref rt)) v9 v10 v11 v12 v13 v14 v15 v16 v17) (e2 : m = []) (q1 : (lf, IntsP xs) ∈ n ++ L) (q2 : (rt, IntsP ys) ∈ n ++ L) (q3 : xs.length ≤ 14) (q4 : ys.length ≤ 14)
      (q5 : ∀ z, (ys.count z : Int) - xs.count z = two.count z - one.count z) (q6 : k = xs.length)
inductive K13f (F : Option Value → Option Value → Option Value → Option Value → Option Value → Option Value → Option Value → AL) (N : LT) (xs ys : List Int) (C : List (List Sc)) (q : Nat) (al : AL) (m n : LT) : Prop
  | mk (ga ca : Addr) (u13 u14 u15 u16 u17 : Option Value) (e1 : al = F (some (.ref ga)) (some (.ref ca)) u13 u14 u15 u16 u17) (e2 : m = []) (hs : ∀ p ∈ N, p ∈ n) (h1 : (ga, IntsP (gone xs (C.take q))) ∈ n) (h2 : (ca, IntsP (come ys (C.take q))) ∈ n)
inductive RowVal (c : Value) (N : LT) (C : List (List Sc)) (i : Nat) (x : Value) : Prop
  | mk (a : Addr) (r : List Sc) (h1 : C[i]? = some r) (h2 : x = .ref a) (h3 : (a, RowP c r) ∈ N)
inductive K13c (N : LT) (C : List (List Sc)) (i : Nat) (al' : AL) (acc : List Value) (n' : LT) : Prop
  | mk (h : ∃ v1, al' = alC v1) (e : n' = []) (h2 : RowsIn (.type "tuple") N acc ((C.take i).filter isEqR))
theorem row_val {c : Value} {l : LT} {vs : List Value} {rs : List (List Sc)} {i : Nat} {x : Value} (h : RowsIn c l vs rs) (hx : vs[i]? = some x) : RowVal c l rs i x := by
  have hl := h.length
  obtain ⟨hi, _⟩ := List.getElem?_eq_some_iff.mp hx
  obtain ⟨a, e1, e2⟩ := h.at (k := i) (r := rs[i]'(by lia  )) (List.getElem?_eq_getElem (by lia  ))
  rw [hx] at e1
  cases e1
  exact ⟨a, _, List.getElem?_eq_getElem (by lia  ), rfl, e2⟩
theorem filt_ok {C : List (List Sc)} {p : List Sc → Bool} (h : (C.all (·.all scOk)) = true) : ((C.filter p).all (·.all scOk)) = true :=
  List.all_eq_true.mpr fun r hr => List.all_eq_true.mp h r (List.mem_filter.mp hr).1
theorem law_loop {w : World} {h₁ h : Heap} {A : Around} {ao at2 mi be : Addr} {one two miss bey : List Int} {L : LT} {env : Env} {Q : Flow → Shared → Prop} {E : Value → Shared → Prop} {g : Array GenState} {d : Drawn} {tk : Nat} {os : OsState} {sv dv : Option Value}
    (B : Bs (K w.params) h₁ L) (m1 : (ao, IntsP one) ∈ L) (m2 : (at2, IntsP two) ∈ L) (m3 : (mi, IntsP miss) ∈ L) (m4 : (be, IntsP bey) ∈ L) (l1 : one.length ≤ 14) (l2 : two.length ≤ 14) (l3 : miss.length ≤ 14) (l4 : bey.length ≤ 14)
    (c1 : ∀ z, miss.count z = one.count z - two.count z) (c2 : ∀ z, bey.count z = two.count z - one.count z) (RM : Rm A 150) (hA : A.frames = some [env])
    (hq : ∀ h tk, (∀ b o, h₁.get? b = some o → h.get? b = some o) → Q (.ret (.bool true)) ⟨h, g, d, tk, os⟩) :
    { env with scope := scopeOf (K w.params) 403 } = env → St (K w.params) L env glLaw (alLaw sv dv (some (.ref ao)) (some (.ref at2)) (some (.ref mi)) (some (.ref be)) (some (.ref ao)) (some (.ref at2)) none none none none none none none none none) [] [] h →
      wpAny (model PySem.Challenge.pw_il0152_01 w) A (execs ((bodyOf (K w.params) 403).drop 6) env) Q E ⟨h, g, d, tk, os⟩ := by
  refine lawEnter (f := 403) (name := _) (qual := _) (params := _) (body := _) (scope := _) (dV := _) (kV := _) (doc := _) (pm := _) (cdv := _) (ct := _) (oc := _) (an := _) (od := _) (osl := _)
    (R := fun body scope => { env with scope := scope } = env → St (K w.params) L env glLaw (alLaw sv dv (some (.ref ao)) (some (.ref at2)) (some (.ref mi)) (some (.ref be)) (some (.ref ao)) (some (.ref at2)) none none none none none none none none none) [] [] h →
      wpAny (model PySem.Challenge.pw_il0152_01 w) A (execs (body.drop 6) env) Q E ⟨h, g, d, tk, os⟩) rfl ?_
  intro henv S
  have hh := RM.hh
  have hu : A.units + 64 < cLine := by have := RM.hu; lia  
  dsimp only [List.drop]
  refine xWhile ?_
  refine whileSt (K13a (alLaw sv dv (some (.ref ao)) (some (.ref at2)) (some (.ref mi)) (some (.ref be))) L one two) (fun _ _ _ => False) S
    ⟨ao, at2, one, two, _, _, _, _, _, _, _, _, _, rfl, rfl, by (with_reducible refine List.mem_append_right _ ?_; with_reducible assumption), by (with_reducible refine List.mem_append_right _ ?_; with_reducible assumption), l1, l2, fun _ => rfl, rfl⟩ ?_ (fun _ _ _ _ _ j _ => j.elim)
  rintro k al m n h tk E' Q' X' ⟨lf, rt, xs, ys, v9, v10, v11, v12, v13, v14, v15, v16, v17, rfl, rfl, hlf, hrt, lx, ly, hd, rfl⟩ hN hB hR hX S
  refine isTrue_plain (Constant_bool (wpAny_truthy_bool (ifT ?_)))
  have S := S.sink
  obtain ⟨M, hM⟩ : ∃ M, M = n ++ L := ⟨_, rfl⟩
  have B2 : Bs (K w.params) h₁ M := by rw [hM]; exact B.mono fun p hp => List.mem_append_right _ hp
  have m1 : (ao, IntsP one) ∈ M := by rw [hM]; exact List.mem_append_right _ m1
  have m2 : (at2, IntsP two) ∈ M := by rw [hM]; exact List.mem_append_right _ m2
  have m3 : (mi, IntsP miss) ∈ M := by rw [hM]; exact List.mem_append_right _ m3
  have m4 : (be, IntsP bey) ∈ M := by rw [hM]; exact List.mem_append_right _ m4
  have hN : ∀ k' al n2 h tk, k' < xs.length → K13a (alLaw sv dv (some (.ref ao)) (some (.ref at2)) (some (.ref mi)) (some (.ref be))) M one two k' al [] n2 → St (K w.params) M env glLaw al [] n2 h → Q' .next ⟨h, g, d, tk, os⟩ := by
    rintro k' al n2 h tk hk ⟨lf, rt, xs, ys, v9, v10, v11, v12, v13, v14, v15, v16, v17, rfl, _, q1, q2, q3, q4, q5, q6⟩ S
    rw [hM] at S q1 q2
    exact (hN k' _ [] (n2 ++ n) h tk hk ⟨lf, rt, xs, ys, v9, v10, v11, v12, v13, v14, v15, v16, v17, rfl, rfl, by rw [List.append_assoc]; exact q1, by rw [List.append_assoc]; exact q2, q3, q4, q5, q6⟩ S.rise).1
  rw [← hM] at S hlf hrt
  clear hB hX B hM
  refine xAssign ?_
  refine callMeth ?_
  refine eCallK (by assumption) (by assumption) (by with_reducible exact Mine.at3) (by rfl) ?_
  refine spC ?_
  with_reducible refine wpAny_Constant_none ?_
  refine spC ?_
  refine St.ld (by assumption) (by with_reducible exact Mine.at6) ?_
  refine spC ?_
  refine St.ld (by assumption) (by with_reducible exact Mine.at7) ?_
  refine spC ?_
  refine Constant_bool ?_
  with_reducible refine spN ?_
  refine ⟨kIn (by assumption) B2, ?_⟩
  refine St.callM (mm := []) (m := []) (by assumption) (make_does (ys := ys) w.params (B2.mono fun p hp => by (with_reducible refine List.mem_cons_of_mem _ ?_; (with_reducible refine List.mem_append_right _ ?_; (with_reducible refine List.mem_append_right _ ?_; with_reducible assumption)))) (by (with_reducible refine List.mem_cons_of_mem _ ?_; (with_reducible refine List.mem_append_right _ ?_; (with_reducible refine List.mem_append_right _ ?_; with_reducible assumption)))) (by lia  )) (RM.le (by lia  )) ⟨_, hA, trivial⟩ ?_
  rintro h' mm1 n1 v tk1 ⟨si, dx, b2j, bj, bp, n0, rfl, rfl, rfl, hsi, hch⟩ S
  intro pl
  refine selfMeth (i := si) (dx := dx) (C := 373) (f := 341) (by assumption) B2 (by (with_reducible refine List.mem_append_right _ ?_; (with_reducible refine List.mem_append_left _ ?_; (with_reducible refine List.mem_append_left _ ?_; with_reducible assumption)))) (by (with_reducible refine List.mem_append_left _ ?_; (with_reducible refine List.mem_append_left _ ?_; with_reducible exact List.mem_cons_self))) (by rfl) (by rfl) (by rfl) (by rfl) ?_
  refine callWith_K0 (kIn (g := g) (d := d) (tk := tk1) (os := os) (by assumption) B2) (by rfl) ?_
  refine St.callM (mm := [(dx, AtP (atsB rt b2j bj bp (atsA lf ats0)))]) (m := []) (by assumption) (opcodes_does (xs := xs) (ys := ys) (aa := lf) (ab := rt) (b2j := b2j) (bj := bj) (ats := atsB rt b2j bj bp (atsA lf ats0)) (B2.mono fun p hp => by (with_reducible refine List.mem_cons_of_mem _ ?_; (with_reducible refine List.mem_append_right _ ?_; (with_reducible refine List.mem_append_right _ ?_; with_reducible assumption)))) (by (with_reducible refine List.mem_cons_of_mem _ ?_; (with_reducible refine List.mem_append_right _ ?_; (with_reducible refine List.mem_append_left _ ?_; (with_reducible refine List.mem_append_left _ ?_; with_reducible assumption))))) (by (with_reducible refine List.mem_cons_of_mem _ ?_; (with_reducible refine List.mem_append_right _ ?_; (with_reducible refine List.mem_append_right _ ?_; with_reducible assumption)))) (by (with_reducible refine List.mem_cons_of_mem _ ?_; (with_reducible refine List.mem_append_right _ ?_; (with_reducible refine List.mem_append_right _ ?_; with_reducible assumption)))) (by rfl) (by rfl) (by rfl) (by rfl) (by rfl) (by rfl) (by rfl) (by rfl) (hch.mono fun p hp => by (with_reducible refine List.mem_cons_of_mem _ ?_; (with_reducible refine List.mem_append_right _ ?_; (with_reducible refine List.mem_append_left _ ?_; (with_reducible refine List.mem_append_left _ ?_; with_reducible assumption))))) (by simp) (by lia  ) (by lia  )) (RM.le (by lia  )) ⟨_, hA, trivial⟩ ?_
  rintro h' mm2 n2 v tk2 ⟨cr, cvs, ks, ats', rfl, rfl, hcr, hks, hcw⟩ S
  obtain ⟨N, hN1, hN2, S⟩ : ∃ N : LT, (cr, ListP cvs) ∈ N ∧ RowsIn (.type "tuple") N cvs (codesK xs ys ks) ∧ St (K w.params) M env glLaw (alLaw sv dv (some (.ref ao)) (some (.ref at2)) (some (.ref mi)) (some (.ref be)) (some (.ref lf)) (some (.ref rt)) v9 v10 v11 v12 v13 v14 v15 v16 v17) [] N h' :=
    ⟨_, List.mem_cons_of_mem _ (List.mem_append_left _ hcr), hcw.mono fun p hp => List.mem_cons_of_mem _ (List.mem_append_left _ hp), S.demote⟩
  clear hcr hcw hsi hch
  have hok := hks.rowsOk
  have hall := RowOk.all hok
  obtain ⟨C, hC⟩ : ∃ C, C = codesK xs ys ks := ⟨_, rfl⟩
  rw [← hC] at hN2 hok hall
  have hcl : cvs.length = C.length := hN2.length
  have hC60 : C.length ≤ 60 := by
    have k1 := hks.len
    have k2 := codes_len ((0, 0, 0) :: ks ++ [((xs.length : Int), (ys.length : Int), 0)])
    rw [hC]; unfold codesK
    simp only [List.length_append, List.length_cons, List.length_nil] at k2 ⊢
    lia  
  refine St.st (by assumption) (by with_reducible exact Mine.put8) fun _ _ _ => ?_
  refine xIf ?_
  refine wpAny_isTrue_Compare1 ?_
  refine St.ld (by assumption) (by with_reducible exact Mine.at8) ?_
  refine eCallK (by assumption) (by assumption) (by with_reducible exact Mine.at4) (by rfl) ?_
  refine spC ?_
  refine St.ld (by assumption) (by with_reducible exact Mine.at6) ?_
  refine spC ?_
  refine St.ld (by assumption) (by with_reducible exact Mine.at7) ?_
  with_reducible refine spN ?_
  refine ⟨kIn (by assumption) B2, St.call (by assumption) (codes_does (one := xs) (two := ys) w.params 14 (B2.mono fun p hp => by (with_reducible refine List.mem_cons_of_mem _ ?_; (with_reducible refine List.mem_append_right _ ?_; (with_reducible refine List.mem_append_right _ ?_; with_reducible assumption)))) (by (with_reducible refine List.mem_cons_of_mem _ ?_; (with_reducible refine List.mem_append_right _ ?_; (with_reducible refine List.mem_append_right _ ?_; with_reducible assumption)))) (by (with_reducible refine List.mem_cons_of_mem _ ?_; (with_reducible refine List.mem_append_right _ ?_; (with_reducible refine List.mem_append_right _ ?_; with_reducible assumption)))) (by lia  ) (by lia  ) (by lia  )) (RM.le (by lia  )) ?_⟩
  rintro h' n3 v tk3 ⟨r3, vs3, ks3, rfl, hr3, hks3, hw3⟩ S
  obtain rfl := hks3.uniq hks
  have hw3 : RowsIn (.type "tuple") n3 vs3 C := by rw [hC]; exact hw3
  refine neRows (rs := C) (qs := C) (by assumption) (vs := cvs) (us := vs3) (by (with_reducible refine List.mem_append_right _ ?_; (with_reducible refine List.mem_append_left _ ?_; (with_reducible refine List.mem_append_right _ ?_; with_reducible assumption)))) (hN2.mono fun p hp => by (with_reducible refine List.mem_append_right _ ?_; (with_reducible refine List.mem_append_left _ ?_; (with_reducible refine List.mem_append_right _ ?_; with_reducible assumption)))) (by (with_reducible refine List.mem_append_right _ ?_; (with_reducible refine List.mem_append_left _ ?_; (with_reducible refine List.mem_append_left _ ?_; with_reducible assumption)))) (hw3.mono fun p hp => by (with_reducible refine List.mem_append_right _ ?_; (with_reducible refine List.mem_append_left _ ?_; (with_reducible refine List.mem_append_left _ ?_; with_reducible assumption)))) hall hall hu rfl ?_
  with_reducible refine wpAny_truthy_bool ?_
  refine ifF ?_
  have S := St.thinN S (n' := N) (List.sublist_append_right _ _)
  with_reducible refine appN ?_
  refine xAssign ?_
  refine eCallK (by assumption) (by assumption) (by with_reducible exact Mine.at5) (by rfl) ?_
  refine spC ?_
  refine St.ld (by assumption) (by with_reducible exact Mine.at6) ?_
  refine spC ?_
  refine St.ld (by assumption) (by with_reducible exact Mine.at7) ?_
  with_reducible refine spN ?_
  refine ⟨kIn (by assumption) B2, St.call (by assumption) (diff_does (xs := xs) (ys := ys) (B2.mono fun p hp => by (with_reducible refine List.mem_cons_of_mem _ ?_; (with_reducible refine List.mem_append_right _ ?_; (with_reducible refine List.mem_append_right _ ?_; with_reducible assumption)))) (by (with_reducible refine List.mem_cons_of_mem _ ?_; (with_reducible refine List.mem_append_right _ ?_; (with_reducible refine List.mem_append_right _ ?_; with_reducible assumption)))) (by (with_reducible refine List.mem_cons_of_mem _ ?_; (with_reducible refine List.mem_append_right _ ?_; (with_reducible refine List.mem_append_right _ ?_; with_reducible assumption)))) (by lia  ) (by lia  )) (RM.le (by lia  )) ?_⟩
  rintro h' n4 v tk4 ⟨r4, vs4, rfl, hr4, hw4⟩ S
  have hcf := crow_form (left := xs) (right := ys) (xs ++ ys) []
  have hco := crow_ok (left := xs) (right := ys) (xs ++ ys) []
  have hcr := crows_lrows (left := xs) (right := ys) hd (xs ++ ys) []
  have hcn := crows_len xs ys (xs ++ ys) []
  obtain ⟨CR, hCR⟩ : ∃ CR, CR = crows xs ys [] (xs ++ ys) := ⟨_, rfl⟩
  rw [← hCR] at hcf hco hcr hcn hw4
  have hvl := hw4.length
  rw [List.length_append] at hcn
  refine St.st (by assumption) (by with_reducible exact Mine.put9) fun _ _ _ => ?_
  refine xIf ?_
  refine wpAny_isTrue_Compare1 ?_
  refine evComp [] (by rfl) rfl (by decide +kernel) ?_
  refine St.ld (by assumption) (by with_reducible exact Mine.at9) ?_
  refine iter_list (by assumption) (St.isLV (vs := vs4) (by assumption) (by (with_reducible refine List.mem_append_right _ ?_; (with_reducible refine List.mem_append_left _ ?_; (with_reducible refine List.mem_append_left _ ?_; with_reducible assumption))))) fun it h' S => ?_
  refine blkEval (len := CR.length) (sc' := { kind := .function, names := [(".0", .local), ("had", .local), ("due", .local), ("x", .local)], isGenerator := false, isCoroutine := false }) (alR none none none) (fun i al' acc n' => (∃ v1 v2 v3, al' = alR v1 v2 v3) ∧ RowsIn (.type "tuple") n' acc (CR.take i))
    (RowVal (.ref 142) n4 CR) (.inr fun i x ⟨a, _, _, e, _⟩ => ⟨a, e⟩) (.inr ⟨_, _, _, rfl⟩)
    S hh (by lia  ) ⟨ListP vs4, by (with_reducible refine List.mem_append_right _ ?_; (with_reducible refine List.mem_append_left _ ?_; (with_reducible refine List.mem_append_left _ ?_; with_reducible assumption))), fun o ho => ⟨vs4, ho, hvl, fun i x hx => row_val hw4 hx⟩⟩ (by rw [← henv]; rfl) (by decide +kernel) rfl (by decide +kernel) (by decide +kernel) (by simp) ⟨⟨_, _, _, rfl⟩, .nil⟩ ?_ (fun i al' acc n' ⟨_, h1⟩ => by rw [h1.length, List.length_take]; lia  ) ?_
  · rintro cenv i al' D acc n' h tk p E x Q' N' hsc hcl2 hi ⟨a, r, hr, rfl, hra⟩ ⟨⟨v1, v2, v3, rfl⟩, hac⟩ hQ hN S
    obtain ⟨y1, y2, y3, rfl⟩ := hcf r (List.mem_of_getElem? hr)
    refine unpackC (C := 142) (.inr rfl) (i := y1) (j := y2) (k := y3) (by assumption) (h₁ := h₁) (B2.mono fun p hp => by (with_reducible refine List.mem_cons_of_mem _ ?_; (with_reducible refine List.mem_append_right _ ?_; (with_reducible refine List.mem_append_right _ ?_; with_reducible assumption)))) (by (with_reducible refine List.mem_append_right _ ?_; (with_reducible refine List.mem_append_right _ ?_; (with_reducible refine List.mem_cons_of_mem _ ?_; (with_reducible refine List.mem_append_right _ ?_; (with_reducible refine List.mem_append_left _ ?_; (with_reducible refine List.mem_append_left _ ?_; with_reducible assumption))))))) hh RM.d5 RM.u5 rfl rfl fun t u v h' tk' S => ?_
    refine assignInOrder_cons (assign_Name ?_)
    refine St.st (by assumption) (by with_reducible exact Mine.put0) fun _ _ _ => ?_
    refine assignInOrder_cons (assign_Name ?_)
    refine St.st (by assumption) (by with_reducible exact Mine.put1) fun _ _ _ => ?_
    refine assignInOrder_cons (assign_Name ?_)
    refine St.st (by assumption) (by with_reducible exact Mine.put2) fun _ _ _ => ?_
    refine assignInOrder_nil ?_
    refine wpAny_tests_nil (ifT ?_)
    with_reducible refine Tuple_ ?_
    refine spC ?_
    refine St.ld (by assumption) (by with_reducible exact Mine.at0) ?_
    refine spC ?_
    refine St.ld (by assumption) (by with_reducible exact Mine.at1) ?_
    refine spC ?_
    refine St.ld (by assumption) (by with_reducible exact Mine.at2) ?_
    with_reducible refine spN ?_
    refine newTupS (by assumption) (RowP (.type "tuple") [.i y1, .i y2, .i y3]) ⟨_, _, .int _ _ (.int _ _ (.int _ _ .nil)), rfl, rfl⟩ fun t0 h' S => ?_
    refine hQ _ _ _ _ _ ⟨⟨_, _, _, rfl⟩, ?_⟩ (by assumption)
    rw [List.take_add_one, hr]
    exact (hac.mono fun p hp => .tail _ hp).append (.cons (.head _) .nil)
  rintro D al' acc n' h tk ⟨_, hac⟩ S
  rw [List.take_length] at hac
  refine eCallK (by assumption) (by assumption) (by with_reducible exact Mine.at6) (by rfl) ?_
  refine spC ?_
  refine St.ld (by assumption) (by with_reducible exact Mine.at6) ?_
  refine spC ?_
  refine St.ld (by assumption) (by with_reducible exact Mine.at7) ?_
  refine spC ?_
  refine St.ld (by assumption) (by with_reducible exact Mine.at2) ?_
  refine spC ?_
  refine St.ld (by assumption) (by with_reducible exact Mine.at3) ?_
  with_reducible refine spN ?_
  refine ⟨kIn (by assumption) B2, St.call (by assumption) (rows_does (left := xs) (right := ys) (one := one) (two := two) w.params (B2.mono fun p hp => by (with_reducible refine List.mem_cons_of_mem _ ?_; (with_reducible refine List.mem_append_right _ ?_; (with_reducible refine List.mem_append_right _ ?_; with_reducible assumption)))) (by (with_reducible refine List.mem_cons_of_mem _ ?_; (with_reducible refine List.mem_append_right _ ?_; (with_reducible refine List.mem_append_right _ ?_; with_reducible assumption)))) (by (with_reducible refine List.mem_cons_of_mem _ ?_; (with_reducible refine List.mem_append_right _ ?_; (with_reducible refine List.mem_append_right _ ?_; with_reducible assumption)))) (by (with_reducible refine List.mem_cons_of_mem _ ?_; (with_reducible refine List.mem_append_right _ ?_; (with_reducible refine List.mem_append_right _ ?_; with_reducible assumption)))) (by (with_reducible refine List.mem_cons_of_mem _ ?_; (with_reducible refine List.mem_append_right _ ?_; (with_reducible refine List.mem_append_right _ ?_; with_reducible assumption)))) (by lia  ) (by lia  )) (RM.le (by lia  )) ?_⟩
  rintro h' n5 v tk5 ⟨r5, vs5, rfl, hr5, hw5⟩ S
  rw [← hcr] at hw5
  refine neRows (rs := CR) (qs := CR) (by assumption) (vs := acc) (us := vs5) (by (with_reducible refine List.mem_append_right _ ?_; (with_reducible refine List.mem_append_left _ ?_; (with_reducible refine List.mem_append_right _ ?_; with_reducible exact List.mem_cons_self)))) (hac.mono fun p hp => by (with_reducible refine List.mem_append_right _ ?_; (with_reducible refine List.mem_append_left _ ?_; (with_reducible refine List.mem_append_right _ ?_; (with_reducible refine List.mem_cons_of_mem _ ?_; (with_reducible refine List.mem_append_left _ ?_; with_reducible assumption)))))) (by (with_reducible refine List.mem_append_right _ ?_; (with_reducible refine List.mem_append_left _ ?_; (with_reducible refine List.mem_append_left _ ?_; with_reducible assumption)))) (hw5.mono fun p hp => by (with_reducible refine List.mem_append_right _ ?_; (with_reducible refine List.mem_append_left _ ?_; (with_reducible refine List.mem_append_left _ ?_; with_reducible assumption)))) hco hco hu rfl ?_
  with_reducible refine wpAny_truthy_bool ?_
  refine ifF ?_
  have S := St.thinN S (n' := N) ((List.Sublist.cons _ ((List.sublist_append_right n4 N).trans (List.sublist_append_right n' _))).trans (List.sublist_append_right n5 _))
  clear hac hw5 hr5 hw4 hvl hcr hco hcf hr4 hw3 hr3
  with_reducible refine appN ?_
  refine xIf ?_
  refine wpAny_isTrue_Compare1 ?_
  refine evComp [] (by rfl) rfl (by decide +kernel) ?_
  refine St.ld (by assumption) (by with_reducible exact Mine.at8) ?_
  refine iter_list (by assumption) (St.isLV (vs := cvs) (by assumption) (by (with_reducible refine List.mem_append_right _ ?_; (with_reducible refine List.mem_append_left _ ?_; with_reducible assumption)))) fun it h' S => ?_
  refine blkEval (len := C.length) (sc' := { kind := .function, names := [(".0", .local), ("code", .local)], isGenerator := false, isCoroutine := false }) (alC none) (K13c N C)
    (RowVal (.type "tuple") N C) (.inr fun i x ⟨a, _, _, e, _⟩ => ⟨a, e⟩) (.inl ⟨_, _, rfl⟩)
    S hh (by lia  ) ⟨ListP cvs, by (with_reducible refine List.mem_append_right _ ?_; (with_reducible refine List.mem_append_left _ ?_; with_reducible assumption)), fun o ho => ⟨cvs, ho, hcl, fun i x hx => row_val hN2 hx⟩⟩ (by rw [← henv]; rfl) (by decide +kernel) rfl (by decide +kernel) (by decide +kernel) (by simp) ⟨⟨_, rfl⟩, rfl, .nil⟩ ?_ (fun i al' acc n' ⟨_, _, h1⟩ => by rw [h1.length]; exact Nat.le_trans (List.length_filter_le _ _) (by rw [List.length_take]; lia  )) ?_
  · rintro cenv i al' D acc n' h tk p E x Q' N' hsc hcl2 hi ⟨a, r, hr, rfl, hra⟩ ⟨⟨v1, rfl⟩, rfl, hac⟩ hQ hN S
    obtain ⟨w0, i0, j0, k0, l0, rfl, _⟩ := hok r (List.mem_of_getElem? hr)
    have hfs := filt_snoc (p := isEqR) hr
    with_reducible refine assign_Name ?_
    refine St.st (by assumption) (by with_reducible exact Mine.put0) fun _ _ _ => ?_
    refine wpAny_tests_one ?_
    refine wpAny_isTrue_Compare1 ?_
    with_reducible refine Subscript_ ?_
    refine St.ld (by assumption) (by with_reducible exact Mine.at0) ?_
    with_reducible refine cI fun _ _ => ?_
    refine gRow (r := [.s w0, .i i0, .i j0, .i k0, .i l0]) (k := 0) (c := .s w0) (by assumption) (by (with_reducible refine List.mem_append_right _ ?_; (with_reducible refine List.mem_append_right _ ?_; (with_reducible refine List.mem_cons_of_mem _ ?_; (with_reducible refine List.mem_append_right _ ?_; (with_reducible refine List.mem_append_left _ ?_; with_reducible assumption)))))) rfl (by simp) fun y hy => ?_
    obtain ⟨t0, rfl⟩ := scS hy
    with_reducible refine cS fun _ _ => ?_
    refine eq_str (wpAny_truthy_bool ?_)
    rw [show isEqR [.s w0, .i i0, .i j0, .i k0, .i l0] = (w0 == "equal") from rfl] at hfs
    by_cases c : (w0 == ("equal" : Str)) = true
    · rw [if_pos c] at hfs
      rw [if_pos c]
      refine St.ld (by assumption) (by with_reducible exact Mine.at0) ?_
      refine hQ _ _ _ _ _ ⟨⟨_, rfl⟩, rfl, ?_⟩ (by assumption)
      rw [hfs]
      exact hac.append (.cons hra .nil)
    · rw [if_neg c, List.append_nil] at hfs
      rw [if_neg c]
      exact hN _ _ _ _ ⟨⟨_, rfl⟩, rfl, by rw [hfs]; exact hac⟩ (by assumption)
  rintro D al' acc n' h tk ⟨_, rfl, hac⟩ S
  rw [List.take_length] at hac
  with_reducible refine List_ ?_
  with_reducible refine spN ?_
  refine newLstS (vs := []) (by assumption) fun el h' S => ?_
  refine eqNil (vs := acc) (us := []) (rs := C.filter isEqR) (by assumption) (by (with_reducible refine List.mem_append_right _ ?_; (with_reducible refine List.mem_append_left _ ?_; (with_reducible refine List.mem_cons_of_mem _ ?_; with_reducible exact List.mem_cons_self)))) (hac.mono fun p hp => by (with_reducible refine List.mem_append_right _ ?_; (with_reducible refine List.mem_append_left _ ?_; (with_reducible refine List.mem_cons_of_mem _ ?_; (with_reducible refine List.mem_cons_of_mem _ ?_; (with_reducible refine List.mem_append_right _ ?_; with_reducible assumption)))))) (by (with_reducible refine List.mem_append_right _ ?_; (with_reducible refine List.mem_append_left _ ?_; with_reducible exact List.mem_cons_self))) (filt_ok hall) hu (wpAny_truthy_bool ?_)
  have S := St.thinN S (n' := N) (.cons _ (.cons _ (.refl _)))
  refine ifD (fun hnil => ?_) fun hnil => ?_
  · have hl := hks.left (one := one) (two := two) (by rw [← hC]; exact hnil) hd
    with_reducible refine appC ?_
    with_reducible refine xRet ?_
    refine BoolOp_and (wpAny_Compare1 ?_)
    refine eCallB (by assumption) (by assumption) (by with_reducible exact Mine.at7) ?_
    refine spC ?_
    refine St.ld (by assumption) (by with_reducible exact Mine.at4) ?_
    with_reducible refine spN ?_
    refine sortI (xs := miss) (by assumption) (by (with_reducible refine List.mem_append_right _ ?_; (with_reducible refine List.mem_append_right _ ?_; with_reducible assumption))) (by lia  ) fun b1 s1 h' p1 q1 S => ?_
    refine eCallB (by assumption) (by assumption) (by with_reducible exact Mine.at7) ?_
    refine spC ?_
    refine St.ld (by assumption) (by with_reducible exact Mine.at6) ?_
    with_reducible refine spN ?_
    refine sortI (xs := xs) (by assumption) (by (with_reducible refine List.mem_append_right _ ?_; (with_reducible refine List.mem_append_right _ ?_; with_reducible assumption))) (by lia  ) fun b2 s2 h' p2 q2 S => ?_
    refine eqInts (xs := s1) (ys := s2) (by assumption) (by (with_reducible refine List.mem_append_right _ ?_; (with_reducible refine List.mem_append_left _ ?_; (with_reducible refine List.mem_cons_of_mem _ ?_; with_reducible exact List.mem_cons_self)))) (by (with_reducible refine List.mem_append_right _ ?_; (with_reducible refine List.mem_append_left _ ?_; with_reducible exact List.mem_cons_self))) hu (sorted_uniq p1 p2 q1 q2 fun z => by rw [c1, (hl z).1]) (wpAny_truthy_bool (ifT ?_))
    have S := St.thinN S (n' := N) (.cons _ (.cons _ (.refl _)))
    refine BoolOp_one (wpAny_Compare1 ?_)
    refine eCallB (by assumption) (by assumption) (by with_reducible exact Mine.at7) ?_
    refine spC ?_
    refine St.ld (by assumption) (by with_reducible exact Mine.at5) ?_
    with_reducible refine spN ?_
    refine sortI (xs := bey) (by assumption) (by (with_reducible refine List.mem_append_right _ ?_; (with_reducible refine List.mem_append_right _ ?_; with_reducible assumption))) (by lia  ) fun b1 s1 h' p1 q1 S => ?_
    refine eCallB (by assumption) (by assumption) (by with_reducible exact Mine.at7) ?_
    refine spC ?_
    refine St.ld (by assumption) (by with_reducible exact Mine.at7) ?_
    with_reducible refine spN ?_
    refine sortI (xs := ys) (by assumption) (by (with_reducible refine List.mem_append_right _ ?_; (with_reducible refine List.mem_append_right _ ?_; with_reducible assumption))) (by lia  ) fun b2 s2 h' p2 q2 S => ?_
    refine eqInts (xs := s1) (ys := s2) (by assumption) (by (with_reducible refine List.mem_append_right _ ?_; (with_reducible refine List.mem_append_left _ ?_; (with_reducible refine List.mem_cons_of_mem _ ?_; with_reducible exact List.mem_cons_self)))) (by (with_reducible refine List.mem_append_right _ ?_; (with_reducible refine List.mem_append_left _ ?_; with_reducible exact List.mem_cons_self))) hu (sorted_uniq p1 p2 q1 q2 fun z => by rw [c2, (hl z).2]) ?_
    exact hR _ _ (hq _ _ (St.kb (by assumption) B2))
  · have hsh := hks.shrink (by rw [← hC]; exact hnil)
    have hcl2 := hks.comeLe
    have hdf := hks.diff
    rw [← hC] at hsh hcl2 hdf
    with_reducible refine appN ?_
    refine xSwap ["gone", "come"] henv ?_
    refine spC ?_
    with_reducible refine List_ ?_
    with_reducible refine spN ?_
    refine newLstI (xs := []) (by assumption) .nil fun g0 h' S => ?_
    refine spC ?_
    with_reducible refine List_ ?_
    with_reducible refine spN ?_
    refine newLstI (xs := []) (by assumption) .nil fun g1 h' S => ?_
    with_reducible refine spN ?_
    refine newTupUnpack (by assumption) (by assumption) rfl fun _ _ => ?_
    refine asgN ?_
    refine St.st (by assumption) (by with_reducible exact Mine.put11) fun _ _ _ => ?_
    refine asgN ?_
    refine St.st (by assumption) (by with_reducible exact Mine.put10) fun _ _ _ => ?_
    refine assignInOrder_nil ?_
    refine xFor ?_
    refine St.ld (by assumption) (by with_reducible exact Mine.at8) ?_
    refine iter_list (by assumption) (St.isLV (vs := cvs) (by assumption) (by (with_reducible refine List.mem_append_right _ ?_; (with_reducible refine List.mem_append_left _ ?_; (with_reducible refine List.mem_cons_of_mem _ ?_; (with_reducible refine List.mem_cons_of_mem _ ?_; with_reducible assumption)))))) fun it h' S => ?_
    refine forTup (len := C.length) (K13f (alLaw sv dv (some (.ref ao)) (some (.ref at2)) (some (.ref mi)) (some (.ref be)) (some (.ref lf)) (some (.ref rt)) (some (.ref cr)) (some (.ref r4))) N xs ys C)
      (RowVal (.type "tuple") N C) (fun i x ⟨a, _, _, e, _⟩ => ⟨a, e⟩) hh S ⟨g0, g1, _, _, _, _, _, rfl, rfl, fun p hp => by (with_reducible refine List.mem_cons_of_mem _ ?_; (with_reducible refine List.mem_cons_of_mem _ ?_; with_reducible assumption)), (show (g0, IntsP []) ∈ _ by (with_reducible refine List.mem_cons_of_mem _ ?_; with_reducible exact List.mem_cons_self)), (show (g1, IntsP []) ∈ _ by (with_reducible exact List.mem_cons_self))⟩ ?_ ?_ ?_
    · rintro q al m n' h p0 ⟨ga, ca, u13, u14, u15, u16, u17, rfl, rfl, hs, hga, hca⟩ S
      exact ⟨cvs, S.isList (List.mem_append_right _ (List.mem_append_left _ (hs _ hN1))), hcl, fun x hx => row_val hN2 hx⟩
    · rintro q al m n' h tk p0 E2 v Q2 hq2 ⟨a, r, hr, rfl, hra⟩ ⟨ga, ca, u13, u14, u15, u16, u17, rfl, rfl, hs, hga, hca⟩ hN3 hB3 hR3 S
      obtain ⟨w0, i0, j0, k0, l0, rfl, hw0, x1, x2, x3, x4, x5, x6⟩ := hok r (List.mem_of_getElem? hr)
      have gs := gone_snoc (xs := xs) hr
      have cs := come_snoc (xs := ys) hr
      have gl := gone_le xs C q
      have cl := come_le ys C q
      have hra := hs _ hra
      refine unpackRow (r := [.s w0, .i i0, .i j0, .i k0, .i l0]) (by assumption) (by (with_reducible refine List.mem_append_right _ ?_; (with_reducible refine List.mem_append_left _ ?_; with_reducible assumption))) hh rfl rfl fun vs h' hv S => ?_
      obtain ⟨t0, t1, t2, t3, t4, rfl⟩ := sc5 hv
      refine assignInOrder_cons (assign_Name ?_)
      refine St.st (by assumption) (by with_reducible exact Mine.put12) fun _ _ _ => ?_
      refine assignInOrder_cons (assign_Name ?_)
      refine St.st (by assumption) (by with_reducible exact Mine.put13) fun _ _ _ => ?_
      refine assignInOrder_cons (assign_Name ?_)
      refine St.st (by assumption) (by with_reducible exact Mine.put14) fun _ _ _ => ?_
      refine assignInOrder_cons (assign_Name ?_)
      refine St.st (by assumption) (by with_reducible exact Mine.put15) fun _ _ _ => ?_
      refine assignInOrder_cons (assign_Name ?_)
      refine St.st (by assumption) (by with_reducible exact Mine.put16) fun _ _ _ => ?_
      refine assignInOrder_nil ?_
      refine xIf ?_
      refine wpAny_isTrue_Compare1 ?_
      refine St.ld (by assumption) (by with_reducible exact Mine.at12) ?_
      with_reducible refine cS fun _ _ => ?_
      refine ne_str (wpAny_truthy_bool ?_)
      by_cases c : w0 = "equal"
      · rw [if_neg (by simp [c])]
        with_reducible refine appN ?_
        rw [if_pos c, List.append_nil] at gs cs
        exact xEnd (hN3 _ _ _ _ _ ⟨ga, ca, _, _, _, _, _, rfl, rfl, hs, by rw [gs]; exact hga, by rw [cs]; exact hca⟩ (by assumption)).1
      · rw [if_pos (by simpa using c)]
        rw [if_neg c] at gs cs
        have sl1 := seg_len xs i0 j0 (by lia  ) (by lia  ) (by lia  )
        have sl2 := seg_len ys k0 l0 (by lia  ) (by lia  ) (by lia  )
        with_reducible refine appC ?_
        refine xAssign ?_
        with_reducible refine wpAny_BinOp ?_
        refine St.ld (by assumption) (by with_reducible exact Mine.at10) ?_
        with_reducible refine Subscript_ ?_
        refine St.ld (by assumption) (by with_reducible exact Mine.at6) ?_
        refine sliceE (partS ?_)
        refine St.ld (by assumption) (by with_reducible exact Mine.at13) ?_
        refine partS ?_
        refine St.ld (by assumption) (by with_reducible exact Mine.at14) ?_
        refine partN ?_
        refine SlQ.of (by assumption) fun z1 h' S => ?_
        refine slcI (xs := xs) S ⟨IntsP xs, by (with_reducible refine List.mem_append_right _ ?_; (with_reducible refine List.mem_append_right _ ?_; with_reducible assumption)), fun _ o => o.q⟩ (by (with_reducible refine List.mem_append_right _ ?_; (with_reducible refine List.mem_append_left _ ?_; with_reducible exact List.mem_cons_self))) (.int _ _) (.int _ _) .none (by simp) (by lia  ) fun z2 h' S => ?_
        rw [show pickNums xs (some i0) (some j0) none = seg xs i0 j0 from pick_ij xs i0 j0 (by lia  ) (by lia  ) (by lia  ) (by lia  )] at S
        refine addLI (xs := gone xs (C.take q)) (ys := seg xs i0 j0) (by assumption) (by (with_reducible refine List.mem_append_right _ ?_; (with_reducible refine List.mem_append_left _ ?_; (with_reducible refine List.mem_cons_of_mem _ ?_; (with_reducible refine List.mem_cons_of_mem _ ?_; with_reducible assumption))))) (by (with_reducible refine List.mem_append_right _ ?_; (with_reducible refine List.mem_append_left _ ?_; with_reducible exact List.mem_cons_self))) (by lia  ) fun z3 h' S => ?_
        refine St.st (by assumption) (by with_reducible exact Mine.put10) fun _ _ _ => ?_
        with_reducible refine appC ?_
        refine xAssign ?_
        with_reducible refine wpAny_BinOp ?_
        refine St.ld (by assumption) (by with_reducible exact Mine.at11) ?_
        with_reducible refine Subscript_ ?_
        refine St.ld (by assumption) (by with_reducible exact Mine.at7) ?_
        refine sliceE (partS ?_)
        refine St.ld (by assumption) (by with_reducible exact Mine.at15) ?_
        refine partS ?_
        refine St.ld (by assumption) (by with_reducible exact Mine.at16) ?_
        refine partN ?_
        refine SlQ.of (by assumption) fun z4 h' S => ?_
        refine slcI (xs := ys) S ⟨IntsP ys, by (with_reducible refine List.mem_append_right _ ?_; (with_reducible refine List.mem_append_right _ ?_; with_reducible assumption)), fun _ o => o.q⟩ (by (with_reducible refine List.mem_append_right _ ?_; (with_reducible refine List.mem_append_left _ ?_; with_reducible exact List.mem_cons_self))) (.int _ _) (.int _ _) .none (by simp) (by lia  ) fun z5 h' S => ?_
        rw [show pickNums ys (some k0) (some l0) none = seg ys k0 l0 from pick_ij ys k0 l0 (by lia  ) (by lia  ) (by lia  ) (by lia  )] at S
        refine addLI (xs := come ys (C.take q)) (ys := seg ys k0 l0) (by assumption) (by (with_reducible refine List.mem_append_right _ ?_; (with_reducible refine List.mem_append_left _ ?_; (with_reducible refine List.mem_cons_of_mem _ ?_; (with_reducible refine List.mem_cons_of_mem _ ?_; (with_reducible refine List.mem_cons_of_mem _ ?_; (with_reducible refine List.mem_cons_of_mem _ ?_; (with_reducible refine List.mem_cons_of_mem _ ?_; with_reducible assumption)))))))) (by (with_reducible refine List.mem_append_right _ ?_; (with_reducible refine List.mem_append_left _ ?_; with_reducible exact List.mem_cons_self))) (by lia  ) fun z6 h' S => ?_
        rw [← gs, ← cs] at *
        refine St.st (by assumption) (by with_reducible exact Mine.put11) fun _ _ _ => ?_
        with_reducible refine appN ?_
        rename_i S1
        exact xEnd (hN3 _ _ _ _ _ ⟨z3, z6, _, _, _, _, _, rfl, rfl, fun p hp => by have := hs p hp; (with_reducible refine List.mem_cons_of_mem _ ?_; (with_reducible refine List.mem_cons_of_mem _ ?_; (with_reducible refine List.mem_cons_of_mem _ ?_; (with_reducible refine List.mem_cons_of_mem _ ?_; (with_reducible refine List.mem_cons_of_mem _ ?_; (with_reducible refine List.mem_cons_of_mem _ ?_; with_reducible assumption)))))), by (with_reducible refine List.mem_cons_of_mem _ ?_; (with_reducible refine List.mem_cons_of_mem _ ?_; (with_reducible refine List.mem_cons_of_mem _ ?_; with_reducible exact List.mem_cons_self))), by (with_reducible exact List.mem_cons_self)⟩ S1).1
    · rintro al m n' h tk ⟨ga, ca, u13, u14, u15, u16, u17, rfl, rfl, hs, hga, hca⟩ S
      rw [List.take_length] at hga hca
      skip
      refine xSwap ["left", "right"] henv ?_
      refine spC ?_
      refine St.ld (by assumption) (by with_reducible exact Mine.at10) ?_
      refine spC ?_
      refine St.ld (by assumption) (by with_reducible exact Mine.at11) ?_
      with_reducible refine spN ?_
      refine newTupUnpack (by assumption) (by assumption) rfl fun _ _ => ?_
      refine asgN ?_
      refine St.st (by assumption) (by with_reducible exact Mine.put7) fun _ _ _ => ?_
      refine asgN ?_
      refine St.st (by assumption) (by with_reducible exact Mine.put6) fun _ _ _ => ?_
      refine assignInOrder_nil ?_
      rename_i S1
      exact xEnd (hN (gone xs C).length _ _ _ _ hsh ⟨ga, ca, gone xs C, come ys C, _, _, _, _, _, _, _, _, _, rfl, rfl, by (with_reducible refine List.mem_append_left _ ?_; with_reducible assumption), by (with_reducible refine List.mem_append_left _ ?_; with_reducible assumption), by lia  , by lia  , fun z => by rw [hdf z]; exact hd z, rfl⟩ S1)

end Mine
end
section
open PySem PySem.W PyProof.Rows PySem.Calls
set_option autoImplicit false
namespace Mine
theorem unordF_len : ∀ (r ys ms : List Int), (unordF r ys ms).1.length ≤ ms.length + r.length ∧ (unordF r ys ms).2.length ≤ ys.length
  | [], ys, ms => by simp [unordF]
  | x :: r, ys, ms => by
    unfold unordF
    split
    · have := unordF_len r (ys.erase x) ms
      have := List.length_erase_le (a := x) (l := ys)
      simp only [List.length_cons]
      lia  
    · have := unordF_len r ys (ms ++ [x])
      simp only [List.length_cons, List.length_append, List.length_nil] at this ⊢
      lia  
inductive K12a (i : Nat) (al' : AL) (acc : List Value) (n' : LT) : Prop
  | mk (h : ∃ v, al' = alX v) (e : n' = []) (ms : List Int) (h1 : IntsAre acc ms) (h2 : ms.length = i)
theorem law_walk {w : World} {h₁ h : Heap} {A : Around} {a kc : Addr} {ns : List Int} {L : LT} {env : Env} {Q : Flow → Shared → Prop} {E : Value → Shared → Prop} {g : Array GenState} {d : Drawn} {tk : Nat} {os : OsState} {sco : Obj}
    (B : Bs (K w.params) h₁ L) (hns : ns.length ≤ 63) (hsc : h₁.get? a = some sco) (hsI : IntsQ ns sco) (RM : Rm A 150) (hcl : { env with cells := [("kinds", kc)] } = env) (hA : A.frames = some [env]) (hfr : env.frame = some env.locals)
    (hq : ∀ h tk, (∀ b o, h₁.get? b = some o → h.get? b = some o) → Q (.ret (.bool true)) ⟨h, g, d, tk, os⟩) :
    { env with scope := scopeOf (K w.params) 403 } = env → St (K w.params) L env glLaw (alLaw (some (.ref a)) none none none none none none none none none none none none none none none none) [(kc, CellP none)] [] h →
      wpAny (model PySem.Challenge.pw_il0152_01 w) A (execs (bodyOf (K w.params) 403) env) Q E ⟨h, g, d, tk, os⟩ := by
  refine lawEnter (f := 403) (name := _) (qual := _) (params := _) (body := _) (scope := _) (dV := _) (kV := _) (doc := _) (pm := _) (cdv := _) (ct := _) (oc := _) (an := _) (od := _) (osl := _)
    (R := fun body scope => { env with scope := scope } = env → St (K w.params) L env glLaw (alLaw (some (.ref a)) none none none none none none none none none none none none none none none none) [(kc, CellP none)] [] h →
      wpAny (model PySem.Challenge.pw_il0152_01 w) A (execs body env) Q E ⟨h, g, d, tk, os⟩) rfl ?_
  intro henv S
  have hh := RM.hh
  have hck : env.cells.lookup ("kinds" : Str) = some kc := by rw [← hcl]; exact lookup_self _ _
  have hkk : env.kindOf "kinds" = some .cell := by rw [← henv]; dsimp only [Env.kindOf]; decide +kernel
  refine xAssign ?_
  with_reducible refine Subscript_ ?_
  refine St.ld (by assumption) (by with_reducible exact Mine.at0) ?_
  refine sliceE (partN (partS ?_))
  with_reducible refine cI fun _ _ => ?_
  refine partN ?_
  refine SlQ.of S fun r0 h' S => ?_
  refine slcI (xs := ns) S ⟨_, List.mem_append_right _ (List.mem_append_right _ (B.base a sco hsc)), fun o e => by cases e; exact hsI⟩ (by (with_reducible refine List.mem_append_right _ ?_; (with_reducible refine List.mem_append_left _ ?_; with_reducible exact List.mem_cons_self))) .none (.int _ _) .none (by simp) (by lia  ) fun dr h' S => ?_
  have hdl := pick_10 ns
  generalize pickNums ns none (some 10) none = drs at S hdl
  refine St.st (by assumption) (by with_reducible exact Mine.put1) fun _ _ _ => ?_
  refine xAssign ?_
  with_reducible refine wpAny_BinOp ?_
  with_reducible refine cI fun _ _ => ?_
  with_reducible refine wpAny_BinOp ?_
  with_reducible refine wpAny_BinOp ?_
  with_reducible refine cI fun _ _ => ?_
  refine eCallB (by assumption) (by assumption) (by with_reducible exact Mine.at0) ?_
  refine spC ?_
  refine evComp [] (by rfl) rfl (by decide +kernel) ?_
  refine St.ld (by assumption) (by with_reducible exact Mine.at1) ?_
  refine iter_list (by assumption) (St.isL (xs := drs) (by assumption) (by (with_reducible refine List.mem_append_right _ ?_; (with_reducible refine List.mem_append_left _ ?_; with_reducible exact List.mem_cons_self)))) fun it h' S => ?_
  refine blkEval (len := drs.length) (sc' := { kind := .function, names := [(".0", .local), ("x", .local)], isGenerator := false, isCoroutine := false }) (alX none) K12a (fun _ x => ∃ y t, x = .int y t) (.inl ⟨_, _, rfl⟩) (.inl ⟨_, _, rfl⟩)
    S hh (by lia  ) ⟨IntsP drs, by (with_reducible refine List.mem_append_right _ ?_; (with_reducible refine List.mem_append_left _ ?_; with_reducible exact List.mem_cons_self)), fun o ho => ints_vals ho⟩ (by rw [← henv]; rfl) (by decide +kernel) rfl (by decide +kernel) (by decide +kernel) (by simp) ⟨⟨_, rfl⟩, rfl, [], .nil, rfl⟩ ?_ (fun i al' acc n' ⟨_, _, ms, h1, h2⟩ => by rw [h1.length, h2]; exact Nat.le_refl _) ?_
  · rintro cenv i al' D acc n' h tk p E x Q' N' hsc hcl2 hi ⟨y, t, rfl⟩ ⟨⟨v0, rfl⟩, rfl, ms, hms, hml⟩ hQ hN S
    with_reducible refine assign_Name ?_
    refine St.st (by assumption) (by with_reducible exact Mine.put0) fun _ _ _ => ?_
    refine wpAny_tests_nil (ifT ?_)
    with_reducible refine wpAny_BinOp ?_
    refine St.ld (by assumption) (by with_reducible exact Mine.at0) ?_
    with_reducible refine cI fun _ _ => ?_
    refine modI (by decide) fun t2 tk2 => ?_
    exact hQ _ _ _ _ _ ⟨⟨_, rfl⟩, rfl, ms ++ [_], IntsAre.snoc hms, by simp [hml]⟩ (by assumption)
  rintro D al' acc n' h tk ⟨_, rfl, ms, hms, hml⟩ S
  have S := S.weakN (P' := IntsP ms) fun o ho => ⟨_, hms, ho⟩
  have S := St.thinN S (n' := [(D, IntsP ms), (dr, IntsP drs)]) (.cons_cons _ (.cons_cons _ (.cons _ .slnil)))
  with_reducible refine spN ?_
  refine sumAny (xs := ms) (by assumption) hh (by (with_reducible refine List.mem_append_right _ ?_; (with_reducible refine List.mem_append_left _ ?_; with_reducible exact List.mem_cons_self))) fun y t h' tk' S => ?_
  with_reducible refine addI fun _ _ => ?_
  with_reducible refine cI fun _ _ => ?_
  refine modI (by decide) fun t2 tk2 => ?_
  refine addI fun t3 tk3 => ?_
  refine St.stc (c := kc) (v₀ := none) (by assumption) hkk hck (by (with_reducible exact List.mem_cons_self)) .head fun h' S => ?_
  have hk0 : 2 + (2 + y).fmod 4 ≠ 0 := by
    have := Int.fmod_nonneg_of_pos (2 + y) (show (0 : Int) < 4 by decide)
    lia  
  generalize 2 + (2 + y).fmod 4 = kd at S hk0
  have S := St.thinN S (n' := [(dr, IntsP drs)]) (.cons _ (.cons_cons _ .slnil))
  refine xAsgComp [("kinds", kc)] (closure_one rfl hck) rfl (by decide +kernel) ?_ (by rw [← henv]; rfl)
  with_reducible refine wpAny_BinOp ?_
  with_reducible refine Subscript_ ?_
  refine St.ld (by assumption) (by with_reducible exact Mine.at1) ?_
  refine sliceE (partS ?_)
  with_reducible refine cI fun _ _ => ?_
  refine partN (partS ?_)
  with_reducible refine cI fun _ _ => ?_
  refine SlQ.of (by assumption) fun r1 h' S => ?_
  refine slcI (xs := drs) S ⟨IntsP drs, by (with_reducible refine List.mem_append_right _ ?_; (with_reducible refine List.mem_append_left _ ?_; (with_reducible refine List.mem_cons_of_mem _ ?_; with_reducible exact List.mem_cons_self))), fun _ o => o.q⟩ (by (with_reducible refine List.mem_append_right _ ?_; (with_reducible refine List.mem_append_left _ ?_; with_reducible exact List.mem_cons_self))) (.int _ _) .none (.int _ _) (by simp) (by lia  ) fun sl h' S => ?_
  have hsl := pick_le drs (some 0) none (some 2)
  generalize pickNums drs (some 0) none (some 2) = sls at S hsl
  with_reducible refine List_ ?_
  refine spC ?_
  with_reducible refine cI fun _ _ => ?_
  refine spC ?_
  with_reducible refine cI fun _ _ => ?_
  refine spC ?_
  with_reducible refine cI fun _ _ => ?_
  refine spC ?_
  with_reducible refine cI fun _ _ => ?_
  with_reducible refine spN ?_
  refine newLstI (xs := [2, 0, 1, 1]) (by assumption) (.cons _ _ (.cons _ _ (.cons _ _ (.cons _ _ .nil)))) fun lt h' S => ?_
  skip
  refine addLI (xs := sls) (ys := [2, 0, 1, 1]) (by assumption) (by (with_reducible refine List.mem_append_right _ ?_; (with_reducible refine List.mem_append_left _ ?_; (with_reducible refine List.mem_cons_of_mem _ ?_; with_reducible exact List.mem_cons_self)))) (by (with_reducible refine List.mem_append_right _ ?_; (with_reducible refine List.mem_append_left _ ?_; with_reducible exact List.mem_cons_self))) (by simp; lia  ) fun sm h' S => ?_
  have hlen : (sls ++ [2, 0, 1, 1]).length ≤ 14 := by simp; lia  
  generalize sls ++ [2, 0, 1, 1] = srcs at S hlen
  refine iter_list (by assumption) (St.isL (xs := srcs) (by assumption) (by (with_reducible refine List.mem_append_right _ ?_; (with_reducible refine List.mem_append_left _ ?_; with_reducible exact List.mem_cons_self)))) fun it h' S => ?_
  refine blkAsg (len := srcs.length) (sc' := { kind := .function, names := [(".0", .local), ("x", .local), ("kinds", .cell)], isGenerator := false, isCoroutine := false }) (al2 := fun v => alLaw (some (.ref a)) (some (.ref dr)) (some v) none none none none none none none none none none none none none none) (alX none) K12a (fun _ x => ∃ y t, x = .int y t) (.inl ⟨_, _, rfl⟩) (.inl ⟨_, _, rfl⟩)
    S (fun v => by (with_reducible exact Mine.put2)) hh (by lia  ) ⟨IntsP srcs, by (with_reducible refine List.mem_append_right _ ?_; (with_reducible refine List.mem_append_left _ ?_; with_reducible exact List.mem_cons_self)), fun o ho => ints_vals ho⟩ (relabel_one rfl S.env.fn hkk) (by decide +kernel) rfl (by decide +kernel) (by decide +kernel) (by simp) ⟨⟨_, rfl⟩, rfl, [], .nil, rfl⟩ ?_ (fun i al' acc n' ⟨_, _, ms, h1, h2⟩ => by rw [h1.length, h2]; exact Nat.le_refl _) ?_
  · rintro cenv i al' D acc n' h tk p E x Q' N' hsc hcl2 hi ⟨y, t, rfl⟩ ⟨⟨v0, rfl⟩, rfl, ms, hms, hml⟩ hQ hN S
    with_reducible refine assign_Name ?_
    refine St.st (by assumption) (by with_reducible exact Mine.put0) fun _ _ _ => ?_
    refine wpAny_tests_nil (ifT ?_)
    refine wpAny_BinOp ?_
    refine St.ld (by assumption) (by with_reducible exact Mine.at0) ?_
    refine St.ldc (c := kc) (v := .int kd t3) (by assumption) (by rw [← hsc]; dsimp only [Env.kindOf]; decide +kernel) (by rw [hcl2]; exact lookup_self _ _) (by (with_reducible refine List.mem_append_right _ ?_; (with_reducible refine List.mem_append_right _ ?_; (with_reducible refine List.mem_cons_of_mem _ ?_; (with_reducible refine List.mem_append_left _ ?_; with_reducible exact List.mem_cons_self))))) ?_
    refine modI hk0 fun t2 tk2 => ?_
    exact hQ _ _ _ _ _ ⟨⟨_, rfl⟩, rfl, ms ++ [_], IntsAre.snoc hms, by simp [hml]⟩ (by assumption)
  rintro ao al' acc n' h tk ⟨_, rfl, xs, hms, xsl⟩ S
  have S := S.weakN (P' := IntsP xs) fun o ho => ⟨_, hms, ho⟩
  have xsL : xs.length ≤ 14 := by lia  
  have S := St.thinN S (n' := [(ao, IntsP xs), (dr, IntsP drs)]) (.cons_cons _ (.cons _ (.cons _ (.cons _ (.cons _ (.cons_cons _ .slnil))))))
  refine xAsgComp [("kinds", kc)] (closure_one rfl hck) rfl (by decide +kernel) ?_ (by rw [← henv]; rfl)
  with_reducible refine wpAny_BinOp ?_
  with_reducible refine Subscript_ ?_
  refine St.ld (by assumption) (by with_reducible exact Mine.at1) ?_
  refine sliceE (partS ?_)
  with_reducible refine cI fun _ _ => ?_
  refine partN (partS ?_)
  with_reducible refine cI fun _ _ => ?_
  refine SlQ.of (by assumption) fun r1 h' S => ?_
  refine slcI (xs := drs) S ⟨IntsP drs, by (with_reducible refine List.mem_append_right _ ?_; (with_reducible refine List.mem_append_left _ ?_; (with_reducible refine List.mem_cons_of_mem _ ?_; (with_reducible refine List.mem_cons_of_mem _ ?_; with_reducible exact List.mem_cons_self)))), fun _ o => o.q⟩ (by (with_reducible refine List.mem_append_right _ ?_; (with_reducible refine List.mem_append_left _ ?_; with_reducible exact List.mem_cons_self))) (.int _ _) .none (.int _ _) (by simp) (by lia  ) fun sl h' S => ?_
  have hsl := pick_le drs (some 1) none (some 2)
  generalize pickNums drs (some 1) none (some 2) = sls at S hsl
  with_reducible refine List_ ?_
  refine spC ?_
  with_reducible refine cI fun _ _ => ?_
  refine spC ?_
  with_reducible refine cI fun _ _ => ?_
  refine spC ?_
  with_reducible refine cI fun _ _ => ?_
  refine spC ?_
  with_reducible refine cI fun _ _ => ?_
  with_reducible refine spN ?_
  refine newLstI (xs := [0, 3, 1, 2]) (by assumption) (.cons _ _ (.cons _ _ (.cons _ _ (.cons _ _ .nil)))) fun lt h' S => ?_
  skip
  refine addLI (xs := sls) (ys := [0, 3, 1, 2]) (by assumption) (by (with_reducible refine List.mem_append_right _ ?_; (with_reducible refine List.mem_append_left _ ?_; (with_reducible refine List.mem_cons_of_mem _ ?_; with_reducible exact List.mem_cons_self)))) (by (with_reducible refine List.mem_append_right _ ?_; (with_reducible refine List.mem_append_left _ ?_; with_reducible exact List.mem_cons_self))) (by simp; lia  ) fun sm h' S => ?_
  have hlen : (sls ++ [0, 3, 1, 2]).length ≤ 14 := by simp; lia  
  generalize sls ++ [0, 3, 1, 2] = srcs at S hlen
  refine iter_list (by assumption) (St.isL (xs := srcs) (by assumption) (by (with_reducible refine List.mem_append_right _ ?_; (with_reducible refine List.mem_append_left _ ?_; with_reducible exact List.mem_cons_self)))) fun it h' S => ?_
  refine blkAsg (len := srcs.length) (sc' := { kind := .function, names := [(".0", .local), ("x", .local), ("kinds", .cell)], isGenerator := false, isCoroutine := false }) (al2 := fun v => alLaw (some (.ref a)) (some (.ref dr)) (some (.ref ao)) (some v) none none none none none none none none none none none none none) (alX none) K12a (fun _ x => ∃ y t, x = .int y t) (.inl ⟨_, _, rfl⟩) (.inl ⟨_, _, rfl⟩)
    S (fun v => by (with_reducible exact Mine.put3)) hh (by lia  ) ⟨IntsP srcs, by (with_reducible refine List.mem_append_right _ ?_; (with_reducible refine List.mem_append_left _ ?_; with_reducible exact List.mem_cons_self)), fun o ho => ints_vals ho⟩ (relabel_one rfl S.env.fn hkk) (by decide +kernel) rfl (by decide +kernel) (by decide +kernel) (by simp) ⟨⟨_, rfl⟩, rfl, [], .nil, rfl⟩ ?_ (fun i al' acc n' ⟨_, _, ms, h1, h2⟩ => by rw [h1.length, h2]; exact Nat.le_refl _) ?_
  · rintro cenv i al' D acc n' h tk p E x Q' N' hsc hcl2 hi ⟨y, t, rfl⟩ ⟨⟨v0, rfl⟩, rfl, ms, hms, hml⟩ hQ hN S
    with_reducible refine assign_Name ?_
    refine St.st (by assumption) (by with_reducible exact Mine.put0) fun _ _ _ => ?_
    refine wpAny_tests_nil (ifT ?_)
    refine wpAny_BinOp ?_
    refine St.ld (by assumption) (by with_reducible exact Mine.at0) ?_
    refine St.ldc (c := kc) (v := .int kd t3) (by assumption) (by rw [← hsc]; dsimp only [Env.kindOf]; decide +kernel) (by rw [hcl2]; exact lookup_self _ _) (by (with_reducible refine List.mem_append_right _ ?_; (with_reducible refine List.mem_append_right _ ?_; (with_reducible refine List.mem_cons_of_mem _ ?_; (with_reducible refine List.mem_append_left _ ?_; with_reducible exact List.mem_cons_self))))) ?_
    refine modI hk0 fun t2 tk2 => ?_
    exact hQ _ _ _ _ _ ⟨⟨_, rfl⟩, rfl, ms ++ [_], IntsAre.snoc hms, by simp [hml]⟩ (by assumption)
  rintro at2 al' acc n' h tk ⟨_, rfl, ys, hms, ysl⟩ S
  have S := S.weakN (P' := IntsP ys) fun o ho => ⟨_, hms, ho⟩
  have ysL : ys.length ≤ 14 := by lia  
  have S := St.thinN S (n' := [(at2, IntsP ys), (ao, IntsP xs)]) (.cons_cons _ (.cons _ (.cons _ (.cons _ (.cons _ (.cons_cons _ (.cons _ .slnil)))))))
  refine xUnpack ?_
  refine eCallK (by assumption) (by assumption) (by with_reducible exact Mine.at1) (by rfl) ?_
  refine spC ?_
  refine eCallT (by assumption) (by assumption) (by with_reducible exact Mine.at2) ?_
  refine spC ?_
  refine St.ld (by assumption) (by with_reducible exact Mine.at2) ?_
  with_reducible refine spN ?_
  refine copyI (xs := xs) (by assumption) (by (with_reducible refine List.mem_append_right _ ?_; (with_reducible refine List.mem_append_left _ ?_; (with_reducible refine List.mem_cons_of_mem _ ?_; with_reducible exact List.mem_cons_self)))) (by lia  ) fun q1 h' S => ?_
  have S := S.promote
  refine spC ?_
  refine eCallT (by assumption) (by assumption) (by with_reducible exact Mine.at2) ?_
  refine spC ?_
  refine St.ld (by assumption) (by with_reducible exact Mine.at3) ?_
  with_reducible refine spN ?_
  refine copyI (xs := ys) (by assumption) (by (with_reducible refine List.mem_append_right _ ?_; (with_reducible refine List.mem_append_left _ ?_; with_reducible exact List.mem_cons_self))) (by lia  ) fun q2 h' S => ?_
  have S := S.promote
  have S := S.permM (m' := [(q1, IntsP xs), (q2, IntsP ys), (kc, CellP (some (.int kd t3)))]) (.swap ..)
  with_reducible refine spN ?_
  refine ⟨kIn (by assumption) B, ?_⟩
  refine St.callM (mm := [(q1, IntsP xs), (q2, IntsP ys)]) (m := [(kc, CellP (some (.int kd t3)))]) (by assumption) (unord_does (one := xs) (two := ys) w.params (B.mono fun p hp => by (with_reducible refine List.mem_cons_of_mem _ ?_; (with_reducible refine List.mem_append_right _ ?_; (with_reducible refine List.mem_append_right _ ?_; with_reducible assumption)))) (by lia  ) (by lia  )) (RM.le (by lia  )) ⟨_, hA, fun e' he' => ?_⟩ ?_
  · obtain rfl := List.mem_singleton.mp he'
    exact ⟨by rw [S.env.fn]; decide, _, _, hfr, .head _⟩
  rintro h' mm1 n1 v tk1 ⟨r, e, mi, rfl, rfl, hr⟩ S
  refine unpackTup (by assumption) (vs := [.ref mi, .ref q2]) (by (with_reducible refine List.mem_append_right _ ?_; (with_reducible refine List.mem_append_left _ ?_; (with_reducible refine List.mem_append_left _ ?_; with_reducible assumption)))) hh rfl rfl fun h' S => ?_
  refine assignInOrder_cons (assign_Name ?_)
  refine St.st (by assumption) (by with_reducible exact Mine.put4) fun _ _ _ => ?_
  refine assignInOrder_cons (assign_Name ?_)
  refine St.st (by assumption) (by with_reducible exact Mine.put5) fun _ _ _ => ?_
  refine assignInOrder_nil ?_
  refine xSwap ["left", "right"] henv ?_
  refine spC ?_
  refine St.ld (by assumption) (by with_reducible exact Mine.at2) ?_
  refine spC ?_
  refine St.ld (by assumption) (by with_reducible exact Mine.at3) ?_
  with_reducible refine spN ?_
  refine newTupUnpack (by assumption) (by assumption) rfl fun _ _ => ?_
  refine asgN ?_
  refine St.st (by assumption) (by with_reducible exact Mine.put7) fun _ _ _ => ?_
  refine asgN ?_
  refine St.st (by assumption) (by with_reducible exact Mine.put6) fun _ _ _ => ?_
  refine assignInOrder_nil ?_
  have S := (((St.demote (by assumption)).demote).demote).demote
  have S := St.thinN S (n' := [(q2, IntsP (unordF xs.reverse ys []).2), (mi, IntsP (unordF xs.reverse ys []).1), (at2, IntsP ys), (ao, IntsP xs)]) (.cons _ (.cons_cons _ (.cons _ (.cons_cons _ (List.sublist_append_right _ _)))))
  have S := S.sink
  have ul := unordF_len xs.reverse ys []
  rw [List.length_reverse, List.length_nil] at ul
  exact law_loop (B.mono fun p hp => by (with_reducible refine List.mem_append_right _ ?_; with_reducible assumption)) (by (with_reducible refine List.mem_append_left _ ?_; (with_reducible refine List.mem_cons_of_mem _ ?_; (with_reducible refine List.mem_cons_of_mem _ ?_; (with_reducible refine List.mem_cons_of_mem _ ?_; with_reducible exact List.mem_cons_self))))) (by (with_reducible refine List.mem_append_left _ ?_; (with_reducible refine List.mem_cons_of_mem _ ?_; (with_reducible refine List.mem_cons_of_mem _ ?_; with_reducible exact List.mem_cons_self)))) (by (with_reducible refine List.mem_append_left _ ?_; (with_reducible refine List.mem_cons_of_mem _ ?_; with_reducible exact List.mem_cons_self))) (by (with_reducible refine List.mem_append_left _ ?_; with_reducible exact List.mem_cons_self)) xsL ysL (by lia  ) (by lia  ) (fun z => by rw [(unordF_count xs.reverse ys [] z).1, List.count_reverse]; simp) (fun z => by rw [(unordF_count xs.reverse ys [] z).2, List.count_reverse]) RM hA hq henv S

end Mine
end
section
open PySem PySem.W PyProof.Rows PySem.Calls
set_option autoImplicit false
namespace Mine
def baseL (h : Heap) : LT := (List.range h.objs.size).filterMap fun b => (h.get? b).map fun o => (b, fun x => x = o)
theorem baseL_mem {h : Heap} (b : Addr) (o : Obj) (e : h.get? b = some o) : (b, fun x => x = o) ∈ baseL h :=
  List.mem_filterMap.mpr ⟨b, List.mem_range.mpr (Heap.lt_size e), by rw [e]; rfl⟩
theorem baseL_of {h : Heap} {p : Addr × OP} (hp : p ∈ baseL h) : ∃ o, h.get? p.1 = some o ∧ p.2 o := by
  obtain ⟨b, _, e⟩ := List.mem_filterMap.mp hp
  obtain ⟨o, e1, rfl⟩ := Option.map_eq_some_iff.mp e
  exact ⟨o, e1, rfl⟩
theorem baseL_keys (h : Heap) : ((baseL h).map (·.1)).Sublist (List.range h.objs.size) := by
  unfold baseL
  rw [List.map_filterMap]
  have e : (List.range h.objs.size).filterMap (fun x => Option.map (·.1) ((h.get? x).map fun o => ((x, fun y => y = o) : Addr × OP))) = (List.range h.objs.size).filter fun x => (h.get? x).isSome := by
    rw [← List.filterMap_eq_filter]
    congr 1
    funext x
    cases e : h.get? x <;> simp [Option.guard, e]
  rw [e]
  exact List.filter_sublist
def nmLaw : List Str := ["script", "drawn", "one", "two", "missing", "beyond", "left", "right", "codes", "rows", "gone", "come", "word", "i", "j", "k", "l"]
theorem law_env {w : World} {nm : Str} {cd : Value} {fa L : Addr} : { envOfC nm (scopeOf (K w.params) 403) L fa cd with cells := [("kinds", L + 1)] } = envOfC nm (scopeOf (K w.params) 403) L fa cd := by rfl
theorem law_ok {w : World} {nm : Str} {cd : Value} {fa L : Addr} {a : Value} : EnvOk (K w.params) (envOfC nm (scopeOf (K w.params) 403) L fa cd) ((alLaw (some a) none none none none none none none none none none none none none none none none).map (·.1)) glLaw :=
  ⟨rfl, rfl, rfl, by kernel_rfl!, (show nmLaw.Nodup by decide +kernel), ⟨by kernel_rfl!, .inr ⟨by rfl, by rfl, by decide +kernel⟩⟩, ⟨by kernel_rfl!, .inl (by rfl)⟩, ⟨by kernel_rfl!, .inr ⟨by rfl, by rfl, by decide +kernel⟩⟩, ⟨by kernel_rfl!, .inl (by rfl)⟩, ⟨by kernel_rfl!, .inl (by rfl)⟩, ⟨by kernel_rfl!, .inl (by rfl)⟩, ⟨by kernel_rfl!, .inl (by rfl)⟩, ⟨by kernel_rfl!, .inr ⟨by rfl, by rfl, by decide +kernel⟩⟩, trivial⟩
theorem law_top {w : World} {h₁ h : Heap} {cd : Value} {nm : Str} {fa a : Addr} {ns : List Int} {vs : List Value} {Q : Flow → Shared → Prop} {E : Value → Shared → Prop} {g : Array GenState} {d : Drawn} {tk : Nat} {os : OsState} {m : Str → Option Value} {o : Obj} {p : Program} {loose : List Str} {mg mb : Str → Option Value}
    (KX : (K w.params).In h₁) (T : TopRead p loose mg mb h₁) (hl : h₁.IsList a vs.toArray) (hI : IntsAre vs ns) (hn : ns.length ≤ 63) (hk : ∀ b o, h₁.get? b = some o → h.get? b = some o) (hns : h.Ns h₁.objs.size m) (hm : m "script" = some (.ref a))
    (hc : h.get? (h₁.objs.size + 1) = some o) (hcd : o.data = .cell none) (hq : ∀ h tk, (∀ b o, h₁.get? b = some o → h.get? b = some o) → Q (.ret (.bool true)) ⟨h, g, d, tk, os⟩) :
    wpAny (model PySem.Challenge.pw_il0152_01 w) (callerA.deeper (envOfC nm (scopeOf (K w.params) 403) h₁.objs.size fa cd)) (execs (bodyOf (K w.params) 403) (envOfC nm (scopeOf (K w.params) 403) h₁.objs.size fa cd)) Q E ⟨h, g, d, tk, os⟩ := by
  obtain ⟨so, e1, e2, c, e3⟩ := hl
  refine law_walk (L := baseL h₁) (kc := h₁.objs.size + 1) (ns := ns) (a := a) (sco := so) ⟨KX, ⟨p, loose, mg, mb, T⟩, baseL_mem⟩ hn e1 ⟨vs, hI, e2, c, e3⟩ ⟨rfl, ?_, ?_, ?_, ?_⟩ law_env rfl rfl hq rfl ⟨⟨fun q hq => ?_, ?_⟩, law_ok⟩
  · show 1 + claimMargin + 1 + 150 < _; decide
  · show 4 + 3 + 3 * 150 + 200 < _; decide
  · show 1 + claimMargin + 1 + 150 ≤ _; decide
  · show 4 + 3 + 3 * 150 ≤ _; decide
  · rcases List.mem_cons.mp hq with rfl | hq
    · obtain ⟨o, es, ep, f1, f2, f3, f4⟩ := hns
      refine ⟨o, f1, es, ep, f2, f3, fun y u hy => ?_⟩
      rcases List.mem_cons.mp hy with e | hy
      · cases e; exact (f4 _).trans hm
      · repeat (rcases List.mem_cons.mp hy with e | hy; cases e)
        cases hy
    · rcases List.mem_cons.mp hq with rfl | hq
      · exact ⟨o, hc, hcd⟩
      · obtain ⟨o, f1, f2⟩ := baseL_of hq
        exact ⟨o, hk _ _ f1, f2⟩
  · show (h₁.objs.size :: (h₁.objs.size + 1) :: (baseL h₁).map (·.1)).Nodup
    have hs := baseL_keys h₁
    have hlt : ∀ x ∈ (baseL h₁).map (·.1), x < h₁.objs.size := fun x hx => List.mem_range.mp (hs.subset hx)
    rw [List.nodup_cons, List.nodup_cons]
    refine ⟨fun hx => ?_, fun hx => Nat.lt_irrefl _ (Nat.lt_of_succ_lt (hlt _ hx)), List.Nodup.sublist hs List.nodup_range⟩
    rcases List.mem_cons.mp hx with e | hx
    · lia  
    · exact Nat.lt_irrefl _ (hlt _ hx)

end Mine
end
section
open PySem PySem.W PyProof.Rows
namespace Mine
theorem left_all : LeftO P qV looseV XtV HK.obs HK.val 4000 := LeftO_of_one (boot_open open_plain (by decide) fence_plain) boot_size boot_abs T_all
end Mine
open Mine
theorem PySem.Challenge.cw_il0152_01_holds : PySem.Challenge.rw_il0152_01.Holds := by
  w_on
  refine holds_law (by kernel_rfl) fun said => ?_
  refine holds_open (q := qV) (loose := looseV) (Xt := XtV) (XP := XL qV []) (Yf := HK.obs) (Ya := HK.val) (YP := HK.says) (N := 4000) left_all HK.of HK.keeps (fun s e => xl_of s (Bool.and_eq_true_iff.mp e).1) XL.keeps (by rfl) (by rfl) (by rfl) (fun s e => recFacts_of (Bool.and_eq_true_iff.mp e).2) (by rfl) (by first | assumption | decide +kernel) (by decide +kernel) ⟨rfl, rfl, rfl, rfl, rfl, by decide +kernel⟩ ?hw ?hc
  case hw => w_witness2
  k_fill
  intro w s₀ s₁ mg mb G Y fa o pm cd doc dV kV ho hd hcd hD hmg hg args vals as hpre hlay hrd hwl hlo
  have KX := kIn_of Y
  have X := (Ground.X G).1
  have V := (Ground.X G).2
  refine Ground.open G ?_
  intro T B D TE TW
  try (refine guard_noD D (by decide +kernel) ?_; clear D)
  obtain ⟨_, _, M⟩ := bmod_of_top T
  have TA := at_of_top T
  try (obtain ⟨_, _, he, B0⟩ := based_of_top T rfl hmg ho hd; have he' : cd = _ := he; subst he'; clear he)
  clear hmg
  wrow_args hpre hlay hrd hwl hlo
  all_goals (
    first | refine callC_kw (enter_call ?_) | refine enter_call ?_ | refine callC_kw (enter_callW ?_) | refine enter_callW ?_ | w_how
    w_top on
    try refine codeAny_mono ?_ (fun _ _ g => GoodW.toG g)
    have K0 := below_caller (Top.heap T)
    w_call any ho hd hcd hD T F
    clear hd TA
    k_drop
    skip)
  refine law_top (by assumption) (topRead_of (by assumption)) (by assumption) (by assumption) (by omega) (Fr.keep (by assumption)) (Fr.ns (by assumption)) ?hm (News.get (by assumption) (.head _)) ?hcd ?hq
  case hm => rfl
  case hcd => exact Eq.trans (by assumption) rfl
  case hq =>
    intro h tk hk
    refine ⟨.inl ⟨.bool true, .bool true, [], rfl, raisesW_false ?hn, .bool true, ?hp, fun _ => ⟨.nil, fun _ h => by cases h⟩⟩, hk, rfl, by assumption⟩
    case hn => wrow_none_raised
    case hp => refine' postW_of ?ps ?pv ?pe; (case ps => o_shape); (case pv => wtm_val); (case pe => w_fin)
end
