import PyProof.Rows.All
import Wide.All
import OpenK.AllK
import Wide.FinOn
import PySem.Challenge.RW_ik0218_01
set_option Elab.async false
set_option maxRecDepth 100000
set_option maxHeartbeats 0
set_option linter.unusedVariables false
set_option compiler.extract_closed false
section SH
open PySem PySem.W PyProof.Rows
namespace Mine
/-- what is kept of the top -/
noncomputable def vw : Program := { PySem.Challenge.pw_ik0218_01 with main := { PySem.Challenge.pw_ik0218_01.main with body := [0, 1, 3, 4, 5, 6, 7, 8, 10, 12, 14, 15, 17, 19, 20, 22, 23, 24, 26, 27, 28, 30, 31, 32, 33, 34, 35, 36, 38, 39, 40, 41, 42, 43, 44, 45, 46, 47, 48, 49].filterMap fun i => PySem.Challenge.pw_ik0218_01.main.body[i]? } }
theorem law_said : OpenLaw.wellSaid PySem.Challenge.rw_ik0218_01 = true := by
  rw [PySem.W.Fast.te9446332074065402090]
  kernel_rfl
theorem head_of {r : OpenRow} {q : Program} {loose : List Str} {Xt : Shared → Bool} {XP : (Str → Option Value) → Heap → Prop} {α : Type} {Yf : Shared → α} {Ya : World → α} {YP : World → Heap → Prop} {d : DefRec} {kwd : List (Str × PySem.Expr)} {N : Nat}
    (hY : ∀ w s, Yf s = Ya w → YP w s.heap) (hYk : ∀ w h h', YP w h → (∀ b o, h.get? b = some o → h'.get? b = some o) → YP w h')
    (hX : ∀ s, Xt s = true → XP (s.heap.nsMap mainGlobals) s.heap) (hXk : ∀ mg h h', XP mg h → (∀ b o, h.get? b = some o → h'.get? b = some o) → XP mg h')
    (hdef : defOf q r.name = some (d, kwd)) (hp : r.prog.theDef r.name = some (d.params, d.body, d.scope)) (hk : kwWritten? d.params.kwonlyargs d.params.kw_defaults = some kwd) (hRf : ∀ s, Xt s = true → RecFacts r.records s.heap) (hwr : (!r.writes || r.records.isEmpty) = true)
    (k1 : r.wellSaid = true) (ok : (chainsOk q && opensWell r.prog && (frees r.toRowW && r.within.isEmpty)) = true) (hb : r.prog.bare) (hw : r.toRowW.promised)
    (both : LeftO r.prog q loose Xt Yf Ya N ∧ WalkO q loose XP YP r.toRowW d kwd fun f vs => PySem.call f vs) : r.Holds :=
  holds_open both.1 hY hYk hX hXk hdef hp hk hRf hwr k1 ok hb hw both.2
local macro_rules | `(tactic| o_head $H) => `(tactic| ((refine head_of (q := Mine.vw) (loose := []) (Xt := fun s => xlAt Mine.vw [] s && recOk (RowW.records (OpenRow.toRowW (OpenLaw.row PySem.Challenge.rw_ik0218_01))) s) (XP := XL Mine.vw []) (Yf := Hook.obs $H) (Ya := Hook.val $H) (YP := Hook.says $H) (N := 4318) (Hook.of $H) (Hook.keeps $H) (fun s e => xl_of s (Bool.and_eq_true_iff.mp e).1) XL.keeps (by rfl) (by rfl) (by rfl) (fun s e => recFacts_of (Bool.and_eq_true_iff.mp e).2) (by rfl) (by first | assumption | decide +kernel) (by decide +kernel) ⟨rfl, rfl, rfl, rfl, rfl, by decide +kernel⟩ ?hw ?both)))
local macro_rules | `(tactic| o_law) => `(tactic| refine holds_law Mine.law_said fun said => ?_)
open_top hd0 for PySem.Challenge.rw_ik0218_01
noncomputable abbrev HK : Hook := kHook hd0.heap_1 [2, 3, 15, 17, 18, 20, 21, 29, 31, 32, 34, 35, 36, 38, 39, 41, 42, 43, 45, 46, 48, 49, 50, 52, 53, 55, 56, 57, 59, 60, 62, 63, 64, 66, 67, 69, 70, 71, 73, 74, 76, 77, 78, 85, 87, 88, 90, 91, 92, 93, 94, 97, 104, 106, 107, 109, 110, 111, 113, 114, 116, 117, 118, 120, 121, 123, 124, 125, 126, 127, 130, 132, 133, 135, 136, 137, 139, 140, 142, 143, 144, 146, 147, 149, 150, 151, 153, 154, 156, 157, 158, 160, 161, 163, 164, 165, 167, 168, 170, 171, 172, 174, 175, 177, 178, 182, 184, 185, 187, 188, 189, 191, 192, 194, 195, 196, 199, 200, 201, 203, 204, 206, 207, 208, 210, 211, 213, 214, 215, 217, 218, 220, 221, 222, 224, 225, 227, 228, 229, 231, 232, 234, 235, 236, 238, 239, 241, 242, 243, 245, 246, 248, 249, 250, 252, 253, 255, 256, 257, 259, 260, 262, 263, 264, 266, 267, 269, 270, 271, 273, 274, 276, 277, 278, 280, 281, 283, 284, 285, 287, 288, 290, 291, 292, 294, 295, 297, 298, 299, 301, 302, 304, 305, 306, 308, 309, 311, 312, 313, 315, 316, 318, 319, 320, 323, 324, 325, 328, 329] (fun _ => by kernel_rfl)
noncomputable abbrev XT : Shared → Bool := fun s => xlAt vw [] s && recOk (RowW.records (OpenRow.toRowW (OpenLaw.row PySem.Challenge.rw_ik0218_01))) s
theorem opn : ∀ w : World, (fencedOpening treeTable PySem.Challenge.rw_ik0218_01.row.prog w 4318).map (fun s => (s.heap, s.gens, s.drawn, s.toks)) = some (boot_heap w.params, #[], boot_drawn, boot_toks) := boot_open (p := PySem.Challenge.rw_ik0218_01.row.prog) (N := 4318) rfl rfl (fun _ => rfl)
theorem left_boot {p q : Program} {loose : List Str} {Xt : Shared → Bool} {α : Type} {Yf : Shared → α} {Ya : World → α} {N : Nat} {g0 : Bool} (o : ∀ w : World, (fencedOpening treeTable p w N).map (fun s => (s.heap, s.gens, s.drawn, s.toks)) = some (boot_heap w.params, #[], boot_drawn, boot_toks))
    (t : ∀ (w : World) (os : OsState), (topFrom treeTable p w N ⟨boot_heap w.params, #[], boot_drawn, boot_toks, os⟩).map (fun s => (openSeen q loose (importedModules p.main.body) Xt g0 s, Yf s)) = some (openGood q loose, Ya w)) : LeftO p q loose Xt Yf Ya N g0 := fun w => by
  obtain ⟨⟨h, gs, d, k, os⟩, e, e'⟩ := Option.map_eq_some_iff.mp (o w)
  obtain ⟨rfl, rfl, rfl, rfl⟩ : h = _ ∧ gs = _ ∧ d = _ ∧ k = _ := by simpa using e'
  unfold openEnds
  rw [e]
  exact t w os
theorem left_f : ∀ (w : World) (os : OsState), (topFrom treeTable PySem.Challenge.rw_ik0218_01.row.prog (w.withFollow "special-get-raises" false) 4318 ⟨boot_heap (w.withFollow "special-get-raises" false).params, #[], boot_drawn, boot_toks, os⟩).map (fun s => (openSeen vw [] (importedModules PySem.Challenge.rw_ik0218_01.row.prog.main.body) XT true s, HK.obs s)) = some (openGood vw [], HK.val (w.withFollow "special-get-raises" false)) := fun w os => by
  unfold topFrom
  rw [PySem.W.Fast.te14082659384304107361, PySem.W.Fast.te14364793385576792824, PySem.W.Fast.te4187177175401517315]
  kernel_rfl
theorem left_t : ∀ (w : World) (os : OsState), (topFrom treeTable PySem.Challenge.rw_ik0218_01.row.prog (w.withFollow "special-get-raises" true) 4318 ⟨boot_heap (w.withFollow "special-get-raises" true).params, #[], boot_drawn, boot_toks, os⟩).map (fun s => (openSeen vw [] (importedModules PySem.Challenge.rw_ik0218_01.row.prog.main.body) XT true s, HK.obs s)) = some (openGood vw [], HK.val (w.withFollow "special-get-raises" true)) := fun w os => by
  unfold topFrom
  rw [PySem.W.Fast.te14082659384304107361, PySem.W.Fast.te14364793385576792824, PySem.W.Fast.te4187177175401517315]
  kernel_rfl
theorem left : LeftO PySem.Challenge.rw_ik0218_01.row.prog vw [] XT HK.obs HK.val 4318 true := left_boot opn fun w => byRow2 "special-get-raises" (P := fun w => ∀ os : OsState, (topFrom treeTable PySem.Challenge.rw_ik0218_01.row.prog w 4318 ⟨boot_heap w.params, #[], boot_drawn, boot_toks, os⟩).map (fun s => (openSeen vw [] (importedModules PySem.Challenge.rw_ik0218_01.row.prog.main.body) XT true s, HK.obs s)) = some (openGood vw [], HK.val w)) left_f left_t w
end Mine
end SH
section Fill
open PySem PySem.W PyProof.Rows PySem.Calls
example : (fun (_ : Params → Frag) (_ : OpenLaw) => True) Mine.hd0.heap_1 PySem.Challenge.rw_ik0218_01 := by
  k_fill
  trivial
end Fill
section SOM
open PySem PySem.W PyProof.Rows PySem.Calls
namespace Mine
theorem room {a b c n k : Nat} (h : a + b < n + k) (hc : Nat.ble (c + k) b = true) : a + c < n := by
  have := Nat.le_of_ble_eq_true hc
  omega
theorem room0 {a b c n : Nat} (h : a + b < n) (hc : Nat.ble c b = true) : a + c < n := by
  have := Nat.le_of_ble_eq_true hc
  omega
theorem le_cst {a b c : Nat} (h : a ≤ b) (hc : Nat.ble b c = true) : a ≤ c := Nat.le_trans h (Nat.le_of_ble_eq_true hc)
theorem le_cstE {a b c : Nat} (h : a = b) (hc : Nat.ble b c = true) : a ≤ c := h ▸ Nat.le_of_ble_eq_true hc
theorem le_cst2 {a b c d : Nat} (e : d = a) (h : a ≤ b) (hc : Nat.ble b c = true) : d ≤ c := e ▸ le_cst h hc
theorem ne_len {a b : Nat} (h : a = b) (h0 : ¬ a = 0) : ¬ b = 0 := h ▸ h0
theorem pos_len {a b : Nat} (h : a = b) (h0 : ¬ a = 0) : 0 < b := Nat.pos_of_ne_zero (h ▸ h0)
theorem eq_len {a b : Nat} (h : a = b) (h0 : a = 0) : b = 0 := h ▸ h0
theorem hide {G : Prop} (h : ∀ P : Prop, (G → P) → P) : G := h G id
theorem hide1 {α : Type} (x : α) {G : α → Prop} (h : ∀ P : α → Prop, (∀ y, G y → P y) → P x) : G x := h G fun _ g => g
end Mine
end SOM
section OMS
local macro_rules | `(tactic| omega) => `(tactic| first | with_reducible assumption | with_reducible exact Mine.room (by assumption) rfl | with_reducible exact Mine.room0 (by assumption) rfl | with_reducible exact Mine.le_cst (by assumption) rfl | with_reducible exact Nat.le_of_ble_eq_true rfl | with_reducible exact Nat.succ_le_succ (Nat.zero_le _) | with_reducible exact Mine.ne_len ‹_› ‹_› | with_reducible exact Mine.pos_len ‹_› ‹_› | with_reducible exact Mine.eq_len ‹_› ‹_› | with_reducible exact Nat.pos_of_ne_zero ‹_› | with_reducible exact Mine.le_cst2 (by assumption) (by assumption) rfl | with_reducible exact Mine.le_cstE (by assumption) rfl | omega (config := {}))
section SM1
open PySem PySem.W PyProof.Rows PySem.Calls
namespace Mine
open PySem.AutoSeq1 (wpAny_loadPart')
theorem owner_map : Manifest.owners.lookup (String.ofList ['p', 'a', 'm'].reverse) = some Manifest.sig_map := by kernel_rfl
theorem mro_map : mroOf (.type "map") = pure [.type "map", .type "object"] := by rw [mroOf_type]; kernel_rfl
theorem lookup_map_new : typeLookup (.type "map") "__new__" = pure (some (.builtin "map.__new__")) := by rw [typeLookup_type, builtinLookup_eq_fast]; kernel_rfl
theorem slot_map_init : Slot "map" "__init__" "object.__init__" :=
  .of (owner := "object") (n := "__init__") (by rw [typeLookup_type, builtinLookup_eq_fast]; kernel_rfl) (by decide +kernel) (by decide +kernel) (by decide +kernel)
    (by first | exact .inl (by decide +kernel) | exact .inr (by decide +kernel)) (by rw [isSubtype_type]; kernel_rfl)
theorem slot_map_iter : Slot "map" "__iter__" "map.__iter__" :=
  .of (owner := "map") (n := "__iter__") (by rw [typeLookup_type, builtinLookup_eq_fast]; kernel_rfl) (by decide +kernel) (by decide +kernel) (by decide +kernel)
    (by first | exact .inl (by decide +kernel) | exact .inr (by decide +kernel)) (by rw [isSubtype_type]; kernel_rfl)
theorem slot_map_next : Slot "map" "__next__" "map.__next__" :=
  .of (owner := "map") (n := "__next__") (by rw [typeLookup_type, builtinLookup_eq_fast]; kernel_rfl) (by decide +kernel) (by decide +kernel) (by decide +kernel)
    (by first | exact .inl (by decide +kernel) | exact .inr (by decide +kernel)) (by rw [isSubtype_type]; kernel_rfl)
theorem entry_map_new : entryFor table "map.__new__" = some Builtin.«map.__new__» := entryFor_of_tree (by kernel_rfl)
theorem entry_map_next : entryFor table "map.__next__" = some Builtin.«map.__next__» := entryFor_of_tree (by kernel_rfl)
theorem entry_map_iter : entryFor table "map.__iter__" = some Builtin.«dict_keyiterator.__iter__» :=
  entryFor_alias (id' := "dict_keyiterator.__iter__") (by kernel_rfl) (by first | rfl | decide +kernel | (unfold String.splitOn; simp +decide [String.splitOnAux])) (by decide +kernel) (by kernel_rfl)
theorem args_map_iter_1 (a : Value) : argsOk "map.__iter__" ⟨[a], []⟩ := by
  unfold argsOk; rw [signature?_of (id := "map.__iter__") (n := ['_', '_', 'r', 'e', 't', 'i', '_', '_']) (o := ['p', 'a', 'm']) (by kernel_rfl) owner_map]; kernel_rfl
theorem args_map_next_1 (a : Value) : argsOk "map.__next__" ⟨[a], []⟩ := by
  unfold argsOk; rw [signature?_of (id := "map.__next__") (n := ['_', '_', 't', 'x', 'e', 'n', '_', '_']) (o := ['p', 'a', 'm']) (by kernel_rfl) owner_map]; kernel_rfl
theorem args_object_init_3 (a b c : Value) : argsOk "object.__init__" ⟨[a, b, c], []⟩ := by
  unfold argsOk; rw [signature?_of (id := "object.__init__") (n := ['_', '_', 't', 'i', 'n', 'i', '_', '_']) (o := ['t', 'c', 'e', 'j', 'b', 'o']) (by kernel_rfl) F.owner_object]; kernel_rfl
theorem called_map : TypeCalled "map" "map.__new__" "object.__init__" :=
  ⟨by decide +kernel, by decide +kernel, ⟨_, _, mro_map⟩, madeBy_type mro_map lookup_map_new (by decide +kernel), by decide +kernel, by rw [isSubtype_type]; kernel_rfl, slot_map_init⟩
theorem typeCall_map_2 (a b : Value) : checkTypeCall "map" ⟨[a, b], []⟩ = pure () := by kernel_rfl
theorem newCall_map_2 (a b : Value) : checkBuiltinCall "map.__new__" ⟨[.type "map", a, b], []⟩ = pure () := by kernel_rfl
theorem sub_map : isSubtype (.type "map") (.type "map") = pure true := by rw [isSubtype_type]; kernel_rfl
theorem nolen_map : typeLookup (.type "map") "__len__" = pure none := by rw [typeLookup_type, builtinLookup_eq_fast]; kernel_rfl
theorem nohint_map : typeLookup (.type "map") "__length_hint__" = pure none := by rw [typeLookup_type, builtinLookup_eq_fast]; kernel_rfl
abbrev liObj (l : Addr) (i : Nat) : Obj := { cls := .type "list_iterator", data := .fields #[.ref l, .int i 0] }
abbrev mapObj (T : Addr) (f : Value) : Obj := { cls := .type "map", data := .fields #[.ref T, f] }
abbrev tup1 (I : Addr) : Obj := { cls := .type "tuple", data := .seq #[.ref I] }
theorem meets_map_new (f : Value) (l : Addr) (items : Array Value) (n : Nat) (dct : Option Addr) (sl : Array (Option Value)) :
    Meets (Builtin.«map.__new__» ⟨[.type "map", f, .ref l], []⟩) (fun _ R s => s.heap.get? l = some { cls := .type "list", dict := dct, data := .seq items n, slots := sl } ∧
      R (.ok (.ret (.ref ((s.heap.push (liObj l 0)).push (tup1 s.heap.objs.size)).objs.size)))
        { s with heap := ((s.heap.push (liObj l 0)).push (tup1 s.heap.objs.size)).push (mapObj (s.heap.push (liObj l 0)).objs.size f) }) :=
  .of_wp fun prog w A R s h => by
    obtain ⟨hp, g, d, tk, os⟩ := s; obtain ⟨hl, h⟩ := h
    have hsub := sub_map
    have hL : Heap.IsList (Shared.heap ⟨hp, g, d, tk, os⟩) l items := ⟨_, hl, rfl, n, rfl⟩
    wp_walk using wpAny_loadPart' hl, wpAny_pyIter_list hL
    exact ⟨_, rfl, h⟩
section
variable {prog : Program} {w : World} {A : Around} {E : Value → Shared → Prop} {s : Shared} {h₀ : Heap} {L : Addr} {m : Str → Option Value} {news : List (Addr × Obj)} {M T I S l : Addr} {f x y : Value} {k i : Nat} {items : Array Value}
theorem call_map_N {Q : Value → Shared → Prop} (F : Fr h₀ L s.heap m) (N : News h₀ L s.heap news) (hl : (l, listOf items k) ∈ news)
    (h : ∀ M T I h', Fr h₀ L h' m → News h₀ L h' ((M, mapObj T f) :: (T, tup1 I) :: (I, liObj l 0) :: news) → (∀ p ∈ news, p.1 < I) → I < T → T < M → Q (.ref M) { s with heap := h' }) :
    wpAny (model prog w) A (call (.type "map") [f, .ref l]) Q E s := by
  refine callType_new called_map (by decide) (typeCall_map_2 _ _) (newCall_map_2 _ _) (fun obj => args_object_init_3 obj _ _) entry_map_new (meets_map_new f l items k none #[]) ⟨(N _ hl).1, ?_⟩
  have F1 := F.push (liObj l 0)
  have N1 := N.push F (liObj l 0)
  have F2 := F1.push (tup1 s.heap.objs.size)
  have N2 := N1.push F1 (tup1 s.heap.objs.size)
  have F3 := F2.push (mapObj (s.heap.push (liObj l 0)).objs.size f)
  have N3 := N2.push F2 (mapObj (s.heap.push (liObj l 0)).objs.size f)
  refine ⟨⟨_, (N3 _ (.head _)).1, rfl⟩, h _ _ _ _ F3 N3 (fun p hp => Heap.lt_size (N p hp).1) ?_ ?_⟩
  · rw [Heap.size_push]; exact Nat.lt_succ_self _
  · rw [Heap.size_push (s.heap.push _)]; exact Nat.lt_succ_self _
noncomputable def LI (l : Addr) (i : Nat) (o : Obj) : Prop := o.cls = .type "list_iterator" ∧ o.data = .fields #[.ref l, .int i 0]
theorem map_li {so o : Obj} {h' : Heap} (F : Fr h₀ L s.heap m) (N : News h₀ L s.heap ((S, so) :: (M, mapObj T f) :: (T, tup1 I) :: (I, o) :: news)) (hS : S ≠ I) (hM : M ≠ I) (hT : T ≠ I) (hn : ∀ p ∈ news, p.1 ≠ I)
    (hi : h'.IsListIter I l i) (hs : Heap.SameBut I s.heap h') : ∃ o', LI l i o' ∧ Fr h₀ L h' m ∧ News h₀ L h' ((S, so) :: (M, mapObj T f) :: (T, tup1 I) :: (I, o') :: news) := by
  obtain ⟨o', ho, hc, hd⟩ := hi
  have hI := N (I, o) (.tail _ (.tail _ (.tail _ (.head _))))
  refine ⟨o', ⟨hc, hd⟩, F.update N (.tail _ (.tail _ (.tail _ (.head _)))) hs, fun p hp => ?_⟩
  have keep : ∀ p ∈ ((S, so) :: (M, mapObj T f) :: (T, tup1 I) :: (I, o) :: news), p.1 ≠ I → h'.get? p.1 = some p.2 ∧ p.1 ≠ L ∧ h₀.get? p.1 = none := fun p hp hne => ⟨(hs.2 p.1 hne).trans (N p hp).1, (N p hp).2⟩
  rcases List.mem_cons.mp hp with rfl | hp
  · exact keep _ (.head _) hS
  rcases List.mem_cons.mp hp with rfl | hp
  · exact keep _ (.tail _ (.head _)) hM
  rcases List.mem_cons.mp hp with rfl | hp
  · exact keep _ (.tail _ (.tail _ (.head _))) hT
  rcases List.mem_cons.mp hp with rfl | hp
  · exact ⟨ho, hI.2⟩
  · exact keep _ (.tail _ (.tail _ (.tail _ (.tail _ hp)))) (hn _ hp)
theorem map_next_item {so o : Obj} {Q : Option Value → Shared → Prop} (F : Fr h₀ L s.heap m) (N : News h₀ L s.heap ((S, so) :: (M, mapObj T f) :: (T, tup1 I) :: (I, o) :: news)) (hS : S ≠ I) (hM : M ≠ I) (hT : T ≠ I) (hn : ∀ p ∈ news, p.1 ≠ I)
    (hli : LI l i o) (hl : (l, listOf items k) ∈ news) (hx : items[i]? = some x)
    (h : ∀ o' h', LI l (i + 1) o' → Fr h₀ L h' m → News h₀ L h' ((S, so) :: (M, mapObj T f) :: (T, tup1 I) :: (I, o') :: news) → wpAny (model prog w) A.in1 (call f [x]) (fun v s' => Q (some v) s') (fun _ _ => False) { s with heap := h' }) :
    wpAny (model prog w) A (pyNext (.ref M)) Q E s := by
  have hm := (N (M, mapObj T f) (.tail _ (.head _))).1
  have ht := (N (T, tup1 I) (.tail _ (.tail _ (.head _)))).1
  have hit : s.heap.IsListIter I l i := ⟨o, (N (I, o) (.tail _ (.tail _ (.tail _ (.head _))))).1, hli⟩
  have hL : s.heap.IsList l items := ⟨_, (N _ (.tail _ (.tail _ (.tail _ (.tail _ hl))))).1, rfl, k, rfl⟩
  have hTy : s.TypeIs (.ref M) "map" := ⟨_, hm, rfl⟩
  unfold pyNext
  refine wpAny_bind (wpAny_attempt (wpAny_callSpecial?_slot (name := Str.ofString "__next__") hTy slot_map_next (wpAny_call_entry slot_map_next hTy entry_map_next ?_ (args_map_next_1 _))))
  show wpAny _ _ (field (.ref M) 0 >>= _) _ _ _
  refine wpAny_bind (wpAny_field hm rfl (x := .ref T) rfl ?_)
  refine wpAny_bind (wpAny_seqItems ht rfl ?_)
  have hnx : ∀ (h0 : (#[Value.ref I] : Array Value).size - 1 - 0 < (#[Value.ref I] : Array Value).size) (Q' : Value → Shared → Prop) (E' : Value → Shared → Prop), (∀ h', h'.IsListIter I l (i + 1) → Heap.SameBut I s.heap h' → Q' x { s with heap := h' }) →
      wpAny (model prog w) A.in1 (Builtin.SmallTypes.nextOf ((#[Value.ref I] : Array Value)[(#[Value.ref I] : Array Value).size - 1 - 0]'h0)) Q' E' s := fun h0 Q' E' hQ => wpAny_nextOf_list_item hit hL hx hQ
  wp_walk using hnx
  intro h' hi' hs'
  obtain ⟨o', a, b, c⟩ := map_li F N hS hM hT hn hi' hs'
  refine wpAny_pure ?_
  show wpAny _ _ (pure (#[].push x)) _ _ _
  refine wpAny_pure ?_
  show wpAny _ _ (field (.ref M) 1 >>= fun g => holding [x] (call g [x]) >>= fun r => letGo [x] [r] >>= fun _ => ret r) _ _ _
  refine wpAny_bind (wpAny_field (c (M, mapObj T f) (.tail _ (.head _))).1 rfl (x := f) rfl ?_)
  refine wpAny_bind (wpAny_holding (wpAny_mono (h o' h' a b c) (fun v s' hv => ?_) fun _ _ z => z.elim))
  exact wpAny_bind (wpAny_letGo (wpAny_pure ⟨v, rfl, wpAny_pure hv⟩))
theorem map_next_end {so o : Obj} {Q : Option Value → Shared → Prop} (hh : A.handled = none) (F : Fr h₀ L s.heap m) (N : News h₀ L s.heap ((S, so) :: (M, mapObj T f) :: (T, tup1 I) :: (I, o) :: news)) (hS : S ≠ I) (hM : M ≠ I) (hT : T ≠ I) (hn : ∀ p ∈ news, p.1 ≠ I)
    (hli : LI l i o) (hl : (l, listOf items k) ∈ news) (hx : items[i]? = none)
    (h : ∀ h', Fr h₀ L h' m → News h₀ L h' ((S, so) :: news) → Q none { s with heap := h' }) :
    wpAny (model prog w) A (pyNext (.ref M)) Q E s := by
  have hm := (N (M, mapObj T f) (.tail _ (.head _))).1
  have ht := (N (T, tup1 I) (.tail _ (.tail _ (.head _)))).1
  have hI := N (I, o) (.tail _ (.tail _ (.tail _ (.head _))))
  have hit : s.heap.IsListIter I l i := ⟨o, (N (I, o) (.tail _ (.tail _ (.tail _ (.head _))))).1, hli⟩
  have hL : s.heap.IsList l items := ⟨_, (N _ (.tail _ (.tail _ (.tail _ (.tail _ hl))))).1, rfl, k, rfl⟩
  have hTy : s.TypeIs (.ref M) "map" := ⟨_, hm, rfl⟩
  unfold pyNext
  refine wpAny_bind (wpAny_attempt (wpAny_callSpecial?_slot (name := Str.ofString "__next__") hTy slot_map_next (wpAny_call_entry slot_map_next hTy entry_map_next ?_ (args_map_next_1 _))))
  show wpAny _ _ (field (.ref M) 0 >>= _) _ _ _
  refine wpAny_bind (wpAny_field hm rfl (x := .ref T) rfl ?_)
  refine wpAny_bind (wpAny_seqItems ht rfl ?_)
  have hnx : ∀ (h0 : (#[Value.ref I] : Array Value).size - 1 - 0 < (#[Value.ref I] : Array Value).size) (Q' : Value → Shared → Prop) (E' : Value → Shared → Prop), (∀ h' e, Heap.ExtBut I s.heap h' → (∃ o, h'.get? e = some o ∧ o.cls = .type "StopIteration") → E' (.ref e) { s with heap := h' }) →
      wpAny (model prog w) A.in1 (Builtin.SmallTypes.nextOf ((#[Value.ref I] : Array Value)[(#[Value.ref I] : Array Value).size - 1 - 0]'h0)) Q' E' s := fun h0 Q' E' hQ => wpAny_nextOf_list_end hh hit hL hx hQ
  wp_walk using hnx
  intro h' e hs' hx'
  obtain ⟨eo, ho, hc⟩ := hx'
  refine wpAny_bind (wpAny_isInstance (T := "StopIteration") (b := true) ⟨eo, ho, hc⟩ isSubtype_stop ?_)
  have keep : ∀ p ∈ ((S, so) :: (M, mapObj T f) :: (T, tup1 I) :: (I, o) :: news), p.1 ≠ I → h'.get? p.1 = some p.2 ∧ p.1 ≠ L ∧ h₀.get? p.1 = none := fun p hp hne => ⟨hs' p.1 _ hne (N p hp).1, (N p hp).2⟩
  refine wpAny_pure (h h' ?_ fun p hp => ?_)
  · obtain ⟨oL, a1, a2, hL', a3⟩ := F.ns
    exact ⟨⟨oL, a1, a2, hs' _ _ (Ne.symm hI.2.1) hL', a3⟩, fun b o' e' => hs' _ _ (fun q => by rw [q, hI.2.2] at e'; cases e') (F.keep b o' e'), F.above⟩
  rcases List.mem_cons.mp hp with rfl | hp
  · exact keep _ (.head _) hS
  · exact keep _ (.tail _ (.tail _ (.tail _ (.tail _ hp)))) (hn _ hp)
/-- collect of map(f, [x, y]) where f hands back its argument -/
noncomputable def Same (M : Model) (A : Around) (h₀ : Heap) (L : Addr) (m : Str → Option Value) (f x : Value) : Prop :=
  ∀ (s : Shared) (news : List (Addr × Obj)) (Q : Value → Shared → Prop), Fr h₀ L s.heap m → News h₀ L s.heap news →
    (∀ h' tk, Fr h₀ L h' m → News h₀ L h' news → Q x { s with heap := h', toks := tk }) → wpAny M A (call f [x]) Q (fun _ _ => False) s
theorem upd_head {so so' : Obj} {h' : Heap} (F : Fr h₀ L s.heap m) (N : News h₀ L s.heap ((S, so) :: news)) (hn : ∀ p ∈ news, p.1 ≠ S) (hs : Heap.SameBut S s.heap h') (ho : h'.get? S = some so') : Fr h₀ L h' m ∧ News h₀ L h' ((S, so') :: news) :=
  ⟨F.update N (.head _) hs, N.setHead hn hs ho⟩
theorem map_loop2 {o : Obj} {R : Result → Shared → Prop} {res : Value} (hh : A.handled = none) {c0 : Nat} (F : Fr h₀ L s.heap m) (N : News h₀ L s.heap ((S, listOf #[] c0) :: (M, mapObj T f) :: (T, tup1 I) :: (I, o) :: news)) (hS : S ≠ I) (hM : M ≠ I) (hT : T ≠ I) (hn : ∀ p ∈ news, p.1 ≠ I)
    (hSM : M ≠ S) (hST : T ≠ S) (hSn : ∀ p ∈ news, p.1 ≠ S) (hli : LI l 0 o) (hl : (l, listOf #[x, y] k) ∈ news) (hx : Same (model prog w) A.in1.in1 h₀ L m f x) (hy : Same (model prog w) A.in1.in1 h₀ L m f y)
    (h : ∀ h' tk c, Fr h₀ L h' m → News h₀ L h' ((S, listOf #[x, y] c) :: news) → R (.ok (.ret res)) { s with heap := h', toks := tk }) :
    codeAny (model prog w) A (.builtin "list.extend.loop" ⟨[.ref S, .ref M, res], []⟩) R s := by
  have fresh : ∀ o, ∀ p ∈ ((M, mapObj T f) :: (T, tup1 I) :: (I, o) :: news), p.1 ≠ S := fun o p hp => by
    rcases List.mem_cons.mp hp with rfl | hp
    · exact hSM
    rcases List.mem_cons.mp hp with rfl | hp
    · exact hST
    rcases List.mem_cons.mp hp with rfl | hp
    · exact hS.symm
    · exact hSn _ hp
  refine codeAny_builtin PySem.F.entry_extend_loop ?_
  rw [Around.under_plainId PySem.F.plain_extend_loop _]
  show wpAny _ A.in1 (pyNext (.ref M) >>= _) _ _ s
  refine wpAny_bind (map_next_item F N hS hM hT hn hli hl rfl fun o1 h1 li1 F1 N1 => ?_)
  refine hx _ _ _ F1 N1 fun h2 tk2 F2 N2 => ?_
  show wpAny _ A.in1 (updateSeq S (·.push x) >>= _) _ _ _
  refine wpAny_bind (wpAny_updateSeq (N2 _ (.head _)).1 rfl (wpAny_pure ⟨plainId_quiet PySem.F.plain_extend_loop _, ?_⟩))
  obtain ⟨F3, N3⟩ := upd_head (s := { s with heap := h2 }) F2 N2 (fresh o1) (Heap.SameBut.update ..) (so' := listOf #[x] (c0 + 1)) (Heap.get?_update_self (Obj.mapSeq (·.push x)) (N2 (S, listOf #[] c0) (.head _)).1 rfl)
  refine codeAny_builtin PySem.F.entry_extend_loop ?_
  rw [Around.under_plainId PySem.F.plain_extend_loop _]
  show wpAny _ A.in1 (pyNext (.ref M) >>= _) _ _ _
  refine wpAny_bind (map_next_item F3 N3 hS hM hT hn li1 hl rfl fun o4 h4 li4 F4 N4 => ?_)
  refine hy _ _ _ F4 N4 fun h5 tk5 F5 N5 => ?_
  show wpAny _ A.in1 (updateSeq S (·.push y) >>= _) _ _ _
  refine wpAny_bind (wpAny_updateSeq (N5 _ (.head _)).1 rfl (wpAny_pure ⟨plainId_quiet PySem.F.plain_extend_loop _, ?_⟩))
  obtain ⟨F6, N6⟩ := upd_head (s := { s with heap := h5 }) F5 N5 (fresh o4) (Heap.SameBut.update ..) (so' := listOf #[x, y] (c0 + 2)) (Heap.get?_update_self (Obj.mapSeq (·.push y)) (N5 (S, listOf #[x] (c0 + 1)) (.head _)).1 rfl)
  refine codeAny_builtin PySem.F.entry_extend_loop ?_
  rw [Around.under_plainId PySem.F.plain_extend_loop _]
  show wpAny _ A.in1 (pyNext (.ref M) >>= _) _ _ _
  refine wpAny_bind (map_next_end hh F6 N6 hS hM hT hn li4 hl rfl fun h7 F7 N7 => ?_)
  exact wpAny_pure (h h7 _ _ F7 N7)
theorem collect_map2 {Q : List Value → Shared → Prop} (hh : A.handled = none) (F : Fr h₀ L s.heap m) (N : News h₀ L s.heap ((M, mapObj T f) :: (T, tup1 I) :: (I, liObj l 0) :: news)) (hM : M ≠ I) (hT : T ≠ I) (hn : ∀ p ∈ news, p.1 ≠ I)
    (hl : (l, listOf #[x, y] k) ∈ news) (hx : Same (model prog w) A.in1.in1 h₀ L m f x) (hy : Same (model prog w) A.in1.in1 h₀ L m f y)
    (h : ∀ h' tk, Fr h₀ L h' m → News h₀ L h' news → Q [x, y] { s with heap := h', toks := tk }) : wpAny (model prog w) A (collect (.ref M)) Q E s := by
  unfold collect
  refine wpAny_bind (wpAny_runValue (codeAny_builtin PySem.F.entry_proto_collect ?_))
  rw [Around.under_plainId PySem.F.plain_proto_collect _]
  show wpAny _ A.in1 (newList [] >>= fun l => again (.builtin "list.__iadd__" ⟨[l, .ref M], []⟩)) _ _ s
  have lt : ∀ p ∈ ((M, mapObj T f) :: (T, tup1 I) :: (I, liObj l 0) :: news), p.1 ≠ s.heap.objs.size := fun p hp => Nat.ne_of_lt (Heap.lt_size (N p hp).1)
  have F1 := F.push ({ cls := .type "list", data := .seq ([] : List Value).toArray } : Obj)
  have N1 := N.push F ({ cls := .type "list", data := .seq ([] : List Value).toArray } : Obj)
  refine wpAny_bind (wpAny_newObj_type ?_)
  refine wpAny_pure ⟨plainId_quiet PySem.F.plain_list_iadd _, codeAny_builtin PySem.F.entry_list_iadd ?_⟩
  rw [Around.under_plainId PySem.F.plain_list_iadd _]
  generalize hSz : s.heap.objs.size = S at *
  show wpAny _ A.in1 (Builtin.List.listExtendWith (.ref S) (.ref M) (.ref S)) _ _ _
  unfold Builtin.List.listExtendWith
  have hMS : M ≠ S := lt _ (.head _)
  have hTS : T ≠ S := lt _ (.tail _ (.head _))
  have hIS : I ≠ S := lt _ (.tail _ (.tail _ (.head _)))
  have hTM : ({ s with heap := s.heap.push { cls := .type "list", data := .seq ([] : List Value).toArray } } : Shared).TypeIs (.ref M) "map" := ⟨_, (N1 _ (.tail _ (.head _))).1, rfl⟩
  refine wpAny_bind (wpAny_typeOf hTM ?_)
  have h1 : Builtin.List.listSameRef (.ref S) (.ref M) = false := by simp [Builtin.List.listSameRef, Ne.symm hMS]
  have h2 : (Value.type "map" == Value.type "list") = false := by decide
  have h3 : (Value.type "map" == Value.type "tuple") = false := by decide
  simp only [h1, h2, h3, Bool.or_false, Bool.false_eq_true, if_false]
  have hself : ∀ Q' : Value → Shared → Prop, Q' (.ref M) ({ s with heap := s.heap.push { cls := .type "list", data := .seq ([] : List Value).toArray } } : Shared) →
      wpAny (model prog w) A.in1 (pyIter (.ref M)) Q' (fun _ _ => False) ({ s with heap := s.heap.push { cls := .type "list", data := .seq ([] : List Value).toArray } } : Shared) := fun Q' hQ => by
    refine wpAny_pyIter_slot hTM slot_map_iter (wpAny_call_entry slot_map_iter hTM entry_map_iter ?_ (args_map_iter_1 _))
    show wpAny _ _ (ret (.ref M)) _ _ _
    exact wpAny_pure ⟨_, rfl, "map", _, hTM, slot_map_next.lookup, hQ⟩
  refine wpAny_bind (wpAny_mono (hself _ ?_) (fun _ _ z => z) (fun _ _ z => z.elim))
  refine wpAny_bind (wpAny_holding ?_)
  unfold Builtin.List.listLengthHint
  refine wpAny_bind (wpAny_specialOf hTM nolen_map ?_)
  show wpAny _ A.in1 (specialOf (Value.ref M) (Str.ofString "__length_hint__") >>= _) _ _ _
  refine wpAny_bind (wpAny_specialOf hTM nohint_map ?_)
  refine wpAny_pure ?_
  rw [if_pos (show (true || _) = true from rfl)]
  refine wpAny_bind (wpAny_rule ?_)
  have fr : ∀ p ∈ ((M, mapObj T f) :: (T, tup1 I) :: (I, liObj l 0) :: news), p.1 ≠ S := lt
  refine wpAny_bind ?_
  show wpAny _ A.in1 (updateSeq S (·.push .none) >>= fun _ => updateSeq S (·.pop)) _ _ _
  refine wpAny_bind (wpAny_updateSeq (N1 _ (.head _)).1 rfl ?_)
  obtain ⟨F2, N2⟩ := upd_head (s := { s with heap := s.heap.push { cls := .type "list", data := .seq ([] : List Value).toArray } }) F1 N1 fr (Heap.SameBut.update ..) (so' := listOf #[.none] 1) (Heap.get?_update_self (Obj.mapSeq (·.push Value.none)) (N1 _ (.head _)).1 rfl)
  refine wpAny_updateSeq (N2 _ (.head _)).1 rfl ?_
  obtain ⟨F3, N3⟩ := upd_head (s := { s with heap := ((s.heap.push { cls := .type "list", data := .seq ([] : List Value).toArray }).update S (Obj.mapSeq (·.push Value.none))) }) F2 N2 fr (Heap.SameBut.update ..) (so' := listOf #[] 2) (Heap.get?_update_self (Obj.mapSeq (·.pop)) (N2 _ (.head _)).1 rfl)
  refine wpAny_pure ⟨plainId_quiet PySem.F.plain_extend_loop _, map_loop2 hh F3 N3 (Ne.symm hIS) hM hT hn hMS hTS (fun p hp => fr p (.tail _ (.tail _ (.tail _ hp)))) ⟨rfl, rfl⟩ hl hx hy fun h' tk c F4 N4 => ?_⟩
  show wpAny _ A (load S >>= _) _ _ _
  exact wpAny_bind (wpAny_load (N4 _ (.head _)).1 (wpAny_pure (h _ _ F4 fun p hp => N4 p (.tail _ hp))))
abbrev tupN (vs : Array Value) : Obj := { cls := .type "tuple", data := .seq vs }
theorem call_tuple_map2 {Q : Value → Shared → Prop} (hh : A.handled = none) (F : Fr h₀ L s.heap m) (N : News h₀ L s.heap ((M, mapObj T f) :: (T, tup1 I) :: (I, liObj l 0) :: news)) (hM : M ≠ I) (hT : T ≠ I) (hn : ∀ p ∈ news, p.1 ≠ I)
    (hl : (l, listOf #[x, y] k) ∈ news) (hx : Same (model prog w) A.in1.in1.in1.in1 h₀ L m f x) (hy : Same (model prog w) A.in1.in1.in1.in1 h₀ L m f y)
    (h : ∀ t h' tk, Fr h₀ L h' m → News h₀ L h' ((t, tupN #[x, y]) :: news) → (∀ p ∈ news, p.1 < t) → Q (.ref t) { s with heap := h', toks := tk }) : wpAny (model prog w) A (call (.type "tuple") [.ref M]) Q E s := by
  refine callType_codes (Q₁ := fun obj s₁ => s₁.TypeIs obj "tuple" ∧ Q obj s₁) PySem.F.called_tuple (PySem.F.typeCall_tuple_1 _) PySem.F.entry_object_init ?_ fun obj s₁ h₁ =>
    ⟨h₁.1, PySem.F.args_object_init_2 obj _, object_init_meets PySem.F.called_tuple.init.lookup PySem.F.called_tuple.made (by decide) prog w A.in1 _ s₁ ⟨h₁.1, rfl, h₁.2⟩⟩
  refine codeAny_of_tree ?_
  show wpAny _ A.in1.in1 (do checkBuiltinCall "tuple.__new__" ⟨[.type "tuple", .ref M], []⟩; again (.builtin "tuple.__new__" ⟨[.type "tuple", .ref M], []⟩)) _ _ s
  refine wpAny_bind (wpAny_of_eq (PySem.F.newCall_tuple_1 _) (wpAny_pure ⟨plainId_quiet PySem.F.plain_tuple_new _, codeAny_builtin PySem.F.entry_tuple_new ?_⟩))
  rw [Around.under_plainId PySem.F.plain_tuple_new _]
  have hsub := sub_tuple_self
  have hinit := init_tuple_lookup
  have hmh := madeHere_tuple
  have hTI : s.TypeIs (.ref M) "map" := ⟨_, (N _ (.head _)).1, rfl⟩
  have hcol : ∀ (Q' : List Value → Shared → Prop) (E' : Value → Shared → Prop), (∀ h' tk, Fr h₀ L h' m → News h₀ L h' news → Q' [x, y] { s with heap := h', toks := tk }) → wpAny (model prog w) A.in1.in1 (collect (.ref M)) Q' E' s := fun Q' E' hQ =>
    collect_map2 hh F N hM hT hn hl hx hy hQ
  wp_walk using wpAny_typeOf hTI, hcol
  intro h' tk F' N'
  show wpAny _ _ (Builtin.Tuple.tupleExact #[x, y] >>= fun v => ret v) _ _ _
  unfold Builtin.Tuple.tupleExact
  refine wpAny_bind (wpAny_newObj_type ?_ (by show (2 : Nat) ≤ sizeLine; decide))
  refine wpAny_pure ?_
  exact ⟨⟨_, Heap.get?_push_size _ rfl, rfl⟩, h _ _ _ (F'.push _) (N'.push F' (tupN #[x, y])) fun p hp => Heap.lt_size (N' p hp).1⟩
end
end Mine
end SM1
section SM2
open PySem PySem.W PyProof.Rows PySem.Calls
namespace Mine
open PySem.AutoSeq1 (wpAny_loadPart')
section
variable {prog : Program} {w : World} {A : Around} {E : Value → Shared → Prop} {s : Shared} {h₀ : Heap} {L : Addr} {m : Str → Option Value} {news : List (Addr × Obj)} {a b : Addr} {vs : List Value} {k kb : Nat}
theorem eq_empty {Q : Value → Shared → Prop} (N : News h₀ L s.heap news) (hm : (a, listOf vs.toArray k) ∈ news) (hb : (b, listOf #[] kb) ∈ news) (hu : A.units + 64 < cLine) (h : Q (.bool (decide (vs.length = 0))) s) :
    wpAny (model prog w) A (compareOp .Eq (.ref a) (.ref b)) Q E s := by
  by_cases hv : vs.length = 0
  · obtain rfl := List.eq_nil_of_length_eq_zero hv
    refine kqd_eq (news := news) (n₁ := []) (n₂ := []) (ds := []) (es := []) (xs := []) (ys := []) N hm rfl rfl DatAll.nil (fun _ h => nomatch h) hb rfl rfl DatAll.nil (fun _ h => nomatch h) (fun _ h => nomatch h) (fun _ h => nomatch h) hu ?_
    simpa using h
  · refine cmp_ofEq (wpAny_richCompare_same_room (T := "list") ⟨_, (N _ hm).1, rfl⟩ ⟨_, (N _ hb).1, rfl⟩ PySem.F.slot_list_eq ?_ (by omega))
    refine wpAny_call_entry PySem.F.slot_list_eq ⟨_, (N _ hm).1, rfl⟩ PySem.F.entry_list_eq ?_ (PySem.F.args_list_eq_2 _ _)
    have hl := (N _ hm).1
    have hb' := (N _ hb).1
    have f3 := PySem.AutoSeq1.sub_list_list
    have hc0 : ((vs.toArray).size != (#[] : Array Value).size) = true := by simpa using hv
    obtain ⟨hp, g, d, tk, os⟩ := s
    wp_walk using wpAny_loadPart' hl, wpAny_loadPart' hb'
    refine ⟨_, rfl, by decide, ?_⟩
    rw [show decide (vs.length = 0) = false from decide_eq_false hv] at h
    exact h
theorem ne_empty {Q : Value → Shared → Prop} (N : News h₀ L s.heap news) (hm : (a, listOf vs.toArray k) ∈ news) (hb : (b, listOf #[] kb) ∈ news) (hu : A.units + 64 < cLine) (h : Q (.bool (!decide (vs.length = 0))) s) :
    wpAny (model prog w) A (compareOp .NotEq (.ref a) (.ref b)) Q E s := by
  by_cases hv : vs.length = 0
  · obtain rfl := List.eq_nil_of_length_eq_zero hv
    refine kqd_ne (news := news) (n₁ := []) (n₂ := []) (ds := []) (es := []) (xs := []) (ys := []) N hm rfl rfl DatAll.nil (fun _ h => nomatch h) hb rfl rfl DatAll.nil (fun _ h => nomatch h) (fun _ h => nomatch h) (fun _ h => nomatch h) hu ?_
    simpa using h
  · refine cmp_ofNotEq (wpAny_richCompare_same_room (T := "list") ⟨_, (N _ hm).1, rfl⟩ ⟨_, (N _ hb).1, rfl⟩ PySem.F.slot_list_ne ?_ (by omega))
    refine wpAny_call_entry PySem.F.slot_list_ne ⟨_, (N _ hm).1, rfl⟩ PySem.F.entry_list_ne ?_ (PySem.F.args_list_ne_2 _ _)
    have hl := (N _ hm).1
    have hb' := (N _ hb).1
    have f3 := PySem.AutoSeq1.sub_list_list
    have hc0 : ((vs.toArray).size != (#[] : Array Value).size) = true := by simpa using hv
    obtain ⟨hp, g, d, tk, os⟩ := s
    wp_walk using wpAny_loadPart' hl, wpAny_loadPart' hb'
    refine ⟨_, rfl, by decide, ?_⟩
    rw [show decide (vs.length = 0) = false from decide_eq_false hv] at h
    exact h
end
end Mine
end SM2
section SM3
open PySem PySem.W PyProof.Rows PySem.Calls
namespace Mine
section
variable {prog : Program} {w : World} {A : Around} {E : Value → Shared → Prop} {s : Shared} {h₀ : Heap} {L : Addr} {m : Str → Option Value} {news : List (Addr × Obj)} {D b : Addr} {vs ws : List Value} {n n2 : Nat}
theorem extend_list {Q : Value → Shared → Prop} (F : Fr h₀ L s.heap m) (N : News h₀ L s.heap news) (hb : (b, listOf ws.toArray n2) ∈ news) (nw : Nat → List (Addr × Obj)) (U : ∀ n', Upd D (listOf vs.toArray n) (listOf (vs ++ ws).toArray n') news (nw n'))
    (hfit : vs.length + ws.length ≤ 1000000) (h : ∀ n' h', Fr h₀ L h' m → News h₀ L h' (nw n') → Q .none { s with heap := h' }) : wpAny (model prog w) A (call (.builtin "list.extend") [.ref D, .ref b]) Q E s := by
  have hc9 := sizeLine_eq
  have hd : ¬(!vs.toArray.isEmpty && Builtin.List.listTooLong (vs.toArray.size + ws.toArray.size)) = true := extend_door (by simp only [List.size_toArray]; omega)
  by_cases hw : ws = []
  · subst hw
    have U' := U n
    rw [List.append_nil] at U'
    exact kxn_extend F N hb rfl U' hd (by simp; omega) (by simp; omega) fun h' F' N' => h n h' F' N'
  · refine kl_extend F N hb (l := vs ++ ws) (by simp) (by simpa using hw) (U (n + 1)) hd (by simp; omega) (by simp; omega) fun h' F' N' => h _ h' F' N'
theorem pick_one (vs : List Value) : (slicePick vs.toArray none (some 1) none).toList = vs.take 1 := by
  cases vs with
  | nil => rfl
  | cons v r =>
    simp only [slicePick, sliceBounds, List.size_toArray, List.length_cons]
    have e : (if (none : Option Int).getD 1 > 0 then max 0 (min (if (1 : Int) < 0 then 1 + ((r.length + 1 : Nat) : Int) else 1) ((r.length + 1 : Nat) : Int)) else max (-1) (min (if (1 : Int) < 0 then 1 + ((r.length + 1 : Nat) : Int) else 1) (((r.length + 1 : Nat) : Int) - 1))) = 1 := by
      rw [if_pos (by decide)]
      have h1 : ¬ ((1 : Int) < 0) := by decide
      rw [if_neg h1]
      omega
    rw [e]
    have e2 : sliceRange (if (none : Option Int).getD 1 > 0 then 0 else ((r.length + 1 : Nat) : Int) - 1) 1 ((none : Option Int).getD 1) = [0] := by
      rw [if_pos (by decide)]; decide
    rw [e2]
    rfl
theorem slice_one {l : Addr} {value slice : PySem.Expr} {t : Tok} {k : Nat} {Q : Value → Shared → Prop} (F : Fr h₀ L s.heap m) (N : News h₀ L s.heap news) (hl : (l, listOf vs.toArray k) ∈ news) (hfit : vs.length ≤ 1000000)
    (h : ∀ D h', Fr h₀ L h' m → News h₀ L h' ((D, listOf (vs.take 1).toArray 0) :: news) → (∀ p ∈ news, p.1 < D) → Q (.ref D) { s with heap := h' })
    (hs : subscripted slice false (.ref l) (.ref s.heap.objs.size) = operate [.ref s.heap.objs.size, .ref l] (getItem (.ref l) (.ref s.heap.objs.size))) (ht : ∀ r, letTemporaryGo value (.ref l) r = pure ()) :
    wpAny (model prog w) A (subscriptTail value slice (.ref l) (.ref s.heap.objs.size)) Q E { s with heap := s.heap.push { cls := .type "slice", data := .fields #[.none, .int 1 t, .none] } } :=
  kmk_slice_lit F N ⟨_, (N _ hl).1, rfl, _, rfl⟩ .none (.int 1 t) (pick_one vs) h hs ht (by have hc9 := sizeLine_eq; simp only [List.size_toArray]; omega)
end
end Mine
end SM3
section SK1
open PySem PySem.W PyProof.Rows PySem.Calls
namespace Mine
open PySem.AutoSeq1 (wpAny_loadPart')
open MeetsSeq MeetsSeq2 MeetsSeq3 SeqRoads2
/-- an order at a state -/
noncomputable def OpAt (op : CmpOp) (A : Around) (s : Shared) (x y : Value) (b : Bool) : Prop :=
  ∀ (prog : Program) (w : World) (E Q : Value → Shared → Prop), Q (.bool b) s → wpAny (model prog w) A (richCompare op x y) Q E s
/-- item by item: the first pair that differs decides -/
noncomputable def lexW {α : Type} (eq lt : α → α → Bool) (f1 f2 : Bool) : List α → List α → Bool
  | [], [] => false
  | [], _ :: _ => f1
  | _ :: _, [] => f2
  | a :: as, b :: bs => if eq a b = true then lexW eq lt f1 f2 as bs else lt a b
theorem lexW_end {α : Type} (eq lt : α → α → Bool) {as bs : List α} {n m i : Nat} (h : min n m ≤ i) (h2 : i ≤ min n m) (h1 : as.length = n := by assumption) (h3 : bs.length = m := by assumption) :
    lexW eq lt true false (as.drop i) (bs.drop i) = decide (n < m) := by
  by_cases hsz : n ≤ m
  · have hd : as.drop i = [] := by simp; omega
    rw [hd]
    by_cases hq : n = m
    · have hd2 : bs.drop i = [] := by simp; omega
      rw [hd2, lexW, hq]; simp
    · obtain ⟨y, r, hy⟩ : ∃ y r, bs.drop i = y :: r := by
        have : 0 < (bs.drop i).length := by rw [List.length_drop]; omega
        match hb9 : bs.drop i, this with
        | y :: r, _ => exact ⟨y, r, rfl⟩
      rw [hy, lexW]; symm; simp; omega
  · have hd2 : bs.drop i = [] := by simp; omega
    rw [hd2]
    obtain ⟨y, r, hy⟩ : ∃ y r, as.drop i = y :: r := by
      have : 0 < (as.drop i).length := by rw [List.length_drop]; omega
      match hb9 : as.drop i, this with
      | y :: r, _ => exact ⟨y, r, rfl⟩
    rw [hy, lexW]; symm; simp; omega
theorem ltAt_int {A : Around} {s : Shared} (a b : Int) (t u : Tok) : OpAt .Lt A s (.int a t) (.int b u) (decide (a < b)) := fun prog w E Q h => PyProof.Rows.lt_int (E := E) (t := t) (u := u) h
theorem ltAt_str {A : Around} {s : Shared} (a b : Str) (t u : Tok) : OpAt .Lt A s (.str a t) (.str b u) (decide (a.cps.toList < b.cps.toList)) := fun prog w E Q h => PyProof.Rows.lt_str (E := E) (t := t) (u := u) h
theorem lt_loopAt {α : Type} (eq lt : α → α → Bool) (l b : Addr) (items items2 : Array Value) (n n2 : Nat) (dd dd2 : Option Addr) (sl sl2 : Array (Option Value)) (as bs : List α) (h1 : as.length = items.size) (h2 : bs.length = items2.size) (k : Nat) :
    ∀ i : Nat, min items.size items2.size - i = k → i ≤ min items.size items2.size → Meets (Builtin.«list.__eq__.loop» ⟨[.ref l, .ref b, rawInt i, rawInt 0], []⟩)
      (fun A R s => s.heap.get? l = some { cls := .type "list", dict := dd, data := .seq items n, slots := sl } ∧ s.heap.get? b = some { cls := .type "list", dict := dd2, data := .seq items2 n2, slots := sl2 } ∧
        (∀ j (j1 : j < items.size) (j2 : j < items2.size), SeqAt.EqAt A.in1 s items[j] items2[j] (eq (as[j]'(by omega)) (bs[j]'(by omega)))) ∧
        (∀ j (j1 : j < items.size) (j2 : j < items2.size), OpAt .Lt A.in1 s items[j] items2[j] (lt (as[j]'(by omega)) (bs[j]'(by omega)))) ∧
        R (.ok (.ret (.bool (lexW eq lt true false (as.drop i) (bs.drop i))))) s) := by
  induction k with
  | zero =>
    intro i hk hle prog w A R s h
    obtain ⟨hp, g, d, tk, os⟩ := s; obtain ⟨hl, hb, he, hlt, h⟩ := h
    wp_walk using wpAny_loadPart' hl, wpAny_loadPart' hb
    have hi : i = min items.size items2.size := by omega
    by_cases hsz : items.size ≤ items2.size
    · have e0 : i = items.size := by omega
      have hi1 : items[((i : Nat) : Int).toNat]? = none := by simp; omega
      have hd : as.drop i = [] := by simp; omega
      have hR : lexW eq lt true false (as.drop i) (bs.drop i) = decide (items.size < items2.size) := by
        rw [hd]
        by_cases hq : items.size = items2.size
        · have hd2 : bs.drop i = [] := by simp; omega
          rw [hd2, lexW, hq]; simp
        · obtain ⟨y, r, hy⟩ : ∃ y r, bs.drop i = y :: r := by
            have : 0 < (bs.drop i).length := by rw [List.length_drop]; omega
            match hb9 : bs.drop i, this with
            | y :: r, _ => exact ⟨y, r, rfl⟩
          rw [hy, lexW]; symm; simp; omega
      rw [hR] at h
      rw [hi1]
      wp_walk using wpAny_loadPart' hl, wpAny_loadPart' hb
      exact h
    · have e0 : i = items2.size := by omega
      have hlt1 : i < items.size := by omega
      have hi1 : items[((i : Nat) : Int).toNat]? = some items[i] := by simp [hlt1]
      have hi2 : items2[((i : Nat) : Int).toNat]? = none := by simp; omega
      have hd2 : bs.drop i = [] := by simp; omega
      have hR : lexW eq lt true false (as.drop i) (bs.drop i) = decide (items.size < items2.size) := by
        rw [hd2]
        obtain ⟨y, r, hy⟩ : ∃ y r, as.drop i = y :: r := by
          have : 0 < (as.drop i).length := by rw [List.length_drop]; omega
          match hb9 : as.drop i, this with
          | y :: r, _ => exact ⟨y, r, rfl⟩
        rw [hy, lexW]; symm; simp; omega
      rw [hR] at h
      rw [hi1, hi2]
      wp_walk using wpAny_loadPart' hl, wpAny_loadPart' hb
      exact h
  | succ k ih =>
    intro i hk hle prog w A R s h
    obtain ⟨hp, g, d, tk, os⟩ := s; obtain ⟨hl, hb, he, hlt, h⟩ := h
    wp_walk using wpAny_loadPart' hl, wpAny_loadPart' hb
    have hlt1 : i < items.size := by omega
    have hlt2 : i < items2.size := by omega
    have hi1 : items[((i : Nat) : Int).toNat]? = some items[i] := by simp [hlt1]
    have hi2 : items2[((i : Nat) : Int).toNat]? = some items2[i] := by simp [hlt2]
    have hc : ((i : Int) + 1) = ((i + 1 : Nat) : Int) := by push_cast; rfl
    have ha : as.drop i = as[i]'(by omega) :: as.drop (i + 1) := List.drop_eq_getElem_cons (by omega)
    have hb1 : bs.drop i = bs[i]'(by omega) :: bs.drop (i + 1) := List.drop_eq_getElem_cons (by omega)
    rw [ha, hb1, lexW] at h
    rw [hi1, hi2]
    refine wpAny_bind (he i hlt1 hlt2 prog w _ _ ?_)
    cases hb' : eq (as[i]'(by omega)) (bs[i]'(by omega)) with
    | true =>
      rw [hb', if_pos rfl] at h
      wp_walk
      rw [hc]
      exact ⟨plainId_quiet MeetsSeq3.plain_eq_loop _, codeAny_builtin MeetsSeq3.entry_eq_loop (by
        rw [Around.under_plainId MeetsSeq3.plain_eq_loop _]
        exact ih (i + 1) (by omega) (by omega) prog w A R _ ⟨hl, hb, he, hlt, h⟩)⟩
    | false =>
      rw [hb', if_neg Bool.false_ne_true] at h
      wp_walk using wpAny_loadPart' hl, wpAny_loadPart' hb
      rw [hi1, hi2]
      refine wpAny_bind (hlt i hlt1 hlt2 prog w _ _ ?_)
      wp_walk
      exact h
theorem list_ltAt {α : Type} (eq lt : α → α → Bool) (l b : Addr) (items items2 : Array Value) (n n2 : Nat) (dd dd2 : Option Addr) (sl sl2 : Array (Option Value)) (as bs : List α) (h1 : as.length = items.size) (h2 : bs.length = items2.size) :
    Meets (Builtin.«list.__lt__» ⟨[.ref l, .ref b], []⟩)
      (fun A R s => s.heap.get? l = some { cls := .type "list", dict := dd, data := .seq items n, slots := sl } ∧ s.heap.get? b = some { cls := .type "list", dict := dd2, data := .seq items2 n2, slots := sl2 } ∧
        (∀ j (j1 : j < items.size) (j2 : j < items2.size), SeqAt.EqAt A.in1 s items[j] items2[j] (eq (as[j]'(by omega)) (bs[j]'(by omega)))) ∧
        (∀ j (j1 : j < items.size) (j2 : j < items2.size), OpAt .Lt A.in1 s items[j] items2[j] (lt (as[j]'(by omega)) (bs[j]'(by omega)))) ∧
        R (.ok (.ret (.bool (lexW eq lt true false as bs)))) s) := by
  intro prog w A R s h
  obtain ⟨hp, g, d, tk, os⟩ := s; obtain ⟨hl, hb, he, hlt, h⟩ := h
  have f3 := AutoSeq1.sub_list_list
  wp_walk using wpAny_loadPart' hl, wpAny_loadPart' hb
  exact ⟨plainId_quiet MeetsSeq3.plain_eq_loop _, codeAny_builtin MeetsSeq3.entry_eq_loop (by
    rw [Around.under_plainId MeetsSeq3.plain_eq_loop _]
    exact lt_loopAt eq lt l b items items2 n n2 dd dd2 sl sl2 as bs h1 h2 _ 0 rfl (Nat.zero_le _) prog w A R _ ⟨hl, hb, he, hlt, h⟩)⟩
theorem lt_lists {α : Type} {A : Around} {s : Shared} (eq lt : α → α → Bool) {l b : Addr} {items items2 : Array Value} {as bs : List α} (h1 : as.length = items.size) (h2 : bs.length = items2.size) (hl : s.heap.IsList l items) (hb : s.heap.IsList b items2) (hu : A.units < cLine)
    (he : ∀ j (j1 : j < items.size) (j2 : j < items2.size), SeqAt.EqAt A.in1 s items[j] items2[j] (eq (as[j]'(by omega)) (bs[j]'(by omega))))
    (hlt : ∀ j (j1 : j < items.size) (j2 : j < items2.size), OpAt .Lt A.in1 s items[j] items2[j] (lt (as[j]'(by omega)) (bs[j]'(by omega)))) : OpAt .Lt A s (.ref l) (.ref b) (lexW eq lt true false as bs) := fun prog w E Q h => by
  obtain ⟨⟨cls, dd, data, sl⟩, ho, hc, n, hd⟩ := id hl
  obtain ⟨⟨cls2, dd2, data2, sl2⟩, ho2, hc2, n2, hd2⟩ := id hb
  simp only at hc hd hc2 hd2
  subst hc hd hc2 hd2
  exact richCompare_meets_room (op := .Lt) ⟨_, ho, rfl⟩ ⟨_, ho2, rfl⟩ PySem.F.slot_list_lt PySem.F.entry_list_lt (PySem.F.args_list_lt_2 _ _) (list_ltAt eq lt l b items items2 n n2 dd dd2 sl sl2 as bs h1 h2)
    ⟨ho, ho2, he, hlt, show Value.bool (lexW eq lt true false as bs) ≠ Value.notImplemented ∧ Q (.bool (lexW eq lt true false as bs)) s from ⟨(fun x => nomatch x), h⟩⟩ hu
theorem gt_loopAt {α : Type} (eq lt : α → α → Bool) (l b : Addr) (items items2 : Array Value) (n n2 : Nat) (dd dd2 : Option Addr) (sl sl2 : Array (Option Value)) (as bs : List α) (h1 : as.length = items.size) (h2 : bs.length = items2.size) (k : Nat) :
    ∀ i : Nat, min items.size items2.size - i = k → i ≤ min items.size items2.size → Meets (Builtin.«list.__eq__.loop» ⟨[.ref l, .ref b, rawInt i, rawInt 4], []⟩)
      (fun A R s => s.heap.get? l = some { cls := .type "list", dict := dd, data := .seq items n, slots := sl } ∧ s.heap.get? b = some { cls := .type "list", dict := dd2, data := .seq items2 n2, slots := sl2 } ∧
        (∀ j (j1 : j < items.size) (j2 : j < items2.size), SeqAt.EqAt A.in1 s items[j] items2[j] (eq (as[j]'(by omega)) (bs[j]'(by omega)))) ∧
        (∀ j (j1 : j < items.size) (j2 : j < items2.size), OpAt .Gt A.in1 s items[j] items2[j] (lt (as[j]'(by omega)) (bs[j]'(by omega)))) ∧
        R (.ok (.ret (.bool (lexW eq lt false true (as.drop i) (bs.drop i))))) s) := by
  induction k with
  | zero =>
    intro i hk hle prog w A R s h
    obtain ⟨hp, g, d, tk, os⟩ := s; obtain ⟨hl, hb, he, hlt, h⟩ := h
    wp_walk using wpAny_loadPart' hl, wpAny_loadPart' hb
    have hi : i = min items.size items2.size := by omega
    by_cases hsz : items.size ≤ items2.size
    · have e0 : i = items.size := by omega
      have hi1 : items[((i : Nat) : Int).toNat]? = none := by simp; omega
      have hd : as.drop i = [] := by simp; omega
      have hR : lexW eq lt false true (as.drop i) (bs.drop i) = decide (items.size > items2.size) := by
        rw [hd]
        by_cases hq : items.size = items2.size
        · have hd2 : bs.drop i = [] := by simp; omega
          rw [hd2, lexW, hq]; simp
        · obtain ⟨y, r, hy⟩ : ∃ y r, bs.drop i = y :: r := by
            have : 0 < (bs.drop i).length := by rw [List.length_drop]; omega
            match hb9 : bs.drop i, this with
            | y :: r, _ => exact ⟨y, r, rfl⟩
          rw [hy, lexW]; symm; simp; omega
      rw [hR] at h
      rw [hi1]
      wp_walk using wpAny_loadPart' hl, wpAny_loadPart' hb
      exact h
    · have e0 : i = items2.size := by omega
      have hlt1 : i < items.size := by omega
      have hi1 : items[((i : Nat) : Int).toNat]? = some items[i] := by simp [hlt1]
      have hi2 : items2[((i : Nat) : Int).toNat]? = none := by simp; omega
      have hd2 : bs.drop i = [] := by simp; omega
      have hR : lexW eq lt false true (as.drop i) (bs.drop i) = decide (items.size > items2.size) := by
        rw [hd2]
        obtain ⟨y, r, hy⟩ : ∃ y r, as.drop i = y :: r := by
          have : 0 < (as.drop i).length := by rw [List.length_drop]; omega
          match hb9 : as.drop i, this with
          | y :: r, _ => exact ⟨y, r, rfl⟩
        rw [hy, lexW]; symm; simp; omega
      rw [hR] at h
      rw [hi1, hi2]
      wp_walk using wpAny_loadPart' hl, wpAny_loadPart' hb
      exact h
  | succ k ih =>
    intro i hk hle prog w A R s h
    obtain ⟨hp, g, d, tk, os⟩ := s; obtain ⟨hl, hb, he, hlt, h⟩ := h
    wp_walk using wpAny_loadPart' hl, wpAny_loadPart' hb
    have hlt1 : i < items.size := by omega
    have hlt2 : i < items2.size := by omega
    have hi1 : items[((i : Nat) : Int).toNat]? = some items[i] := by simp [hlt1]
    have hi2 : items2[((i : Nat) : Int).toNat]? = some items2[i] := by simp [hlt2]
    have hc : ((i : Int) + 1) = ((i + 1 : Nat) : Int) := by push_cast; rfl
    have ha : as.drop i = as[i]'(by omega) :: as.drop (i + 1) := List.drop_eq_getElem_cons (by omega)
    have hb1 : bs.drop i = bs[i]'(by omega) :: bs.drop (i + 1) := List.drop_eq_getElem_cons (by omega)
    rw [ha, hb1, lexW] at h
    rw [hi1, hi2]
    refine wpAny_bind (he i hlt1 hlt2 prog w _ _ ?_)
    cases hb' : eq (as[i]'(by omega)) (bs[i]'(by omega)) with
    | true =>
      rw [hb', if_pos rfl] at h
      wp_walk
      rw [hc]
      exact ⟨plainId_quiet MeetsSeq3.plain_eq_loop _, codeAny_builtin MeetsSeq3.entry_eq_loop (by
        rw [Around.under_plainId MeetsSeq3.plain_eq_loop _]
        exact ih (i + 1) (by omega) (by omega) prog w A R _ ⟨hl, hb, he, hlt, h⟩)⟩
    | false =>
      rw [hb', if_neg Bool.false_ne_true] at h
      wp_walk using wpAny_loadPart' hl, wpAny_loadPart' hb
      rw [hi1, hi2]
      refine wpAny_bind (hlt i hlt1 hlt2 prog w _ _ ?_)
      wp_walk
      exact h
theorem list_gtAt {α : Type} (eq lt : α → α → Bool) (l b : Addr) (items items2 : Array Value) (n n2 : Nat) (dd dd2 : Option Addr) (sl sl2 : Array (Option Value)) (as bs : List α) (h1 : as.length = items.size) (h2 : bs.length = items2.size) :
    Meets (Builtin.«list.__gt__» ⟨[.ref l, .ref b], []⟩)
      (fun A R s => s.heap.get? l = some { cls := .type "list", dict := dd, data := .seq items n, slots := sl } ∧ s.heap.get? b = some { cls := .type "list", dict := dd2, data := .seq items2 n2, slots := sl2 } ∧
        (∀ j (j1 : j < items.size) (j2 : j < items2.size), SeqAt.EqAt A.in1 s items[j] items2[j] (eq (as[j]'(by omega)) (bs[j]'(by omega)))) ∧
        (∀ j (j1 : j < items.size) (j2 : j < items2.size), OpAt .Gt A.in1 s items[j] items2[j] (lt (as[j]'(by omega)) (bs[j]'(by omega)))) ∧
        R (.ok (.ret (.bool (lexW eq lt false true as bs)))) s) := by
  intro prog w A R s h
  obtain ⟨hp, g, d, tk, os⟩ := s; obtain ⟨hl, hb, he, hlt, h⟩ := h
  have f3 := AutoSeq1.sub_list_list
  wp_walk using wpAny_loadPart' hl, wpAny_loadPart' hb
  exact ⟨plainId_quiet MeetsSeq3.plain_eq_loop _, codeAny_builtin MeetsSeq3.entry_eq_loop (by
    rw [Around.under_plainId MeetsSeq3.plain_eq_loop _]
    exact gt_loopAt eq lt l b items items2 n n2 dd dd2 sl sl2 as bs h1 h2 _ 0 rfl (Nat.zero_le _) prog w A R _ ⟨hl, hb, he, hlt, h⟩)⟩
theorem gt_lists {α : Type} {A : Around} {s : Shared} (eq lt : α → α → Bool) {l b : Addr} {items items2 : Array Value} {as bs : List α} (h1 : as.length = items.size) (h2 : bs.length = items2.size) (hl : s.heap.IsList l items) (hb : s.heap.IsList b items2) (hu : A.units < cLine)
    (he : ∀ j (j1 : j < items.size) (j2 : j < items2.size), SeqAt.EqAt A.in1 s items[j] items2[j] (eq (as[j]'(by omega)) (bs[j]'(by omega))))
    (hlt : ∀ j (j1 : j < items.size) (j2 : j < items2.size), OpAt .Gt A.in1 s items[j] items2[j] (lt (as[j]'(by omega)) (bs[j]'(by omega)))) : OpAt .Gt A s (.ref l) (.ref b) (lexW eq lt false true as bs) := fun prog w E Q h => by
  obtain ⟨⟨cls, dd, data, sl⟩, ho, hc, n, hd⟩ := id hl
  obtain ⟨⟨cls2, dd2, data2, sl2⟩, ho2, hc2, n2, hd2⟩ := id hb
  simp only at hc hd hc2 hd2
  subst hc hd hc2 hd2
  exact richCompare_meets_room (op := .Gt) ⟨_, ho, rfl⟩ ⟨_, ho2, rfl⟩ PySem.F.slot_list_gt PySem.F.entry_list_gt (PySem.F.args_list_gt_2 _ _) (list_gtAt eq lt l b items items2 n n2 dd dd2 sl sl2 as bs h1 h2)
    ⟨ho, ho2, he, hlt, show Value.bool (lexW eq lt false true as bs) ≠ Value.notImplemented ∧ Q (.bool (lexW eq lt false true as bs)) s from ⟨(fun x => nomatch x), h⟩⟩ hu
theorem tuple_ltAt {α : Type} (eq lt : α → α → Bool) (l b : Addr) (items items2 : Array Value) (n n2 : Nat) (dd dd2 : Option Addr) (sl sl2 : Array (Option Value)) (as bs : List α) (h1 : as.length = items.size) (h2 : bs.length = items2.size) :
    Meets (Builtin.«tuple.__lt__» ⟨[.ref l, .ref b], []⟩)
      (fun A R s => s.heap.get? l = some { cls := .type "tuple", dict := dd, data := .seq items n, slots := sl } ∧ s.heap.get? b = some { cls := .type "tuple", dict := dd2, data := .seq items2 n2, slots := sl2 } ∧
        (∀ j (j1 : j < items.size) (j2 : j < items2.size), SeqAt.EqAt A.in1 s items[j] items2[j] (eq (as[j]'(by omega)) (bs[j]'(by omega)))) ∧
        (∀ j (j1 : j < items.size) (j2 : j < items2.size), OpAt .Lt A.in1 s items[j] items2[j] (lt (as[j]'(by omega)) (bs[j]'(by omega)))) ∧
        R (.ok (.ret (.bool (lexW eq lt true false as bs)))) s) :=
  .of_wp fun prog w A R s h => by
    obtain ⟨hp, g, d, tk, os⟩ := s; obtain ⟨hl, hb, he, hlt, h⟩ := h
    have f2 := AutoSeq1.sub_tuple_tuple
    have hZ : (items.toList.zip items2.toList).length = min items.size items2.size := by simp
    wp_walk using wpAny_loadPart' hl, wpAny_loadPart' hb, wpAny_forIn_list _ (fun rest b s' => b.1 = none ∧ s' = ⟨hp, g, d, tk, os⟩ ∧ ∃ i, i ≤ min items.size items2.size ∧ rest = (items.toList.zip items2.toList).drop i ∧
      R (.ok (.ret (.bool (lexW eq lt true false (as.drop i) (bs.drop i))))) ⟨hp, g, d, tk, os⟩) _
    case turn =>
      rintro ⟨y, x⟩ rest b s' ⟨hb', rfl, i, hile, hz, hR⟩
      have hlt0 : i < (items.toList.zip items2.toList).length := by
        rcases Nat.lt_or_ge i (items.toList.zip items2.toList).length with h' | h'
        · exact h'
        · rw [List.drop_of_length_le h'] at hz; cases hz
      have hm : i < min items.size items2.size := hZ ▸ hlt0
      have j1 : i < items.size := Nat.lt_of_lt_of_le hm (Nat.min_le_left _ _)
      have j2 : i < items2.size := Nat.lt_of_lt_of_le hm (Nat.min_le_right _ _)
      rw [List.drop_eq_getElem_cons hlt0] at hz
      injection hz with hyx hrest
      have hy : y = items[i] := by have := congrArg Prod.fst hyx; simpa using this
      have hx : x = items2[i] := by have := congrArg Prod.snd hyx; simpa using this
      subst hy hx
      have ha : as.drop i = as[i]'(by omega) :: as.drop (i + 1) := List.drop_eq_getElem_cons (by omega)
      have hb1 : bs.drop i = bs[i]'(by omega) :: bs.drop (i + 1) := List.drop_eq_getElem_cons (by omega)
      rw [ha, hb1, lexW] at hR
      refine wpAny_bind (he i j1 j2 prog w _ _ ?_)
      cases hy : eq (as[i]'(by omega)) (bs[i]'(by omega)) with
      | true =>
        rw [hy, if_pos rfl] at hR
        wp_walk
        exact ⟨rfl, rfl, i + 1, by omega, hrest, hR⟩
      | false =>
        rw [hy, if_neg Bool.false_ne_true] at hR
        have hrc : ∀ (Q' E' : Value → Shared → Prop), Q' (.bool (lt (as[i]'(by omega)) (bs[i]'(by omega)))) ⟨hp, g, d, tk, os⟩ → wpAny (model prog w) A.in1 (richCompare .Lt items[i] items2[i]) Q' E' ⟨hp, g, d, tk, os⟩ := fun Q' E' h => hlt i j1 j2 prog w E' Q' h
        wp_walk using hrc
        exact ⟨_, rfl, hR⟩
    case fin =>
      rintro ⟨b1, b2⟩ s' ⟨hb', rfl, i, hile, hz, hR⟩
      simp only at hb'
      subst hb'
      have hge : min items.size items2.size ≤ i := by
        rcases Nat.lt_or_ge i (items.toList.zip items2.toList).length with h' | h'
        · rw [List.drop_eq_getElem_cons h'] at hz; cases hz
        · exact hZ ▸ h'
      have e : lexW eq lt true false (as.drop i) (bs.drop i) = decide (items.size < items2.size) := lexW_end eq lt (by omega) (by omega)
      rw [e] at hR
      wp_walk
      exact ⟨_, rfl, by simpa [Builtin.Tuple.tupleCompareSizes] using hR⟩
    case h =>
      exact ⟨rfl, rfl, 0, Nat.zero_le _, rfl, by simpa using h⟩
theorem lt_tuples {α : Type} {A : Around} {s : Shared} (eq lt : α → α → Bool) {l b : Addr} {items items2 : Array Value} {as bs : List α} (h1 : as.length = items.size) (h2 : bs.length = items2.size) (hl : s.heap.IsTuple l items) (hb : s.heap.IsTuple b items2) (hu : A.units < cLine)
    (he : ∀ j (j1 : j < items.size) (j2 : j < items2.size), SeqAt.EqAt A.in1 s items[j] items2[j] (eq (as[j]'(by omega)) (bs[j]'(by omega))))
    (hlt : ∀ j (j1 : j < items.size) (j2 : j < items2.size), OpAt .Lt A.in1 s items[j] items2[j] (lt (as[j]'(by omega)) (bs[j]'(by omega)))) : OpAt .Lt A s (.ref l) (.ref b) (lexW eq lt true false as bs) := fun prog w E Q h => by
  obtain ⟨⟨cls, dd, data, sl⟩, ho, hc, n, hd⟩ := id hl
  obtain ⟨⟨cls2, dd2, data2, sl2⟩, ho2, hc2, n2, hd2⟩ := id hb
  simp only at hc hd hc2 hd2
  subst hc hd hc2 hd2
  exact richCompare_meets_room (op := .Lt) ⟨_, ho, rfl⟩ ⟨_, ho2, rfl⟩ PySem.F.slot_tuple_lt PySem.F.entry_tuple_lt (PySem.F.args_tuple_lt_2 _ _) (tuple_ltAt eq lt l b items items2 n n2 dd dd2 sl sl2 as bs h1 h2)
    ⟨ho, ho2, he, hlt, show Value.bool (lexW eq lt true false as bs) ≠ Value.notImplemented ∧ Q (.bool (lexW eq lt true false as bs)) s from ⟨(fun x => nomatch x), h⟩⟩ hu
theorem gtAt_str {A : Around} {s : Shared} (a b : Str) (t u : Tok) : OpAt .Gt A s (.str a t) (.str b u) (decide (b.cps.toList < a.cps.toList)) := fun prog w E Q h => by
  have := PySem.P.gt_str (prog := prog) (w := w) (A := A) (s := s) (x := a) (y := b) (E := E) (Q := Q) (t := t) (u := u)
  exact this h
end Mine
end SK1
section SK2
open PySem PySem.W PyProof.Rows PySem.Calls
namespace Mine
open PySem.AutoSeq1 (wpAny_loadPart')
open MeetsSeq MeetsSeq2 MeetsSeq3 SeqRoads2
/-- items compare so at every state where K holds -/
noncomputable def CmpAt (K : Heap → Prop) (op : CmpOp) (A : Around) (vs : List Value) (bt : Nat → Nat → Bool) : Prop :=
  ∀ (s : Shared) i j vi vj, K s.heap → vs[i]? = some vi → vs[j]? = some vj → OpAt op A s vi vj (bt i j)
section
variable {prog : Program} {w : World} {A : Around} {R : Result → Shared → Prop} {I l S : Addr} {vs : List Value} {K : Heap → Prop}
theorem minv_loop (hh : A.in1.handled = none) (hlI : l ≠ I) (hSI : S ≠ I) (hSl : S ≠ l) (bt : Nat → Nat → Bool) (hcmp : CmpAt K .Lt A.in1 vs bt)
    (hK : ∀ h h', K h → (∀ b o, b ≠ I → b ≠ S → h.get? b = some o → h'.get? b = some o) → K h') :
    ∀ (k j : Nat) (s : Shared) (vb : Value) (c : Nat), vs.length - (j + 1) = k → j + 1 ≤ vs.length → s.heap.IsListIter I l (j + 1) → s.heap.IsList l vs.toArray → K s.heap → vs[argBest bt j]? = some vb →
    s.heap.get? S = some { cls := .type "list", dict := none, data := .seq #[vb, vb] c, slots := #[] } →
    (∀ v h' tk, vs[argBest bt (vs.length - 1)]? = some v → (∀ b o, b ≠ I → b ≠ S → s.heap.get? b = some o → h'.get? b = some o) → R (.ok (.ret v)) { s with heap := h', toks := tk }) →
    codeAny (model prog w) A (.builtin "min.loop" ⟨[.ref I, .none, .ref S], []⟩) R s := by
  have hname : (toString "min" ++ toString ".loop" : String) = "min.loop" := by decide
  have W := Walks.list (prog := prog) (w := w) (A := A.in1) hh I l hlI vs.toArray
  have hsz : vs.toArray.size = vs.length := List.size_toArray ..
  intro k
  induction k with
  | zero =>
    intro j s vb c hk hj hit hl hKs hb hS hR
    refine codeAny_builtin PySem.F.entry_min_loop ?_
    rw [Around.under_plainId PySem.F.plain_min_loop _]
    show wpAny _ A.in1 (seqItems? (.ref S) >>= _) _ _ s
    refine wpAny_bind (wpAny_seqItems hS rfl ?_)
    show wpAny _ A.in1 (tryCatch (pyNext (.ref I)) _ >>= _) _ _ s
    have e0 : j + 1 = vs.toArray.size := by omega
    refine wpAny_bind (wpAny_tryCatch (W.done s _ _ ⟨e0 ▸ hit, hl⟩ fun h' tk hk' => ?_))
    have hS' := hk' S _ (by simpa using hSI) hS
    show wpAny _ A.in1 (updateSeq S (fun _ => #[]) >>= _) _ _ _
    refine wpAny_bind (wpAny_updateSeq hS' rfl (wpAny_bind (wpAny_letGo (wpAny_pure ?_))))
    have e1 : vs.length - 1 = j := by omega
    refine hR vb _ tk (by rw [e1]; exact hb) fun b o hbI hbS e => (Heap.get?_update_other _ _ (Ne.symm hbS)).trans (hk' b o (by simpa using hbI) e)
  | succ k ih =>
    intro j s vb c hk hj hit hl hKs hb hS hR
    have hlt : j + 1 < vs.length := by omega
    refine codeAny_builtin PySem.F.entry_min_loop ?_
    rw [Around.under_plainId PySem.F.plain_min_loop _]
    show wpAny _ A.in1 (seqItems? (.ref S) >>= _) _ _ s
    refine wpAny_bind (wpAny_seqItems hS rfl ?_)
    show wpAny _ A.in1 (tryCatch (pyNext (.ref I)) _ >>= _) _ _ s
    refine wpAny_bind (wpAny_tryCatch (W.item (j + 1) s _ _ (by omega) ⟨hit, hl⟩ fun v h' tk hP hst' hk' => ?_))
    have hv : vs[j + 1]? = some v := by simpa using hP
    have hS' := hk' S _ (by simpa using hSI) hS
    have hK' : K h' := hK _ _ hKs fun b o hbI _ e => hk' b o (by simpa using hbI) e
    show wpAny _ A.in1 (tryCatch (holding [v, v] (richCompare .Lt v vb >>= _)) _ >>= _) _ _ _
    refine wpAny_bind (wpAny_tryCatch (wpAny_holding (wpAny_bind (hcmp ⟨h', s.gens, s.drawn, tk, s.os⟩ (j + 1) (argBest bt j) v vb hK' hv hb prog w _ _ ?_))))
    refine wpAny_bind (wpAny_holding (wpAny_truthy_bool ?_))
    refine wpAny_bind (wpAny_letGo (wpAny_pure ?_))
    cases hbt : bt (j + 1) (argBest bt j) with
    | true =>
      simp only [if_true]
      refine wpAny_bind (wpAny_updateSeq hS' rfl (wpAny_bind (wpAny_letGo ?_)))
      rw [hname]
      have keepI : ∀ b o, b ≠ S → h'.get? b = some o → (h'.update S (Obj.mapSeq fun _ => #[v, v])).get? b = some o := fun b o hb e => (Heap.get?_update_other _ _ (Ne.symm hb)).trans e
      refine wpAny_pure ⟨plainId_quiet PySem.F.plain_min_loop _, ih (j + 1) _ v _ (by omega) hlt (hst'.1.at fun o e => keepI _ o (Ne.symm hSI) e) (hst'.2.at fun o e => keepI _ o (Ne.symm hSl) e) (hK _ _ hK' fun b o _ hbS e => keepI b o hbS e)
        (by simp only [argBest, hbt, if_true]; exact hv) (Heap.get?_update_self _ hS' rfl) fun v' h'' tk'' hP' hk'' => ?_⟩
      exact hR v' h'' tk'' hP' fun b o hbI hbS e => hk'' b o hbI hbS (keepI b o hbS (hk' b o (by simpa using hbI) e))
    | false =>
      simp only [Bool.false_eq_true, if_false]
      refine wpAny_bind (wpAny_letGo ?_)
      rw [hname]
      refine wpAny_pure ⟨plainId_quiet PySem.F.plain_min_loop _, ih (j + 1) _ vb c (by omega) hlt hst'.1 hst'.2 hK' (by simp only [argBest, hbt, Bool.false_eq_true, if_false]; exact hb) hS' fun v' h'' tk'' hP' hk'' => ?_⟩
      exact hR v' h'' tk'' hP' fun b o hbI hbS e => hk'' b o hbI hbS (hk' b o (by simpa using hbI) e)
theorem minv_first (hh : A.in1.handled = none) (hlI : l ≠ I) (hSI : S ≠ I) (hSl : S ≠ l) (bt : Nat → Nat → Bool) (hcmp : CmpAt K .Lt A.in1 vs bt)
    (hK : ∀ h h', K h → (∀ b o, b ≠ I → b ≠ S → h.get? b = some o → h'.get? b = some o) → K h') {s : Shared} {c : Nat} (hn : 0 < vs.length) (hit : s.heap.IsListIter I l 0) (hl : s.heap.IsList l vs.toArray) (hKs : K s.heap)
    (hS : s.heap.get? S = some { cls := .type "list", dict := none, data := .seq #[] c, slots := #[] })
    (hR : ∀ v h' tk, vs[argBest bt (vs.length - 1)]? = some v → (∀ b o, b ≠ I → b ≠ S → s.heap.get? b = some o → h'.get? b = some o) → R (.ok (.ret v)) { s with heap := h', toks := tk }) :
    codeAny (model prog w) A (.builtin "min.loop" ⟨[.ref I, .none, .ref S], []⟩) R s := by
  have hname : (toString "min" ++ toString ".loop" : String) = "min.loop" := by decide
  have W := Walks.list (prog := prog) (w := w) (A := A.in1) hh I l hlI vs.toArray
  have hsz : vs.toArray.size = vs.length := List.size_toArray ..
  refine codeAny_builtin PySem.F.entry_min_loop ?_
  rw [Around.under_plainId PySem.F.plain_min_loop _]
  show wpAny _ A.in1 (seqItems? (.ref S) >>= _) _ _ s
  refine wpAny_bind (wpAny_seqItems hS rfl ?_)
  show wpAny _ A.in1 (tryCatch (pyNext (.ref I)) _ >>= _) _ _ s
  refine wpAny_bind (wpAny_tryCatch (W.item 0 s _ _ (by omega) ⟨hit, hl⟩ fun v h' tk hP hst' hk' => ?_))
  have hv : vs[0]? = some v := by simpa using hP
  have hS' := hk' S _ (by simpa using hSI) hS
  have hK' : K h' := hK _ _ hKs fun b o hbI _ e => hk' b o (by simpa using hbI) e
  have keepI : ∀ b o, b ≠ S → h'.get? b = some o → (h'.update S (Obj.mapSeq fun _ => #[v, v])).get? b = some o := fun b o hb e => (Heap.get?_update_other _ _ (Ne.symm hb)).trans e
  show wpAny _ A.in1 (updateSeq S (fun _ => #[v, v]) >>= _) _ _ _
  refine wpAny_bind (wpAny_updateSeq hS' rfl ?_)
  rw [hname]
  refine wpAny_pure ⟨plainId_quiet PySem.F.plain_min_loop _, minv_loop hh hlI hSI hSl bt hcmp hK _ 0 _ v _ rfl (by omega) (hst'.1.at fun o e => keepI _ o (Ne.symm hSI) e) (hst'.2.at fun o e => keepI _ o (Ne.symm hSl) e) (hK _ _ hK' fun b o _ hbS e => keepI b o hbS e)
    (by simpa [argBest] using hv) (Heap.get?_update_self _ hS' rfl) fun v' h'' tk'' hP' hk'' => ?_⟩
  exact hR v' h'' tk'' hP' fun b o hbI hbS e => hk'' b o hbI hbS (keepI b o hbS (hk' b o (by simpa using hbI) e))
theorem maxv_loop (hh : A.in1.handled = none) (hlI : l ≠ I) (hSI : S ≠ I) (hSl : S ≠ l) (bt : Nat → Nat → Bool) (hcmp : CmpAt K .Gt A.in1 vs bt)
    (hK : ∀ h h', K h → (∀ b o, b ≠ I → b ≠ S → h.get? b = some o → h'.get? b = some o) → K h') :
    ∀ (k j : Nat) (s : Shared) (vb : Value) (c : Nat), vs.length - (j + 1) = k → j + 1 ≤ vs.length → s.heap.IsListIter I l (j + 1) → s.heap.IsList l vs.toArray → K s.heap → vs[argBest bt j]? = some vb →
    s.heap.get? S = some { cls := .type "list", dict := none, data := .seq #[vb, vb] c, slots := #[] } →
    (∀ v h' tk, vs[argBest bt (vs.length - 1)]? = some v → (∀ b o, b ≠ I → b ≠ S → s.heap.get? b = some o → h'.get? b = some o) → R (.ok (.ret v)) { s with heap := h', toks := tk }) →
    codeAny (model prog w) A (.builtin "max.loop" ⟨[.ref I, .none, .ref S], []⟩) R s := by
  have hname : (toString "max" ++ toString ".loop" : String) = "max.loop" := by decide
  have W := Walks.list (prog := prog) (w := w) (A := A.in1) hh I l hlI vs.toArray
  have hsz : vs.toArray.size = vs.length := List.size_toArray ..
  intro k
  induction k with
  | zero =>
    intro j s vb c hk hj hit hl hKs hb hS hR
    refine codeAny_builtin PySem.F.entry_max_loop ?_
    rw [Around.under_plainId PySem.F.plain_max_loop _]
    show wpAny _ A.in1 (seqItems? (.ref S) >>= _) _ _ s
    refine wpAny_bind (wpAny_seqItems hS rfl ?_)
    show wpAny _ A.in1 (tryCatch (pyNext (.ref I)) _ >>= _) _ _ s
    have e0 : j + 1 = vs.toArray.size := by omega
    refine wpAny_bind (wpAny_tryCatch (W.done s _ _ ⟨e0 ▸ hit, hl⟩ fun h' tk hk' => ?_))
    have hS' := hk' S _ (by simpa using hSI) hS
    show wpAny _ A.in1 (updateSeq S (fun _ => #[]) >>= _) _ _ _
    refine wpAny_bind (wpAny_updateSeq hS' rfl (wpAny_bind (wpAny_letGo (wpAny_pure ?_))))
    have e1 : vs.length - 1 = j := by omega
    refine hR vb _ tk (by rw [e1]; exact hb) fun b o hbI hbS e => (Heap.get?_update_other _ _ (Ne.symm hbS)).trans (hk' b o (by simpa using hbI) e)
  | succ k ih =>
    intro j s vb c hk hj hit hl hKs hb hS hR
    have hlt : j + 1 < vs.length := by omega
    refine codeAny_builtin PySem.F.entry_max_loop ?_
    rw [Around.under_plainId PySem.F.plain_max_loop _]
    show wpAny _ A.in1 (seqItems? (.ref S) >>= _) _ _ s
    refine wpAny_bind (wpAny_seqItems hS rfl ?_)
    show wpAny _ A.in1 (tryCatch (pyNext (.ref I)) _ >>= _) _ _ s
    refine wpAny_bind (wpAny_tryCatch (W.item (j + 1) s _ _ (by omega) ⟨hit, hl⟩ fun v h' tk hP hst' hk' => ?_))
    have hv : vs[j + 1]? = some v := by simpa using hP
    have hS' := hk' S _ (by simpa using hSI) hS
    have hK' : K h' := hK _ _ hKs fun b o hbI _ e => hk' b o (by simpa using hbI) e
    show wpAny _ A.in1 (tryCatch (holding [v, v] (richCompare .Gt v vb >>= _)) _ >>= _) _ _ _
    refine wpAny_bind (wpAny_tryCatch (wpAny_holding (wpAny_bind (hcmp ⟨h', s.gens, s.drawn, tk, s.os⟩ (j + 1) (argBest bt j) v vb hK' hv hb prog w _ _ ?_))))
    refine wpAny_bind (wpAny_holding (wpAny_truthy_bool ?_))
    refine wpAny_bind (wpAny_letGo (wpAny_pure ?_))
    cases hbt : bt (j + 1) (argBest bt j) with
    | true =>
      simp only [if_true]
      refine wpAny_bind (wpAny_updateSeq hS' rfl (wpAny_bind (wpAny_letGo ?_)))
      rw [hname]
      have keepI : ∀ b o, b ≠ S → h'.get? b = some o → (h'.update S (Obj.mapSeq fun _ => #[v, v])).get? b = some o := fun b o hb e => (Heap.get?_update_other _ _ (Ne.symm hb)).trans e
      refine wpAny_pure ⟨plainId_quiet PySem.F.plain_max_loop _, ih (j + 1) _ v _ (by omega) hlt (hst'.1.at fun o e => keepI _ o (Ne.symm hSI) e) (hst'.2.at fun o e => keepI _ o (Ne.symm hSl) e) (hK _ _ hK' fun b o _ hbS e => keepI b o hbS e)
        (by simp only [argBest, hbt, if_true]; exact hv) (Heap.get?_update_self _ hS' rfl) fun v' h'' tk'' hP' hk'' => ?_⟩
      exact hR v' h'' tk'' hP' fun b o hbI hbS e => hk'' b o hbI hbS (keepI b o hbS (hk' b o (by simpa using hbI) e))
    | false =>
      simp only [Bool.false_eq_true, if_false]
      refine wpAny_bind (wpAny_letGo ?_)
      rw [hname]
      refine wpAny_pure ⟨plainId_quiet PySem.F.plain_max_loop _, ih (j + 1) _ vb c (by omega) hlt hst'.1 hst'.2 hK' (by simp only [argBest, hbt, Bool.false_eq_true, if_false]; exact hb) hS' fun v' h'' tk'' hP' hk'' => ?_⟩
      exact hR v' h'' tk'' hP' fun b o hbI hbS e => hk'' b o hbI hbS (hk' b o (by simpa using hbI) e)
theorem maxv_first (hh : A.in1.handled = none) (hlI : l ≠ I) (hSI : S ≠ I) (hSl : S ≠ l) (bt : Nat → Nat → Bool) (hcmp : CmpAt K .Gt A.in1 vs bt)
    (hK : ∀ h h', K h → (∀ b o, b ≠ I → b ≠ S → h.get? b = some o → h'.get? b = some o) → K h') {s : Shared} {c : Nat} (hn : 0 < vs.length) (hit : s.heap.IsListIter I l 0) (hl : s.heap.IsList l vs.toArray) (hKs : K s.heap)
    (hS : s.heap.get? S = some { cls := .type "list", dict := none, data := .seq #[] c, slots := #[] })
    (hR : ∀ v h' tk, vs[argBest bt (vs.length - 1)]? = some v → (∀ b o, b ≠ I → b ≠ S → s.heap.get? b = some o → h'.get? b = some o) → R (.ok (.ret v)) { s with heap := h', toks := tk }) :
    codeAny (model prog w) A (.builtin "max.loop" ⟨[.ref I, .none, .ref S], []⟩) R s := by
  have hname : (toString "max" ++ toString ".loop" : String) = "max.loop" := by decide
  have W := Walks.list (prog := prog) (w := w) (A := A.in1) hh I l hlI vs.toArray
  have hsz : vs.toArray.size = vs.length := List.size_toArray ..
  refine codeAny_builtin PySem.F.entry_max_loop ?_
  rw [Around.under_plainId PySem.F.plain_max_loop _]
  show wpAny _ A.in1 (seqItems? (.ref S) >>= _) _ _ s
  refine wpAny_bind (wpAny_seqItems hS rfl ?_)
  show wpAny _ A.in1 (tryCatch (pyNext (.ref I)) _ >>= _) _ _ s
  refine wpAny_bind (wpAny_tryCatch (W.item 0 s _ _ (by omega) ⟨hit, hl⟩ fun v h' tk hP hst' hk' => ?_))
  have hv : vs[0]? = some v := by simpa using hP
  have hS' := hk' S _ (by simpa using hSI) hS
  have hK' : K h' := hK _ _ hKs fun b o hbI _ e => hk' b o (by simpa using hbI) e
  have keepI : ∀ b o, b ≠ S → h'.get? b = some o → (h'.update S (Obj.mapSeq fun _ => #[v, v])).get? b = some o := fun b o hb e => (Heap.get?_update_other _ _ (Ne.symm hb)).trans e
  show wpAny _ A.in1 (updateSeq S (fun _ => #[v, v]) >>= _) _ _ _
  refine wpAny_bind (wpAny_updateSeq hS' rfl ?_)
  rw [hname]
  refine wpAny_pure ⟨plainId_quiet PySem.F.plain_max_loop _, maxv_loop hh hlI hSI hSl bt hcmp hK _ 0 _ v _ rfl (by omega) (hst'.1.at fun o e => keepI _ o (Ne.symm hSI) e) (hst'.2.at fun o e => keepI _ o (Ne.symm hSl) e) (hK _ _ hK' fun b o _ hbS e => keepI b o hbS e)
    (by simpa [argBest] using hv) (Heap.get?_update_self _ hS' rfl) fun v' h'' tk'' hP' hk'' => ?_⟩
  exact hR v' h'' tk'' hP' fun b o hbI hbS e => hk'' b o hbI hbS (keepI b o hbS (hk' b o (by simpa using hbI) e))
theorem removeAt_loop (l : Addr) (items : Array Value) (n : Nat) (x : Value) (e : Value → Bool) (j : Nat) (hj : j < items.size) (hit : e items[j] = true) (k : Nat) (hs1 : items.size ≤ sizeLine) :
    ∀ i : Nat, j - i = k → i ≤ j → (∀ m (hm : m < items.size), i ≤ m → m < j → e items[m] = false) → Meets (Builtin.«list.remove.loop» ⟨[.ref l, x, rawInt i], []⟩)
      (fun A R s => s.heap.get? l = some { cls := .type "list", dict := none, data := .seq items n, slots := #[] } ∧ (∀ y, y ∈ items → SeqAt.EqAt A.in1 s y x (e y)) ∧ R (.ok (.ret .none)) { s with heap := s.heap.update l (Obj.mapSeq fun xs => xs.eraseIdxIfInBounds j) }) := by
  induction k with
  | zero =>
    intro i hk hij hno prog w A R s h
    obtain ⟨hp, g, d, tk, os⟩ := s; obtain ⟨hl, he, h⟩ := h
    have hij' : i = j := by omega
    subst hij'
    wp_walk using wpAny_loadPart' hl
    have hi : items[((i : Nat) : Int).toNat]? = some items[i] := by simp [hj]
    rw [hi]
    refine wpAny_bind (he _ (Array.getElem_mem hj) prog w _ _ ?_)
    rw [hit]
    have hz' : (items.eraseIdxIfInBounds i).size ≤ sizeLine + 1 := Nat.le_trans (size_erased items _) (Nat.le_succ_of_le hs1)
    wp_walk using (wpAny_updateSeq hl rfl (hz := hs1) (_hz' := hz')), wpAny_loadPart' hl
    simpa using h
  | succ k ih =>
    intro i hk hij hno prog w A R s h
    obtain ⟨hp, g, d, tk, os⟩ := s; obtain ⟨hl, he, h⟩ := h
    have hlt : i < items.size := by omega
    wp_walk using wpAny_loadPart' hl
    have hi : items[((i : Nat) : Int).toNat]? = some items[i] := by simp [hlt]
    have hc : ((i : Int) + 1) = ((i + 1 : Nat) : Int) := by push_cast; rfl
    rw [hi]
    refine wpAny_bind (he _ (Array.getElem_mem hlt) prog w _ _ ?_)
    rw [hno i hlt (Nat.le_refl _) (by omega)]
    wp_walk
    rw [hc]
    exact ⟨plainId_quiet plain_remove_loop _, codeAny_builtin entry_remove_loop (by
      rw [Around.under_plainId plain_remove_loop _]
      exact ih (i + 1) (by omega) (by omega) (fun m hm h1 h2 => hno m hm (by omega) h2) prog w A R _ ⟨hl, he, h⟩)⟩
theorem removeAt (l : Addr) (items : Array Value) (n : Nat) (x : Value) (e : Value → Bool) (j : Nat) (hj : j < items.size) (hit : e items[j] = true) (hno : ∀ m (hm : m < items.size), m < j → e items[m] = false) (hs1 : items.size ≤ sizeLine) :
    Meets (Builtin.«list.remove» ⟨[.ref l, x], []⟩)
      (fun A R s => s.heap.get? l = some { cls := .type "list", dict := none, data := .seq items n, slots := #[] } ∧ (∀ y, y ∈ items → SeqAt.EqAt A.in1 s y x (e y)) ∧ R (.ok (.ret .none)) { s with heap := s.heap.update l (Obj.mapSeq fun xs => xs.eraseIdxIfInBounds j) }) := by
  intro prog w A R s h
  obtain ⟨hp, g, d, tk, os⟩ := s; obtain ⟨hl, he, h⟩ := h
  wp_walk using wpAny_loadPart' hl
  exact ⟨plainId_quiet plain_remove_loop _, codeAny_builtin entry_remove_loop (by
    rw [Around.under_plainId plain_remove_loop _]
    exact removeAt_loop l items n x e j hj hit _ hs1 0 rfl (Nat.zero_le _) (fun m hm _ h2 => hno m hm h2) prog w A R _ ⟨hl, he, h⟩)⟩
end
section
variable {prog : Program} {w : World} {A : Around} {E Q : Value → Shared → Prop} {s : Shared} {h₀ : Heap} {L l : Addr} {m : Str → Option Value} {news news' : List (Addr × Obj)} {vs : List Value} {k : Nat}
theorem min_list (hh : A.in1.handled = none) (bt : Nat → Nat → Bool) (hcmp : CmpAt (fun h => News h₀ L h news) .Lt A.in1 vs bt) (F : Fr h₀ L s.heap m) (N : News h₀ L s.heap news) (hm : (l, listOf vs.toArray k) ∈ news) (hn : 0 < vs.length)
    (h : ∀ v h' tk, vs[argBest bt (vs.length - 1)]? = some v → Fr h₀ L h' m → News h₀ L h' news → Q v { s with heap := h', toks := tk }) : wpAny (model prog w) A (call (.builtin "min") [.ref l]) Q E s := by
  have hname : (toString "min" ++ toString ".loop" : String) = "min.loop" := by decide
  refine call_function_tree PySem.F.kind_min PySem.F.plain_min PySem.F.entry_min (PySem.F.args_min1 _) ?_
  show wpAny _ A.in1 (Builtin.Builtins.bindParams "min" ["key", "default"] 0 ⟨[], []⟩ >>= _) _ _ s
  refine wpAny_bind (wpAny_of_eq (show Builtin.Builtins.bindParams "min" ["key", "default"] 0 ⟨[], []⟩ = pure [none, none] from rfl) ?_)
  refine wpAny_bind (wpAny_pure ?_)
  have hls : s.heap.IsList l vs.toArray := ⟨_, (N _ hm).1, rfl, _, rfl⟩
  have lt : ∀ p ∈ news, p.1 < s.heap.objs.size := fun p hp => Heap.lt_size (N p hp).1
  refine wpAny_bind (wpAny_pyIter_list hls ?_)
  refine wpAny_bind (wpAny_newObj_type ?_)
  rw [hname]
  have hS : (s.heap.push { cls := .type "list_iterator", data := .fields #[.ref l, .int 0 0] }).objs.size = s.heap.objs.size + 1 := by rw [Heap.size_push]
  have hlI : l ≠ s.heap.objs.size := Nat.ne_of_lt (lt _ hm)
  have hSI : (s.heap.push { cls := .type "list_iterator", data := .fields #[.ref l, .int 0 0] }).objs.size ≠ s.heap.objs.size := by rw [hS]; exact Nat.ne_of_gt (Nat.lt_succ_self _)
  have hSl : (s.heap.push { cls := .type "list_iterator", data := .fields #[.ref l, .int 0 0] }).objs.size ≠ l := by rw [hS]; exact Nat.ne_of_gt (Nat.lt_succ_of_lt (lt _ hm))
  have up : ∀ b o, s.heap.get? b = some o → ((s.heap.push { cls := .type "list_iterator", data := .fields #[.ref l, .int 0 0] }).push { cls := .type "list", dict := none, data := .seq ([] : List Value).toArray }).get? b = some o := fun b o e => Heap.get?_push_of_some _ (Heap.get?_push_of_some _ e)
  refine wpAny_pure ⟨plainId_quiet PySem.F.plain_min_loop _, minv_first hh hlI hSI hSl bt hcmp ?_ hn ?_ (hls.at fun o e => up _ o e) (N.grown up) (Heap.get?_push_size _ rfl) fun v h' tk hv hk => ?_⟩
  · intro g g' Ng hk p hp
    refine ⟨hk _ _ (Nat.ne_of_lt (lt p hp)) ?_ (Ng p hp).1, (Ng p hp).2⟩
    rw [hS]; exact Nat.ne_of_lt (Nat.lt_succ_of_lt (lt p hp))
  · exact ⟨_, Heap.get?_push_of_some _ (Heap.get?_push_size _ rfl), rfl, rfl⟩
  · have old : ∀ b o, s.heap.get? b = some o → h'.get? b = some o := fun b o e => hk b o (Nat.ne_of_lt (Heap.lt_size e)) (by rw [hS]; exact Nat.ne_of_lt (Nat.lt_succ_of_lt (Heap.lt_size e))) (up b o e)
    exact h v h' tk hv (F.keeps old) (N.grown old)
theorem max_list (hh : A.in1.handled = none) (bt : Nat → Nat → Bool) (hcmp : CmpAt (fun h => News h₀ L h news) .Gt A.in1 vs bt) (F : Fr h₀ L s.heap m) (N : News h₀ L s.heap news) (hm : (l, listOf vs.toArray k) ∈ news) (hn : 0 < vs.length)
    (h : ∀ v h' tk, vs[argBest bt (vs.length - 1)]? = some v → Fr h₀ L h' m → News h₀ L h' news → Q v { s with heap := h', toks := tk }) : wpAny (model prog w) A (call (.builtin "max") [.ref l]) Q E s := by
  have hname : (toString "max" ++ toString ".loop" : String) = "max.loop" := by decide
  refine call_function_tree PySem.F.kind_max PySem.F.plain_max PySem.F.entry_max (PySem.F.args_max1 _) ?_
  show wpAny _ A.in1 (Builtin.Builtins.bindParams "max" ["key", "default"] 0 ⟨[], []⟩ >>= _) _ _ s
  refine wpAny_bind (wpAny_of_eq (show Builtin.Builtins.bindParams "max" ["key", "default"] 0 ⟨[], []⟩ = pure [none, none] from rfl) ?_)
  refine wpAny_bind (wpAny_pure ?_)
  have hls : s.heap.IsList l vs.toArray := ⟨_, (N _ hm).1, rfl, _, rfl⟩
  have lt : ∀ p ∈ news, p.1 < s.heap.objs.size := fun p hp => Heap.lt_size (N p hp).1
  refine wpAny_bind (wpAny_pyIter_list hls ?_)
  refine wpAny_bind (wpAny_newObj_type ?_)
  rw [hname]
  have hS : (s.heap.push { cls := .type "list_iterator", data := .fields #[.ref l, .int 0 0] }).objs.size = s.heap.objs.size + 1 := by rw [Heap.size_push]
  have hlI : l ≠ s.heap.objs.size := Nat.ne_of_lt (lt _ hm)
  have hSI : (s.heap.push { cls := .type "list_iterator", data := .fields #[.ref l, .int 0 0] }).objs.size ≠ s.heap.objs.size := by rw [hS]; exact Nat.ne_of_gt (Nat.lt_succ_self _)
  have hSl : (s.heap.push { cls := .type "list_iterator", data := .fields #[.ref l, .int 0 0] }).objs.size ≠ l := by rw [hS]; exact Nat.ne_of_gt (Nat.lt_succ_of_lt (lt _ hm))
  have up : ∀ b o, s.heap.get? b = some o → ((s.heap.push { cls := .type "list_iterator", data := .fields #[.ref l, .int 0 0] }).push { cls := .type "list", dict := none, data := .seq ([] : List Value).toArray }).get? b = some o := fun b o e => Heap.get?_push_of_some _ (Heap.get?_push_of_some _ e)
  refine wpAny_pure ⟨plainId_quiet PySem.F.plain_max_loop _, maxv_first hh hlI hSI hSl bt hcmp ?_ hn ?_ (hls.at fun o e => up _ o e) (N.grown up) (Heap.get?_push_size _ rfl) fun v h' tk hv hk => ?_⟩
  · intro g g' Ng hk p hp
    refine ⟨hk _ _ (Nat.ne_of_lt (lt p hp)) ?_ (Ng p hp).1, (Ng p hp).2⟩
    rw [hS]; exact Nat.ne_of_lt (Nat.lt_succ_of_lt (lt p hp))
  · exact ⟨_, Heap.get?_push_of_some _ (Heap.get?_push_size _ rfl), rfl, rfl⟩
  · have old : ∀ b o, s.heap.get? b = some o → h'.get? b = some o := fun b o e => hk b o (Nat.ne_of_lt (Heap.lt_size e)) (by rw [hS]; exact Nat.ne_of_lt (Nat.lt_succ_of_lt (Heap.lt_size e))) (up b o e)
    exact h v h' tk hv (F.keeps old) (N.grown old)
theorem remove_list' {p q : List Value} {y x : Value} {n : Nat} (e : Value → Bool) (F : Fr h₀ L s.heap m) (N : News h₀ L s.heap news) (he : ∀ z, z ∈ p ++ y :: q → SeqAt.EqAt A.in1 s z x (e z)) (hit : e y = true) (hno : ∀ z ∈ p, e z = false)
    (hz : (p ++ y :: q).length ≤ 1000000) (U : Upd l (listOf (p ++ y :: q).toArray n) (listOf (p ++ q).toArray (n + 1)) news news')
    (h : ∀ h', Fr h₀ L h' m → News h₀ L h' news' → Q .none { s with heap := h' }) : wpAny (model prog w) A (call (.builtin "list.remove") [.ref l, x]) Q E s := by
  have hc9 := sizeLine_eq
  obtain ⟨pre, post, rfl, rfl, a, b⟩ := U.split
  have z := N (l, listOf (p ++ y :: q).toArray n) (List.mem_append.mpr (.inr (.head _)))
  have hlen : (p ++ y :: q).length = p.length + (q.length + 1) := by rw [List.length_append, List.length_cons]
  have hj : p.length < (p ++ y :: q).toArray.size := by rw [List.size_toArray]; omega
  have hy : (p ++ y :: q).toArray[p.length] = y := by simp
  refine call_meets PySem.F.slot_list_remove ⟨_, z.1, rfl⟩ PySem.F.entry_list_remove (PySem.F.args_list_remove_2 _ _) (removeAt l _ n x e p.length hj (by rw [hy]; exact hit) (fun i hi hlt => ?_) (by rw [List.size_toArray]; omega))
    ⟨z.1, fun y hy => he y (by simpa using hy), h _ (F.change (Heap.SameBut.update ..) z.2.1 z.2.2) (kl_turn _ N a b (kl_erase p q y) ?_)⟩
  · have e9 : (p ++ y :: q).toArray[i] = p[i] := by simp [hlt]
    rw [e9]; exact hno _ (List.getElem_mem _)
  · rw [List.size_toArray, List.size_toArray]; simp
end
end Mine
end SK2
section OML
local macro_rules | `(tactic| omega (config := {})) => `(tactic| lia)
section SB0
open PySem PySem.W PyProof.Rows PySem.Calls
namespace Mine
abbrev Led := List (Addr × Obj)
abbrev pg : Program := PySem.Challenge.rw_ik0218_01.row.prog
/-- a contract of a def at address f -/
noncomputable def Con (w : World) (mean : ExcName → Option Value) (mg mb : Str → Option Value) (f : Addr) (args : List Value) (led : Led) (D U : Nat) (post : Value → Led → Prop) : Prop :=
  ∀ (dp un : Nat) (gd : Option (List Code)) (cn : Str) (cs : Scope) (a : Addr) (ccd : Value) (cl : List (Str × Addr)) (outer : List Env) (A₀ : Around) (base h₀ : Heap) (L : Addr) (m : Str → Option Value) (s : Shared)
    (Q E : Value → Shared → Prop),
    Below A₀ base outer h₀ → Fr h₀ L s.heap m → (hd0.heap_1 w.params).In h₀ → News h₀ L s.heap led → Top vw (looseW vw []) mean mg mb h₀ → cs.kind = .function →
    dp + D < recursionLimit → un + U < cLine →
    (∀ r led' h' tk', post r led' → Fr h₀ L h' m → News h₀ L h' led' → Q r { s with heap := h', toks := tk' }) →
    wpAny (model pg w) (ktrTop dp un gd cn cs L a ccd cl outer) (call (.ref f) args) Q E s
theorem Con.gen {w : World} {mean : ExcName → Option Value} {mg mb : Str → Option Value} {f : Addr} {args : List Value} {led : Led} {D U : Nat} {post : Value → Led → Prop} (h : ∀ P : Value → Led → Prop, (∀ r l, post r l → P r l) → Con w mean mg mb f args led D U P) : Con w mean mg mb f args led D U post := h post fun _ _ x => x
/-- how a body ends -/
inductive Ends (g : Heap) (L : Addr) (s₀ : Shared) (post : Value → Led → Prop) (v : Value) (s' : Shared) : Prop
  | mk (h' : Heap) (tk : Nat) (m' : Str → Option Value) (led' : Led) (e : s' = { s₀ with heap := h', toks := tk }) (F : Fr g L h' m') (N : News g L h' led') (p : post v led')
theorem Ends.intro {g : Heap} {L : Addr} {s₀ : Shared} {post : Value → Led → Prop} {v : Value} {h' : Heap} {tk : Nat} {m' : Str → Option Value} {now led' : Led}
    (hp : post v led') (F : Fr g L h' m') (N : News g L h' now) (hs : ∀ p ∈ led', p ∈ now) : Ends g L s₀ post v { s₀ with heap := h', toks := tk } :=
  ⟨h', tk, m', led', rfl, F, fun p h => N p (hs p h), hp⟩
theorem Con.body {w : World} {mean : ExcName → Option Value} {mg mb : Str → Option Value} {f : Addr} {args : List Value} {led : Led} {D U : Nat} {post : Value → Led → Prop}
    {name qual : Str} {params : Arguments} {body : List Stmt} {scope : Scope} {dV kV doc pm cdv ct oc : Value} {an od : Option Addr} {osl : Array (Option Value)} {binds : List (Str × Value)}
    (ho : (hd0.heap_1 w.params).lookup f = some ⟨oc, od, .func (fnOf name qual params body scope dV kV doc pm an cdv ct), osl⟩) (hcd : codeIn (hd0.heap_1 w.params) cdv qual = true)
    (hbind : bindArgs (fnOf name qual params body scope dV kV doc pm an cdv ct) ⟨args, []⟩ = pure binds) (hloc : (binds.all fun x => decide (scope.names.lookup x.1 = some .local)) = true)
    (hD : 1 ≤ D)
    (h : ∀ (dp un : Nat) (gd : Option (List Code)) (outer : List Env) (A₀ : Around) (base g : Heap) (L' : Addr) (s₀ : Shared),
      Below A₀ base outer g → Fr g L' s₀.heap (fun y => binds.reverse.lookup y) → (hd0.heap_1 w.params).In g → News g L' s₀.heap led → Top vw (looseW vw []) mean mg mb g →
      dp + D < recursionLimit + 1 → un + U < cLine + 3 →
      wpAny (model pg w) (ktrTop dp un gd qual scope L' f cdv [] outer) (execs body (envOf qual scope L' f cdv))
        (fun fl s' => Ends g L' s₀ post (match fl with | .ret v => v | _ => .none) s') (fun _ _ => False) s₀)
    (hco : scope.isCoroutine = false) (hgen : scope.isGenerator = false) (hk : scope.kind = .function) (hcell : ∀ x ∈ scope.names, x.2 ≠ .cell) :
    Con w mean mg mb f args led D U post := by
  intro dp un gd cn cs a ccd cl outer A₀ base h₀ L m s Q E B F X N T hkk hdp hun hret
  refine wpAny_call ?_
  refine code_def B F X N T (A := ktrTop dp un gd cn cs L a ccd cl outer) rfl rfl hkk ho hcd (by show dp < recursionLimit; omega) (BindsTo.of_eq hbind) (locs hloc) ?_ hco hgen hk hcell
  intro g L' h₁ FG F' N' B' X' T'
  have hb := h (dp + 1) (un + 3) gd (envX cn cs L a ccd cl :: outer) _ base g L' { s with heap := h₁, toks := s.toks + binds.length } B' F' X' N' T' (by omega) (by omega)
  refine wpAny_mono hb ?_ (fun _ _ x => x.elim)
  rintro fl s' ⟨h', tk, m', led', rfl, F₂, N₂, hp⟩
  exact leaveK_ F₂ N₂ fun k1 k2 => hret _ _ _ _ hp k1 k2
end Mine
end SB0
section SB1
open PySem PySem.W PyProof.Rows PySem.Calls
namespace Mine
section
variable {prog : Program} {w : World} {A : Around} {E : Value → Shared → Prop} {s : Shared} {h₀ : Heap} {L : Addr} {m : Str → Option Value} {news : Led}
theorem code_meets {id : String} {B : Builtin} {args : List Value} {S : PySem.Spec} {R : Result → Shared → Prop} (kind : builtinKind id = none) (plain : plainId id = true)
    (entry : entryFor table id = some B) (ok : argsOk id ⟨args, []⟩) (g : Meets (B ⟨args, []⟩) S) (h : S A R s) : codeAny (model prog w) A (.call (.builtin id) ⟨args, []⟩) R s := by
  refine codeAny_call_builtin plain entry ?_
  have hfin := g prog w A R s h
  simp only [checkBuiltinCall, kind]
  cases hsig : Manifest.signature? id with
  | none => exact wpAny_pure hfin
  | some sig =>
    simp only [argsOk, hsig] at ok
    have h2 : Bind.checkArgs id sig ⟨args, []⟩ = pure () := ok
    show wpAny _ _ (Bind.checkArgs id sig ⟨args, []⟩) _ _ s
    rw [h2]; exact wpAny_pure hfin
theorem issub_nested_str (k : Value) (hk : k = .int 1 0) : Meets (Builtin.«issubclass.nested» ⟨[.type "str", .type "str", k], []⟩) (fun _ R s => R (.ok (.ret (.bool true))) s) := by
  intro prog w A R s hR
  subst hk
  have hself : isSubtype (.type "str") (.type "str") = pure true := by rw [isSubtype_type]; kernel_rfl
  have hm : (Value.type ((Manifest.find? "str").elim "type" (·.metatype)) == Value.type "type") = true := by decide +kernel
  unfold Builtin.«issubclass.nested»
  repeat (any_goals (first | assumption | (rw [if_pos hm]) | (rw [hself]) | wp_step))
theorem issub_text {T : Addr} {Q : Value → Shared → Prop} (N : News h₀ L s.heap news) (hm : (T, ({ cls := .type "tuple", data := .seq [Value.type "str", Value.type "bytes"].toArray } : Obj)) ∈ news) (h : Q (.bool true) s) :
    wpAny (model prog w) A (call (.builtin "issubclass") [.type "str", .ref T]) Q E s := by
  have hT := (N _ hm).1
  refine call_issubclass (S := fun _ R s => s.heap.get? T = some ({ cls := .type "tuple", data := .seq [Value.type "str", Value.type "bytes"].toArray } : Obj) ∧ R (.ok (.ret (.bool true))) s) (fun _ _ _ _ _ hs => ?_) ⟨hT, h⟩
  refine issubclass_outer ?_
  obtain ⟨hT', hR⟩ := hs
  have f1 := F.isi_sub_tuple
  unfold Builtin.«issubclass.nested»
  repeat (any_goals (first | assumption | wp_step))
  show codeAny _ _ (Code.call (Value.builtin "issubclass.nested") { pos := [Value.type "str", Value.type "str", rawInt 1] }) _ _
  refine code_meets (by decide +kernel) (by decide +kernel) F.entry_issubclass_nested (by unfold argsOk; kernel_rfl) (issub_nested_str _ rfl) ?_
  show wpAny _ _ (truthy (.bool true) >>= _) _ _ _
  refine wpAny_bind (m := truthy (.bool true)) (wpAny_pure ?_)
  repeat (any_goals (first | assumption | wp_step))
end
end Mine
end SB1
section SB2
open PySem PySem.W PyProof.Rows PySem.Calls
namespace Mine
theorem Con.use {w : World} {mean : ExcName → Option Value} {mg mb : Str → Option Value} {f : Addr} {args : List Value} {led : Led} {D U : Nat} {post : Value → Led → Prop} (C : Con w mean mg mb f args led D U post)
    {dp un : Nat} {gd : Option (List Code)} {cn : Str} {cs : Scope} {a : Addr} {ccd : Value} {cl : List (Str × Addr)} {outer : List Env} {A₀ : Around} {base h₀ : Heap} {L : Addr} {m : Str → Option Value} {s : Shared} {Q E : Value → Shared → Prop}
    (B : Below A₀ base outer h₀) (F : Fr h₀ L s.heap m) (X : (hd0.heap_1 w.params).In h₀) (N : News h₀ L s.heap led) (T : Top vw (looseW vw []) mean mg mb h₀) (hk : cs.kind = .function)
    (hd : dp + D < recursionLimit) (hu : un + U < cLine)
    (h : ∀ r led' h' tk', post r led' → Fr h₀ L h' m → News h₀ L h' led' → Q r { s with heap := h', toks := tk' }) :
    wpAny (model pg w) (ktrTop dp un gd cn cs L a ccd cl outer) (call (.ref f) args) Q E s := C dp un gd cn cs a ccd cl outer A₀ base h₀ L m s Q E B F X N T hk hd hu h
/-- the call hands back v, the ledger as it was -/
theorem Con.use_val {w : World} {mean : ExcName → Option Value} {mg mb : Str → Option Value} {f : Addr} {args : List Value} {led : Led} {D U : Nat} {v : Value} (C : Con w mean mg mb f args led D U (fun r led' => r = v ∧ led' = led))
    {dp un : Nat} {gd : Option (List Code)} {cn : Str} {cs : Scope} {a : Addr} {ccd : Value} {cl : List (Str × Addr)} {outer : List Env} {A₀ : Around} {base h₀ : Heap} {L : Addr} {m : Str → Option Value} {s : Shared} {Q E : Value → Shared → Prop}
    (B : Below A₀ base outer h₀) (F : Fr h₀ L s.heap m) (X : (hd0.heap_1 w.params).In h₀) (N : News h₀ L s.heap led) (T : Top vw (looseW vw []) mean mg mb h₀) (hk : cs.kind = .function)
    (hd : dp + D < recursionLimit) (hu : un + U < cLine)
    (h : ∀ h' tk', Fr h₀ L h' m → News h₀ L h' led → Q v { s with heap := h', toks := tk' }) :
    wpAny (model pg w) (ktrTop dp un gd cn cs L a ccd cl outer) (call (.ref f) args) Q E s :=
  C.use B F X N T hk hd hu (by rintro r led' h' tk' ⟨rfl, rfl⟩ F' N'; exact h h' tk' F' N')
/-- the call hands back V of some token, the ledger as it was -/
theorem Con.use_tok {w : World} {mean : ExcName → Option Value} {mg mb : Str → Option Value} {f : Addr} {args : List Value} {led : Led} {D U : Nat} {V : Tok → Value} (C : Con w mean mg mb f args led D U (fun r led' => (∃ t', r = V t') ∧ led' = led))
    {dp un : Nat} {gd : Option (List Code)} {cn : Str} {cs : Scope} {a : Addr} {ccd : Value} {cl : List (Str × Addr)} {outer : List Env} {A₀ : Around} {base h₀ : Heap} {L : Addr} {m : Str → Option Value} {s : Shared} {Q E : Value → Shared → Prop}
    (B : Below A₀ base outer h₀) (F : Fr h₀ L s.heap m) (X : (hd0.heap_1 w.params).In h₀) (N : News h₀ L s.heap led) (T : Top vw (looseW vw []) mean mg mb h₀) (hk : cs.kind = .function)
    (hd : dp + D < recursionLimit) (hu : un + U < cLine)
    (h : ∀ t' h' tk', Fr h₀ L h' m → News h₀ L h' led → Q (V t') { s with heap := h', toks := tk' }) :
    wpAny (model pg w) (ktrTop dp un gd cn cs L a ccd cl outer) (call (.ref f) args) Q E s :=
  C.use B F X N T hk hd hu (by rintro r led' h' tk' ⟨⟨t', rfl⟩, rfl⟩ F' N'; exact h t' h' tk' F' N')
theorem Con.mono {w : World} {mean : ExcName → Option Value} {mg mb : Str → Option Value} {f : Addr} {args : List Value} {led : Led} {D U : Nat} {post post' : Value → Led → Prop} (C : Con w mean mg mb f args led D U post)
    (h : ∀ v l, post v l → post' v l) : Con w mean mg mb f args led D U post' :=
  fun dp un gd cn cs a ccd cl outer A₀ base h₀ L m s Q E B F X N T hk hd hu hr => C dp un gd cn cs a ccd cl outer A₀ base h₀ L m s Q E B F X N T hk hd hu fun r l h' tk hp => hr r l h' tk (h _ _ hp)
theorem Con.sub {w : World} {mean : ExcName → Option Value} {mg mb : Str → Option Value} {f : Addr} {args : List Value} {led led₀ : Led} {D U : Nat} {post : Value → Led → Prop} (C : Con w mean mg mb f args led D U post)
    (h : ∀ p ∈ led, p ∈ led₀) : Con w mean mg mb f args led₀ D U post :=
  fun dp un gd cn cs a ccd cl outer A₀ base h₀ L m s Q E B F X N T hk hd hu hr => C dp un gd cn cs a ccd cl outer A₀ base h₀ L m s Q E B F X (fun p hp => N p (h p hp)) T hk hd hu hr
theorem Con.bodyStar {w : World} {mean : ExcName → Option Value} {mg mb : Str → Option Value} {f : Addr} {args vs : List Value} {led : Led} {D U : Nat} {post : Value → Led → Prop}
    {name qual : Str} {params : Arguments} {body : List Stmt} {scope : Scope} {dV kV doc pm cdv ct oc : Value} {an od : Option Addr} {osl : Array (Option Value)} {binds : Addr → List (Str × Value)}
    (ho : (hd0.heap_1 w.params).lookup f = some ⟨oc, od, .func (fnOf name qual params body scope dV kV doc pm an cdv ct), osl⟩) (hcd : codeIn (hd0.heap_1 w.params) cdv qual = true)
    (hv : args.drop (params.posonlyargs.length + params.args.length) = vs)
    (hp : peek1 (hd0.heap_1 w.params) ⟨pg, w.params⟩ (bindArgs (fnOf name qual params body scope dV kV doc pm an cdv ct) ⟨args, []⟩) = some (({ cls := .type "tuple", data := .seq vs.toArray } : Obj), fun D => some (binds D)))
    (hloc : ∀ D, ((binds D).all fun x => decide (scope.names.lookup x.1 = some .local)) = true)
    (hD : 1 ≤ D)
    (h : ∀ (T : Addr) (dp un : Nat) (gd : Option (List Code)) (outer : List Env) (A₀ : Around) (base g : Heap) (L' : Addr) (s₀ : Shared), (∀ p ∈ led, p.1 < T) →
      Below A₀ base outer g → Fr g L' s₀.heap (fun y => (binds T).reverse.lookup y) → (hd0.heap_1 w.params).In g → News g L' s₀.heap ((T, ({ cls := .type "tuple", data := .seq vs.toArray } : Obj)) :: led) → Top vw (looseW vw []) mean mg mb g →
      dp + D < recursionLimit + 1 → un + U < cLine + 3 →
      wpAny (model pg w) (ktrTop dp un gd qual scope L' f cdv [] outer) (execs body (envOf qual scope L' f cdv))
        (fun fl s' => Ends g L' s₀ post (match fl with | .ret v => v | _ => .none) s') (fun _ _ => False) s₀)
    (hco : scope.isCoroutine = false) (hgen : scope.isGenerator = false) (hk : scope.kind = .function) (hcell : ∀ x ∈ scope.names, x.2 ≠ .cell) :
    Con w mean mg mb f args led D U post := by
  intro dp un gd cn cs a ccd cl outer A₀ base h₀ L m s Q E B F X N T hkk hdp hun hret
  refine wpAny_call ?_
  refine kp_rest (args := ⟨args, []⟩) B F X N T (A := ktrTop dp un gd cn cs L a ccd cl outer) rfl rfl hkk ho hcd (by show dp < recursionLimit; omega) hv hp (fun _ => rfl) (fun D => locs (hloc D)) ?_ hco hgen hk hcell
  intro T' g L' h₁ hlt FG F' N' B' X' T''
  have hb := h T' (dp + 1) (un + 3) gd (envX cn cs L a ccd cl :: outer) _ base g L' { s with heap := h₁, toks := s.toks + (binds T').length } hlt B' F' X' N' T'' (by omega) (by omega)
  refine wpAny_mono hb ?_ (fun _ _ x => x.elim)
  rintro fl s' ⟨h', tk, m', led', rfl, F₂, N₂, hp⟩
  exact leaveK_ F₂ N₂ fun k1 k2 => hret _ _ _ _ hp k1 k2
theorem news_sub {h₀ h : Heap} {L : Addr} {l l' : Led} (N : News h₀ L h l) (hs : ∀ p ∈ l', p ∈ l) : News h₀ L h l' := fun p hp => N p (hs p hp)
theorem strsAre_get {vs : List Value} {ws : List Str} (h : StrsAre vs ws) {i : Nat} {v : Value} (e : vs[i]? = some v) : ∃ b t, ws[i]? = some b ∧ v = .str b t := by
  induction h generalizing i with
  | nil => simp at e
  | cons y t _ ih =>
    cases i with
    | zero => simp at e; subst e; exact ⟨_, _, rfl, rfl⟩
    | succ i => simpa using ih (by simpa using e)
theorem m_cov1 {m : Str → Option Value} (a : Str) {va : Option Value} (ha : m a = va) : m = fun y => if y = a then va else m y := by
  funext y
  split
  · rename_i h; rw [h, ha]
  · rfl
theorem m_cov2 {m : Str → Option Value} (a b : Str) {va vb : Option Value} (ha : m a = va) (hb : m b = vb) : m = fun y => if y = a then va else if y = b then vb else m y := by
  funext y
  split
  · rename_i h; rw [h, ha]
  · exact congrFun (m_cov1 b hb) y
theorem m_cov3 {m : Str → Option Value} (a b c : Str) {va vb vc : Option Value} (ha : m a = va) (hb : m b = vb) (hc : m c = vc) : m = fun y => if y = a then va else if y = b then vb else if y = c then vc else m y := by
  funext y
  split
  · rename_i h; rw [h, ha]
  · exact congrFun (m_cov2 b c hb hc) y
theorem m_cov4 {m : Str → Option Value} (a b c d : Str) {va vb vc vd : Option Value} (ha : m a = va) (hb : m b = vb) (hc : m c = vc) (hd : m d = vd) : m = fun y => if y = a then va else if y = b then vb else if y = c then vc else if y = d then vd else m y := by
  funext y
  split
  · rename_i h; rw [h, ha]
  · exact congrFun (m_cov3 b c d hb hc hd) y
theorem m_keep1 {m m₀ : Str → Option Value} (a : Str) {va : Option Value} (ha : m a = va) (hr : ∀ y, y ≠ a → m y = m₀ y) : m = fun y => if y = a then va else m₀ y := by
  funext y
  split
  · rename_i h; rw [h, ha]
  · rename_i h; exact hr y h
theorem m_keep2 {m m₀ : Str → Option Value} (a b : Str) {va vb : Option Value} (ha : m a = va) (hb : m b = vb) (hr : ∀ y, y ≠ a → y ≠ b → m y = m₀ y) : m = fun y => if y = a then va else if y = b then vb else m₀ y := by
  funext y
  split
  · rename_i h; rw [h, ha]
  · split
    · rename_i h; rw [h, hb]
    · rename_i h1 h2; exact hr y h1 h2
theorem m_keep3 {m m₀ : Str → Option Value} (a b c : Str) {va vb vc : Option Value} (ha : m a = va) (hb : m b = vb) (hc : m c = vc) (hr : ∀ y, y ≠ a → y ≠ b → y ≠ c → m y = m₀ y) :
    m = fun y => if y = a then va else if y = b then vb else if y = c then vc else m₀ y := by
  funext y
  split
  · rename_i h; rw [h, ha]
  · split
    · rename_i h; rw [h, hb]
    · split
      · rename_i h; rw [h, hc]
      · rename_i h1 h2 h3; exact hr y h1 h2 h3
theorem m_keep4 {m m₀ : Str → Option Value} (a b c d : Str) {va vb vc vd : Option Value} (ha : m a = va) (hb : m b = vb) (hc : m c = vc) (hd : m d = vd) (hr : ∀ y, y ≠ a → y ≠ b → y ≠ c → y ≠ d → m y = m₀ y) :
    m = fun y => if y = a then va else if y = b then vb else if y = c then vc else if y = d then vd else m₀ y := by
  funext y
  split
  · rename_i h; rw [h, ha]
  · split
    · rename_i h; rw [h, hb]
    · split
      · rename_i h; rw [h, hc]
      · split
        · rename_i h; rw [h, hd]
        · rename_i h1 h2 h3 h4; exact hr y h1 h2 h3 h4
theorem some_str {x y : Str} {t : Tok} (h : x = y) : some (Value.str x t) = some (Value.str y t) := by rw [h]
theorem some_int {x y : Int} {t : Tok} (h : x = y) : some (Value.int x t) = some (Value.int y t) := by rw [h]
/-- a stop of the walk -/
noncomputable def Stop (P : Prop) : Prop := P
theorem stop_of {P : Prop} (h : Stop P) : P := h
section
variable {prog : Program} {w : World} {A : Around} {E : Value → Shared → Prop} {Q : Flow → Shared → Prop} {s : Shared} {env : Env} {h₀ : Heap} {L : Addr} {x : Str} {body : List Stmt}
inductive TurnGo (h₀ : Heap) (L : Addr) (I : Addr) (o : Obj) (J : Addr → Nat → (Str → Option Value) → Led → Prop) (i : Nat) (s₁ s₂ : Shared) : Prop
  | mk (h' : Heap) (tk : Nat) (m' : Str → Option Value) (led' : Led) (e : s₂ = { s₁ with heap := h', toks := tk }) (F : Fr h₀ L h' m') (N : News h₀ L h' ((I, o) :: led')) (ne : ∀ p ∈ led', p.1 ≠ I) (j : J I (i + 1) m' led')
noncomputable def TurnEnd (h₀ : Heap) (L : Addr) (I : Addr) (o : Obj) (J : Addr → Nat → (Str → Option Value) → Led → Prop) (i : Nat) (s₁ : Shared) (Q : Flow → Shared → Prop) (f : Flow) (s₂ : Shared) : Prop :=
  match f with
  | .ret v => Q (.ret v) s₂
  | .brk => Q .next s₂
  | _ => TurnGo h₀ L I o J i s₁ s₂
theorem TurnEnd.intro {I : Addr} {o : Obj} {J : Addr → Nat → (Str → Option Value) → Led → Prop} {i : Nat} {s₁ : Shared} {h' : Heap} {tk : Nat} {m' : Str → Option Value} {now led' : Led}
    (hj : J I (i + 1) m' led') (F : Fr h₀ L h' m') (N : News h₀ L h' now) (hs : ∀ p ∈ (I, o) :: led', p ∈ now) (hne : ∀ p ∈ led', p.1 ≠ I) :
    TurnEnd h₀ L I o J i s₁ Q .next { s₁ with heap := h', toks := tk } := ⟨h', tk, m', led', rfl, F, fun p h => N p (hs p h), hne, hj⟩
theorem TurnEnd.introC {I : Addr} {o : Obj} {J : Addr → Nat → (Str → Option Value) → Led → Prop} {i : Nat} {s₁ : Shared} {h' : Heap} {tk : Nat} {m' : Str → Option Value} {now led' : Led}
    (hj : J I (i + 1) m' led') (F : Fr h₀ L h' m') (N : News h₀ L h' now) (hs : ∀ p ∈ (I, o) :: led', p ∈ now) (hne : ∀ p ∈ led', p.1 ≠ I) :
    TurnEnd h₀ L I o J i s₁ Q .cont { s₁ with heap := h', toks := tk } := ⟨h', tk, m', led', rfl, F, fun p h => N p (hs p h), hne, hj⟩
theorem loop_walks {I : Addr} {fp : List Addr} {n : Nat} {P : Nat → Value → Prop} {St : Nat → Heap → Prop} {m : Str → Option Value} {news : Led} (J : Addr → Nat → (Str → Option Value) → Led → Prop)
    (keep : Led) (W : Walks prog w A I fp [I] n P St) (hfp : ∀ b ∈ fp, b = I ∨ b ∈ keep.map (·.1)) (hI : ∀ i h, St i h → ∃ o, h.get? I = some o)
    (hJ : ∀ i m led, J I i m led → ∀ p ∈ keep, p ∈ led) (hLf : env.locals ∉ fp) (hI0 : h₀.get? I = none) (hst : St 0 s.heap)
    (F : Fr h₀ env.locals s.heap m) (N : News h₀ env.locals s.heap news) (hn : ∀ p ∈ news, p.1 ≠ I) (hj : J I 0 m news)
    (turn : ∀ i v m₁ led h tk o, i < n → P i v → J I i m₁ led → (∀ p ∈ led, p.1 ≠ I) → Fr h₀ env.locals h (fun y => if y = x then some v else m₁ y) → News h₀ env.locals h ((I, o) :: led) →
      wpAny (model prog w) A (execs body env) (TurnEnd h₀ env.locals I o J i { s with heap := h, toks := tk } Q) (fun _ _ => False) { s with heap := h, toks := tk })
    (done : ∀ m₁ led h tk, J I n m₁ led → Fr h₀ env.locals h m₁ → News h₀ env.locals h led → Q .next { s with heap := h, toks := tk }) :
    LoopAtV prog w A h₀ env x body Q E (.ref I) s := by
  refine ⟨I, fp, [I], n, P, St, m, news, J I, rfl, W, hLf, ?_, ?_, hst, F, N, hj, ?_, ?_⟩
  · intro b hb; rw [List.mem_singleton.mp hb]; exact hI0
  · intro p hp hq; exact hn p hp (List.mem_singleton.mp hq)
  · rintro i v m₁ led s₁ own ⟨h, tk, rfl⟩ hin hP hJ' hne hown hget hall hst' F₁ N₁
    obtain ⟨o, ho⟩ := hI _ _ hst'
    have hIfp : I ∈ fp := W.sub I (by simp)
    have hIown : (I, o) ∈ own := hall I hIfp hI0 o ho
    have hne' : ∀ p ∈ led, p.1 ≠ I := fun p hp q => hne p hp (by simp [q])
    have N₂ : News h₀ env.locals h ((I, o) :: led) := fun p hp => N₁ p (by
      rcases List.mem_cons.mp hp with rfl | hp
      · exact List.mem_append_left _ hIown
      · exact List.mem_append_right _ hp)
    have own_in : ∀ led₂, (∀ p ∈ keep, p ∈ led₂) → ∀ p ∈ own, p ∈ (I, o) :: led₂ := by
      intro led₂ hk p hp
      rcases hfp p.1 (hown p hp) with q | q
      · have e := hget p hp
        rw [q, ho] at e
        have : p = (I, o) := Prod.ext q (Option.some.inj e).symm
        rw [this]; exact List.mem_cons_self ..
      · obtain ⟨p', hp', e'⟩ := List.mem_map.mp q
        have e1 := (N₁ p' (List.mem_append_right _ (hJ _ _ _ hJ' p' hp'))).1
        have e2 := hget p hp
        rw [← e', e1] at e2
        have : p = p' := Prod.ext e'.symm (Option.some.inj e2).symm
        rw [this]; exact List.mem_cons_of_mem _ (hk p' hp')
    refine wpAny_mono (turn i v m₁ led h tk o hin hP hJ' hne' F₁ N₂) (fun f s₂ p => ?_) (fun _ _ x => x.elim)
    have fin : TurnGo h₀ env.locals I o J i { s with heap := h, toks := tk } s₂ →
        LoopStepU h₀ env.locals [I] own (J I (i + 1)) { s with heap := h, toks := tk } .next s₂ := by
      rintro ⟨h', tk', m', led', rfl, F', N', hn', hj'⟩
      refine ⟨rfl, h', tk', m', led', rfl, F', fun p hp => ?_, fun p hp q => hn' p hp (List.mem_singleton.mp q), hj'⟩
      rcases List.mem_append.mp hp with hp | hp
      · exact N' p (own_in led' (hJ _ _ _ hj') p hp)
      · exact N' p (List.mem_cons_of_mem _ hp)
    cases f with
    | ret v => exact .ret p
    | brk => exact .brk p
    | next => exact .next (fin p)
    | cont => exact .cont (fin p)
  · intro h' tk m' led' F' N' _ hj'
    exact done m' led' h' tk hj' F' N'
theorem fresh_I {m : Str → Option Value} (F : Fr h₀ L s.heap m) : h₀.get? s.heap.objs.size = none := by
  cases hq : h₀.get? s.heap.objs.size with
  | none => rfl
  | some o => exact absurd (Heap.lt_size (F.keep _ _ hq)) (Nat.lt_irrefl _)
/-- a for over a list of the ledger's, that no turn changes -/
theorem for_list {l : Addr} {vs : List Value} {k : Nat} {m : Str → Option Value} {news : Led} (J : (Str → Option Value) → Led → Addr → Nat → (Str → Option Value) → Led → Prop)
    (hh : A.handled = none) (F : Fr h₀ env.locals s.heap m) (N : News h₀ env.locals s.heap news) (hl : (l, listOf vs.toArray k) ∈ news)
    (hj : ∀ I, (∀ p ∈ news, p.1 < I) → J m news I 0 m news) (hJ : ∀ I i m' led, J m news I i m' led → (l, listOf vs.toArray k) ∈ led)
    (turn : ∀ I i v m₁ led h tk o, vs[i]? = some v → J m news I i m₁ led → (∀ p ∈ led, p.1 ≠ I) → Fr h₀ env.locals h (fun y => if y = x then some v else m₁ y) → News h₀ env.locals h ((I, o) :: led) →
      wpAny (model prog w) A (execs body env) (TurnEnd h₀ env.locals I o (J m news) i { s with heap := h, toks := tk } Q) (fun _ _ => False) { s with heap := h, toks := tk })
    (done : ∀ I m₁ led h tk, J m news I vs.length m₁ led → Fr h₀ env.locals h m₁ → News h₀ env.locals h led → Q .next { s with heap := h, toks := tk }) :
    wpAny (model prog w) A (pyIter (.ref l)) (fun it s₂ => LoopAtV prog w A h₀ env x body Q E it s₂) E s := by
  have gl := (N _ hl).1
  have hls : s.heap.IsList l vs.toArray := ⟨_, gl, rfl, _, rfl⟩
  have lt : ∀ p ∈ news, p.1 < s.heap.objs.size := fun p hp => Heap.lt_size (N p hp).1
  have hne : l ≠ s.heap.objs.size := Nat.ne_of_lt (lt _ hl)
  have hFs := Heap.lt_size (F.ns.choose_spec.choose_spec.choose_spec.1)
  refine wpAny_pyIter_list hls ?_
  refine loop_walks (J m news) [(l, listOf vs.toArray k)] (Walks.list hh s.heap.objs.size l hne vs.toArray) ?_ ?_ ?_ ?_ (fresh_I F) ?_ (F.push _) (fun p hp => ⟨Heap.get?_push_of_some _ (N p hp).1, (N p hp).2⟩) (fun p hp => Nat.ne_of_lt (lt p hp)) (hj _ lt) ?_ ?_
  · intro b hb; simpa [List.mem_cons] using hb
  · rintro i h ⟨⟨o, ho, _⟩, _⟩; exact ⟨o, ho⟩
  · intro i m led hj p hp; rw [List.mem_singleton.mp hp]; exact hJ _ _ _ _ hj
  · intro hm
    rcases List.mem_cons.mp hm with e | hm
    · exact absurd hFs (e ▸ Nat.lt_irrefl _)
    · exact (N _ hl).2.1 (List.mem_singleton.mp hm).symm
  · exact ⟨⟨_, Heap.get?_push_size _ rfl, rfl, rfl⟩, hls.at fun o e => Heap.get?_push_of_some _ e⟩
  · intro i v m₁ led h tk o hi hP hj' hne' F' N'
    exact turn _ i v m₁ led h tk o (by simpa using hP) hj' hne' F' N'
  · intro m₁ led h tk hj' F' N'
    exact done _ m₁ led h tk (by simpa using hj') F' N'
theorem for_tuple {l : Addr} {vs : List Value} {m : Str → Option Value} {news : Led} (J : (Str → Option Value) → Led → Addr → Nat → (Str → Option Value) → Led → Prop)
    (hh : A.handled = none) (F : Fr h₀ env.locals s.heap m) (N : News h₀ env.locals s.heap news) (hl : (l, ({ cls := .type "tuple", data := .seq vs.toArray } : Obj)) ∈ news)
    (hj : ∀ I, (∀ p ∈ news, p.1 < I) → J m news I 0 m news) (hJ : ∀ I i m' led, J m news I i m' led → (l, ({ cls := .type "tuple", data := .seq vs.toArray } : Obj)) ∈ led)
    (turn : ∀ I i v m₁ led h tk o, vs[i]? = some v → J m news I i m₁ led → (∀ p ∈ led, p.1 ≠ I) → Fr h₀ env.locals h (fun y => if y = x then some v else m₁ y) → News h₀ env.locals h ((I, o) :: led) →
      wpAny (model prog w) A (execs body env) (TurnEnd h₀ env.locals I o (J m news) i { s with heap := h, toks := tk } Q) (fun _ _ => False) { s with heap := h, toks := tk })
    (done : ∀ I m₁ led h tk, J m news I vs.length m₁ led → Fr h₀ env.locals h m₁ → News h₀ env.locals h led → Q .next { s with heap := h, toks := tk }) :
    wpAny (model prog w) A (pyIter (.ref l)) (fun it s₂ => LoopAtV prog w A h₀ env x body Q E it s₂) E s := by
  have gl := (N _ hl).1
  have hls : s.heap.IsTuple l vs.toArray := ⟨_, gl, rfl, _, rfl⟩
  have lt : ∀ p ∈ news, p.1 < s.heap.objs.size := fun p hp => Heap.lt_size (N p hp).1
  have hne : l ≠ s.heap.objs.size := Nat.ne_of_lt (lt _ hl)
  have hFs := Heap.lt_size (F.ns.choose_spec.choose_spec.choose_spec.1)
  refine wpAny_pyIter_tuple hls ?_
  refine loop_walks (J m news) [(l, ({ cls := .type "tuple", data := .seq vs.toArray } : Obj))] (Walks.tuple hh s.heap.objs.size l hne vs.toArray) ?_ ?_ ?_ ?_ (fresh_I F) ?_ (F.push _) (fun p hp => ⟨Heap.get?_push_of_some _ (N p hp).1, (N p hp).2⟩) (fun p hp => Nat.ne_of_lt (lt p hp)) (hj _ lt) ?_ ?_
  · intro b hb; simpa [List.mem_cons] using hb
  · rintro i h ⟨⟨o, ho, _⟩, _⟩; exact ⟨o, ho⟩
  · intro i m led hj p hp; rw [List.mem_singleton.mp hp]; exact hJ _ _ _ _ hj
  · intro hm
    rcases List.mem_cons.mp hm with e | hm
    · exact absurd hFs (e ▸ Nat.lt_irrefl _)
    · exact (N _ hl).2.1 (List.mem_singleton.mp hm).symm
  · exact ⟨⟨_, Heap.get?_push_size _ rfl, rfl, rfl⟩, hls.at fun o e => Heap.get?_push_of_some _ e⟩
  · intro i v m₁ led h tk o hi hP hj' hne' F' N'
    exact turn _ i v m₁ led h tk o (by simpa using hP) hj' hne' F' N'
  · intro m₁ led h tk hj' F' N'
    exact done _ m₁ led h tk (by simpa using hj') F' N'
/-- a for over the signs of a text -/
theorem for_str {t : Str} {u : Tok} {m : Str → Option Value} {news : Led} (J : (Str → Option Value) → Led → Addr → Nat → (Str → Option Value) → Led → Prop)
    (hh : A.handled = none) (F : Fr h₀ env.locals s.heap m) (N : News h₀ env.locals s.heap news)
    (hj : ∀ I, (∀ p ∈ news, p.1 < I) → J m news I 0 m news)
    (turn : ∀ I i c tv m₁ led h tk o, t.cps[i]? = some c → J m news I i m₁ led → (∀ p ∈ led, p.1 ≠ I) → Fr h₀ env.locals h (fun y => if y = x then some (.str ⟨#[c]⟩ tv) else m₁ y) → News h₀ env.locals h ((I, o) :: led) →
      wpAny (model prog w) A (execs body env) (TurnEnd h₀ env.locals I o (J m news) i { s with heap := h, toks := tk } Q) (fun _ _ => False) { s with heap := h, toks := tk })
    (done : ∀ I m₁ led h tk, J m news I t.cps.size m₁ led → Fr h₀ env.locals h m₁ → News h₀ env.locals h led → Q .next { s with heap := h, toks := tk }) :
    wpAny (model prog w) A (pyIter (.str t u)) (fun it s₂ => LoopAtV prog w A h₀ env x body Q E it s₂) E s := by
  have lt : ∀ p ∈ news, p.1 < s.heap.objs.size := fun p hp => Heap.lt_size (N p hp).1
  have hFs := Heap.lt_size (F.ns.choose_spec.choose_spec.choose_spec.1)
  refine wpAny_pyIter_strU ?_
  have hL : env.locals ∉ [s.heap.objs.size] := fun hm => absurd hFs ((List.mem_singleton.mp hm) ▸ Nat.lt_irrefl _)
  cases ha : t.cps.all (· < 128)
  · refine loop_walks (J m news) [] (Walks.strWide hh s.heap.objs.size t u) ?_ ?_ ?_ hL (fresh_I F) ?_ (F.push _) (fun p hp => ⟨Heap.get?_push_of_some _ (N p hp).1, (N p hp).2⟩) (fun p hp => Nat.ne_of_lt (lt p hp)) (hj _ lt) ?_ ?_
    · intro b hb; exact .inl (List.mem_singleton.mp hb)
    · rintro i h ⟨o, ho, _⟩; exact ⟨o, ho⟩
    · intro i m led hj p hp; cases hp
    · exact ⟨_, Heap.get?_push_size _ rfl, by simp [strIterType, ha], rfl⟩
    · rintro i v m₁ led h tk o hi ⟨c, tv, hc, rfl⟩ hj' hne' F' N'
      exact turn _ i c tv m₁ led h tk o hc hj' hne' F' N'
    · intro m₁ led h tk hj' F' N'
      exact done _ m₁ led h tk hj' F' N'
  · refine loop_walks (J m news) [] (Walks.strAscii hh s.heap.objs.size t u) ?_ ?_ ?_ hL (fresh_I F) ?_ (F.push _) (fun p hp => ⟨Heap.get?_push_of_some _ (N p hp).1, (N p hp).2⟩) (fun p hp => Nat.ne_of_lt (lt p hp)) (hj _ lt) ?_ ?_
    · intro b hb; exact .inl (List.mem_singleton.mp hb)
    · rintro i h ⟨o, ho, _⟩; exact ⟨o, ho⟩
    · intro i m led hj p hp; cases hp
    · exact ⟨_, Heap.get?_push_size _ rfl, by simp [strIterType, ha], rfl⟩
    · rintro i v m₁ led h tk o hi ⟨c, tv, hc, rfl⟩ hj' hne' F' N'
      exact turn _ i c tv m₁ led h tk o hc hj' hne' F' N'
    · intro m₁ led h tk hj' F' N'
      exact done _ m₁ led h tk hj' F' N'
/-- a for, its loop left standing as a Stop -/
theorem for_stop {px pos : Pos} {iter : Expr} {m : Str → Option Value} (_F : Fr h₀ env.locals s.heap m) (hx : env.kindOf x = some .local)
    (hp : (env.scope.kind == .class || (env.scope.kind == .module && env.locals != env.globals)) = false)
    (hs : ∀ x, foldedSetIterable iter env x = pure x)
    (h : wpAny (model prog w) A (eval iter env) (fun xv s₁ => Stop (wpAny (model prog w) A (pyIter xv) (fun it s₂ => LoopAtV prog w A h₀ env x body Q (fun _ _ => False) it s₂) (fun _ _ => False) s₁)) (fun _ _ => False) s) :
    wpAny (model prog w) A (exec (.For (.Name x px) iter body [] pos) env) Q E s := wpAny_mono (For_invV h₀ hx hp h hs PassesOwn.never) (fun _ _ x => x) (fun _ _ x => x.elim)
/-- a while by an invariant and a measure -/
theorem while_inv {test : Expr} {pos : Pos} {m : Str → Option Value} {news : Led} (J : (Str → Option Value) → Led → Nat → (Str → Option Value) → Led → Prop) {n₀ : Nat}
    (F : Fr h₀ L s.heap m) (N : News h₀ L s.heap news) (hJ : J m news n₀ m news)
    (turn : ∀ n m₁ news₁ h₁ tk₁, Fr h₀ L h₁ m₁ → News h₀ L h₁ news₁ → J m news n m₁ news₁ →
      wpAny (model prog w) A (isTrue test env (eval test env)) (fun b s₂ =>
        if b = true then wpAny (model prog w) A (execs body env) (WhileStep2 h₀ L s (J m news) Q n) (fun _ _ => False) s₂ else Q .next s₂) (fun _ _ => False) { s with heap := h₁, toks := tk₁ }) :
    wpAny (model prog w) A (exec (.While test body [] pos) env) Q E s := wpAny_mono (While_inv2 (J m news) F N hJ turn PassesOwn.never) (fun _ _ x => x) (fun _ _ x => x.elim)
inductive WNext (J : Nat → (Str → Option Value) → Led → Prop) (n : Nat) (m' : Str → Option Value) (now : Led) : Prop
  | mk (n' : Nat) (led' : Led) (j : J n' m' led') (lt : n' < n) (s : ∀ p ∈ led', p ∈ now)
theorem wstep_next {J : Nat → (Str → Option Value) → Led → Prop} {n : Nat} {h' : Heap} {tk : Nat} {m' : Str → Option Value} {now : Led} (F : Fr h₀ L h' m') (N : News h₀ L h' now) (hj : WNext J n m' now) :
    WhileStep2 h₀ L s J Q n .next { s with heap := h', toks := tk } := by
  obtain ⟨n', led', hj, hlt, hs⟩ := hj
  exact ⟨h', tk, m', led', n', rfl, F, fun p h => N p (hs p h), hlt, hj⟩
theorem wstep_cont {J : Nat → (Str → Option Value) → Led → Prop} {n : Nat} {h' : Heap} {tk : Nat} {m' : Str → Option Value} {now : Led} (F : Fr h₀ L h' m') (N : News h₀ L h' now) (hj : WNext J n m' now) :
    WhileStep2 h₀ L s J Q n .cont { s with heap := h', toks := tk } := by
  obtain ⟨n', led', hj, hlt, hs⟩ := hj
  exact ⟨h', tk, m', led', n', rfl, F, fun p h => N p (hs p h), hlt, hj⟩
theorem wstep_brk {J : Nat → (Str → Option Value) → Led → Prop} {n : Nat} {s' : Shared} (h : Q .next s') : WhileStep2 h₀ L s J Q n .brk s' := h
theorem wstep_ret {J : Nat → (Str → Option Value) → Led → Prop} {n : Nat} {s' : Shared} {v : Value} (h : Q (.ret v) s') : WhileStep2 h₀ L s J Q n (.ret v) s' := h
end
end Mine
end SB2
section SB3
open PySem PySem.W PyProof.Rows PySem.Calls
namespace Mine
theorem setL_eq : ∀ {l : List Value} {k : Nat} (v : Value), k < l.length → ki_setL l k v = some (l.set k v)
  | [], _, _, h => absurd h (Nat.not_lt_zero _)
  | _ :: _, 0, _, _ => rfl
  | x :: r, k + 1, v, h => by
    have := setL_eq (l := r) (k := k) v (by simpa using h)
    simp [ki_setL, this]
theorem last_eq : ∀ (p : List Value) (y : Value), kl_last (p ++ [y]) = some (p, y)
  | p, y => kpa_last y p
theorem strsAre_set {vs : List Value} {xs : List Str} (h : StrsAre vs xs) (y : Str) (t : Tok) : ∀ k : Nat, StrsAre (vs.set k (.str y t)) (xs.set k y) := by
  induction h with
  | nil => intro k; simpa using StrsAre.nil
  | cons a u h ih =>
    intro k
    cases k with
    | zero => exact .cons _ _ h
    | succ k => exact .cons _ _ (ih k)
section
variable {prog : Program} {w : World} {A : Around} {E : Value → Shared → Prop} {s : Shared} {h₀ : Heap} {L D : Addr} {m : Str → Option Value} {news news' : Led} {vs : List Value} {xs : List Str} {n : Nat} {k : Int} {u t : Tok} {y : Str}
theorem sub_strs {value slice : PySem.Expr} {Q : Value → Shared → Prop} (N : News h₀ L s.heap news) (hm : (D, listOf vs.toArray n) ∈ news) (hs : StrsAre vs xs) (h0 : 0 ≤ k) (h1 : k < (xs.length : Int)) (hfit : xs.length ≤ 1000000)
    (h : ∀ t', Q (.str (xs.getD k.toNat PySem.Str.empty) t') s)
    (hq : subscripted slice false (.ref D) (.int k u) = operate [.ref D, .int k u] (getItem (.ref D) (.int k u)) := by with_unfolding_all rfl) :
    wpAny (model prog w) A (subscriptTail value slice (.ref D) (.int k u)) Q E s :=
  KTb.item_list ⟨_, (N _ hm).1, rfl, _, rfl⟩ hs h0 h1 (by omega) (fun t' _ => h t') hq
theorem set_strs {Q : Unit → Shared → Prop} (F : Fr h₀ L s.heap m) (N : News h₀ L s.heap news) (hs : StrsAre vs xs) (U : Upd D (listOf vs.toArray n) (listOf (vs.set k.toNat (.str y t)).toArray n) news news')
    (h0 : 0 ≤ k) (h1 : k < (xs.length : Int)) (hfit : xs.length ≤ 1000000)
    (h : ∀ h', StrsAre (vs.set k.toNat (.str y t)) (xs.set k.toNat y) → Fr h₀ L h' m → News h₀ L h' news' → Q () { s with heap := h' }) : wpAny (model prog w) A (setItem (.ref D) (.int k u) (.str y t)) Q E s :=
  ki_set F N h0 (by omega) (setL_eq _ (by have := hs.len_eq; (show k.toNat < vs.toArray.toList.length); simp; omega)) (by simpa using U) fun h' F' N' => h h' (strsAre_set hs y t _) F' N'
theorem append_strs {Q : Value → Shared → Prop} (F : Fr h₀ L s.heap m) (N : News h₀ L s.heap news) (hs : StrsAre vs xs) (U : Upd D (listOf vs.toArray n) (listOf (vs ++ [Value.str y t]).toArray (n + 1)) news news') (hfit : xs.length ≤ 1000000)
    (h : ∀ h', StrsAre (vs ++ [Value.str y t]) (xs ++ [y]) → Fr h₀ L h' m → News h₀ L h' news' → Q .none { s with heap := h' }) : wpAny (model prog w) A (call (.builtin "list.append") [.ref D, .str y t]) Q E s :=
  append_K (its := vs.toArray) (n := n) F N (by simpa using U) (fun h' F' N' => h h' (StrsAre.append' hs (.cons _ _ .nil)) F' N') (by have := hs.len_eq; rw [sizeLine_eq, List.size_toArray]; omega)
theorem strsAre_last {ys : List Str} {z : Str} (hs : StrsAre vs (ys ++ [z])) : ∃ us tz, vs = us ++ [Value.str z tz] ∧ StrsAre us ys := by
  have hl := hs.len_eq
  have h1 := hs.take' ys.length
  have h2 := hs.drop' ys.length
  simp only [List.take_left', List.drop_left'] at h1 h2
  have e : vs = vs.take ys.length ++ vs.drop ys.length := (List.take_append_drop _ _).symm
  generalize vs.take ys.length = a at *
  generalize vs.drop ys.length = b at *
  cases h2 with
  | cons _ tz h3 => cases h3; exact ⟨a, tz, e, h1⟩
theorem pop_strs {ys : List Str} {z : Str} {Q : Value → Shared → Prop} (F : Fr h₀ L s.heap m) (N : News h₀ L s.heap news) (hs : StrsAre vs (ys ++ [z])) (hfit : ys.length ≤ 1000000)
    (U : ∀ us, ∃ news', Upd D (listOf vs.toArray n) (listOf us.toArray (n + 1)) news news' ∧ ∀ h' tz, StrsAre us ys → Fr h₀ L h' m → News h₀ L h' news' → Q (.str z tz) { s with heap := h' }) :
    wpAny (model prog w) A (call (.builtin "list.pop") [.ref D]) Q E s := by
  obtain ⟨us, tz, rfl, hu⟩ := strsAre_last hs
  obtain ⟨news', U', h⟩ := U us
  exact kl_pop F N (by simpa using last_eq us (.str z tz)) U' (by have := hs.len_eq; rw [sizeLine_eq]; simp at *; omega) fun h' F' N' => h h' tz hu F' N'
theorem truthy_strs {Q : Bool → Shared → Prop} (N : News h₀ L s.heap news) (hm : (D, listOf vs.toArray n) ∈ news) (hs : StrsAre vs xs) (hfit : xs.length ≤ 1000000) (h : Q (decide (0 < xs.length)) { s with toks := s.toks + 1 + 1 }) :
    wpAny (model prog w) A (truthy (.ref D)) Q E s := by
  refine wpAny_truthy_list (items := vs.toArray) ⟨_, (N _ hm).1, rfl, _, rfl⟩ (by have := hs.len_eq; rw [List.size_toArray]; omega) ?_
  have e : (!vs.toArray.isEmpty) = decide (0 < xs.length) := by cases hs <;> simp
  rw [e]; exact h
theorem len_strs {Q : Value → Shared → Prop} (N : News h₀ L s.heap news) (hm : (D, listOf vs.toArray n) ∈ news) (hs : StrsAre vs xs) (hfit : xs.length ≤ 1000000) (h : ∀ t tk, Q (.int (xs.length : Int) t) { s with toks := tk }) :
    wpAny (model prog w) A (call (.builtin "len") [.ref D]) Q E s := by
  refine call_len_list (items := vs.toArray) ⟨_, (N _ hm).1, rfl, _, rfl⟩ (by have := hs.len_eq; rw [List.size_toArray]; omega) ?_
  have e : vs.toArray.size = xs.length := by rw [List.size_toArray, hs.len_eq]
  rw [e]; exact h _ _
theorem sub_strsN {j : Nat} {value slice : PySem.Expr} {Q : Value → Shared → Prop} (N : News h₀ L s.heap news) (hm : (D, listOf vs.toArray n) ∈ news) (hs : StrsAre vs xs) (h1 : j < xs.length) (hfit : xs.length ≤ 1000000)
    (h : ∀ t', Q (.str (xs.getD j PySem.Str.empty) t') s)
    (hq : subscripted slice false (.ref D) (.int (j : Int) u) = operate [.ref D, .int (j : Int) u] (getItem (.ref D) (.int (j : Int) u)) := by with_unfolding_all rfl) :
    wpAny (model prog w) A (subscriptTail value slice (.ref D) (.int (j : Int) u)) Q E s :=
  KTb.item_list ⟨_, (N _ hm).1, rfl, _, rfl⟩ hs (by omega) (by omega) (by omega) (fun t' _ => h t') hq
theorem sub_strs0 {value slice : PySem.Expr} {Q : Value → Shared → Prop} (N : News h₀ L s.heap news) (hm : (D, listOf vs.toArray n) ∈ news) (hs : StrsAre vs xs) (h1 : 0 < xs.length) (hfit : xs.length ≤ 1000000)
    (h : ∀ t', Q (.str (xs.getD 0 PySem.Str.empty) t') s)
    (hq : subscripted slice false (.ref D) (.int 0 u) = operate [.ref D, .int 0 u] (getItem (.ref D) (.int 0 u)) := by with_unfolding_all rfl) :
    wpAny (model prog w) A (subscriptTail value slice (.ref D) (.int 0 u)) Q E s :=
  KTb.item_list ⟨_, (N _ hm).1, rfl, _, rfl⟩ hs (by omega) (by omega) (by omega) (fun t' _ => h t') hq
theorem set_strs0 {Q : Unit → Shared → Prop} (F : Fr h₀ L s.heap m) (N : News h₀ L s.heap news) (hs : StrsAre vs xs) (U : Upd D (listOf vs.toArray n) (listOf (vs.set 0 (.str y t)).toArray n) news news')
    (h1 : 0 < xs.length) (hfit : xs.length ≤ 1000000)
    (h : ∀ h', StrsAre (vs.set 0 (.str y t)) (xs.set 0 y) → Fr h₀ L h' m → News h₀ L h' news' → Q () { s with heap := h' }) : wpAny (model prog w) A (setItem (.ref D) (.int 0 u) (.str y t)) Q E s :=
  set_strs F N hs (by simpa using U) (by omega) (by omega) hfit (by simpa using h)
theorem sub_last {value slice : PySem.Expr} {Q : Value → Shared → Prop} (N : News h₀ L s.heap news) (hm : (D, listOf vs.toArray n) ∈ news) (hs : StrsAre vs xs) (h1 : 0 < xs.length) (hfit : xs.length ≤ 1000000)
    (h : ∀ t', Q (.str (xs.getD (xs.length - 1) PySem.Str.empty) t') s)
    (hq : subscripted slice false (.ref D) (.int (-1) u) = operate [.ref D, .int (-1) u] (getItem (.ref D) (.int (-1) u))) :
    wpAny (model prog w) A (subscriptTail value slice (.ref D) (.int (-1) u)) Q E s := by
  have hlen := hs.len_eq
  obtain ⟨t', e⟩ := hs.get (xs.length - 1) (xs.getD (xs.length - 1) PySem.Str.empty) (by rw [List.getD_eq_getElem?_getD, List.getElem?_eq_getElem (by omega)]; rfl)
  have hl : s.heap.IsList D vs.toArray := ⟨_, (N _ hm).1, rfl, _, rfl⟩
  have e2 : ((-1 : Int) + (vs.length : Int)).toNat = xs.length - 1 := by omega
  exact tail_any hl.typeIs slot_list_getitem.lookup (wpAny_getItem_list_neg hl (by decide) (by rw [List.size_toArray]; omega) (by decide) (x := .str _ t') (by rw [List.size_toArray, e2]; simpa using e) (h t')) hq
theorem set_strsN {j : Nat} {Q : Unit → Shared → Prop} (F : Fr h₀ L s.heap m) (N : News h₀ L s.heap news) (hs : StrsAre vs xs) (U : Upd D (listOf vs.toArray n) (listOf (vs.set j (.str y t)).toArray n) news news')
    (h1 : j < xs.length) (hfit : xs.length ≤ 1000000)
    (h : ∀ h', StrsAre (vs.set j (.str y t)) (xs.set j y) → Fr h₀ L h' m → News h₀ L h' news' → Q () { s with heap := h' }) : wpAny (model prog w) A (setItem (.ref D) (.int (j : Int) u) (.str y t)) Q E s :=
  set_strs F N hs (by simpa using U) (by omega) (by omega) hfit (by simpa using h)
theorem shr_pos {j : Nat} {Q : Value → Shared → Prop} (h0 : 0 < j) (h : ∀ t' tk, Q (.int (((j - 1) / 2 : Nat) : Int) t') { s with toks := tk }) : wpAny (model prog w) A (binaryOp .RShift (.int ((j : Int) - 1) t) (.int 1 u)) Q E s := by
  refine wpAny_rshift1_int (by omega) ?_
  have e : ((j : Int) - 1) / 2 = (((j - 1) / 2 : Nat) : Int) := by omega
  rw [e]; exact h _ _
theorem sub_oneN {j : Nat} {Q : Value → Shared → Prop} (h0 : 0 < j) (h : ∀ t' tk, Q (.int ((j - 1 : Nat) : Int) t') { s with toks := tk }) : wpAny (model prog w) A (binaryOp .Sub (.int (j : Int) t) (.int 1 u)) Q E s := by
  refine PyProof.Rows.sub_int ?_
  have e : (j : Int) - 1 = ((j - 1 : Nat) : Int) := by omega
  rw [e]; exact h _ _
theorem add_oneN {j : Nat} {Q : Value → Shared → Prop} (h : ∀ t' tk, Q (.int ((j + 1 : Nat) : Int) t') { s with toks := tk }) : wpAny (model prog w) A (binaryOp .Add (.int (j : Int) t) (.int 1 u)) Q E s := by
  refine PyProof.Rows.add_int ?_
  have e : (j : Int) + 1 = ((j + 1 : Nat) : Int) := by omega
  rw [e]; exact h _ _
theorem mul_twoN {j : Nat} {Q : Value → Shared → Prop} (h : ∀ t' tk, Q (.int ((2 * j : Nat) : Int) t') { s with toks := tk }) : wpAny (model prog w) A (binaryOp .Mult (.int 2 t) (.int (j : Int) u)) Q E s := by
  refine PyProof.Rows.mul_int ?_ (IntMulOk.of_left (by decide +kernel))
  have e : 2 * (j : Int) = ((2 * j : Nat) : Int) := by omega
  rw [e]; exact h _ _
end
section
variable {prog : Program} {w : World} {A : Around} {E : Value → Shared → Prop} {s : Shared} {h₀ : Heap} {L D : Addr} {news : Led} {vs : List Value} {xs : List Str} {n : Nat} {x : Str} {t : Tok} {Q : Value → Shared → Prop}
theorem join_strs {B : Nat} (N : News h₀ L s.heap news) (hm : (D, listOf vs.toArray n) ∈ news) (hs : StrsAre vs xs) (hB : ∀ y ∈ xs, y.length ≤ B) (hx : x.length ≤ 1) (hok : xs.length * B + xs.length ≤ 16777216)
    (h : ∀ t' k, Q (.str (Str.join x xs) t') { s with toks := k }) : wpAny (model prog w) A (call (.builtin "str.join") [.str x t, .ref D]) Q E s := by
  refine join_list (items := vs.toArray) (ys := xs) ⟨_, (N _ hm).1, rfl, _, rfl⟩ (by simpa using hs) ?_ (fun t' k => by rw [show Txt.join x xs = Str.join x xs from StrLaws.glued_eq_join _ _]; exact h t' k)
  have h1 := StrLaws.sumLen_le xs hB
  have h2 : xs.length * x.length ≤ xs.length * 1 := Nat.mul_le_mul_left _ hx
  omega
theorem join_strsT {B : Nat} (N : News h₀ L s.heap news) (hm : (D, ({ cls := .type "tuple", data := .seq vs.toArray } : Obj)) ∈ news) (hs : StrsAre vs xs) (hB : ∀ y ∈ xs, y.length ≤ B) (hx : x.length ≤ 1) (hok : xs.length * B + xs.length ≤ 16777216)
    (h : ∀ t' k, Q (.str (Str.join x xs) t') { s with toks := k }) : wpAny (model prog w) A (call (.builtin "str.join") [.str x t, .ref D]) Q E s := by
  refine join_tuple (items := vs.toArray) (ys := xs) ⟨_, (N _ hm).1, rfl, _, rfl⟩ (by simpa using hs) ?_ (fun t' k => by rw [show Txt.join x xs = Str.join x xs from StrLaws.glued_eq_join _ _]; exact h t' k)
  have h1 := StrLaws.sumLen_le xs hB
  have h2 : xs.length * x.length ≤ xs.length * 1 := Nat.mul_le_mul_left _ hx
  omega
end
/-- what a heap function leaves: H holds xs', the rest as it was -/
inductive HPost (H : Addr) (xs' : List Str) (V : Tok → Value) (rest : Led) (r : Value) (led' : Led) : Prop
  | mk (vs' : List Value) (k' : Nat) (t : Tok) (s : StrsAre vs' xs') (e : r = V t) (l : led' = (H, listOf vs'.toArray k') :: rest)
theorem Con.use_heap {w : World} {mean : ExcName → Option Value} {mg mb : Str → Option Value} {f : Addr} {args : List Value} {led rest : Led} {D U : Nat} {H : Addr} {xs' : List Str} {V : Tok → Value} (C : Con w mean mg mb f args led D U (HPost H xs' V rest))
    {dp un : Nat} {gd : Option (List Code)} {cn : Str} {cs : Scope} {a : Addr} {ccd : Value} {cl : List (Str × Addr)} {outer : List Env} {A₀ : Around} {base h₀ : Heap} {L : Addr} {m : Str → Option Value} {s : Shared} {Q E : Value → Shared → Prop}
    (B : Below A₀ base outer h₀) (F : Fr h₀ L s.heap m) (X : (hd0.heap_1 w.params).In h₀) (N : News h₀ L s.heap led) (T : Top vw (looseW vw []) mean mg mb h₀) (hk : cs.kind = .function)
    (hd : dp + D < recursionLimit) (hu : un + U < cLine)
    (h : ∀ vs' k' t h' tk', StrsAre vs' xs' → Fr h₀ L h' m → News h₀ L h' ((H, listOf vs'.toArray k') :: rest) → Q (V t) { s with heap := h', toks := tk' }) :
    wpAny (model pg w) (ktrTop dp un gd cn cs L a ccd cl outer) (call (.ref f) args) Q E s :=
  C.use B F X N T hk hd hu (by rintro r led' h' tk' ⟨vs', k', t, hs, rfl, rfl⟩ F' N'; exact h vs' k' t h' tk' hs F' N')
theorem Ends.heap {g : Heap} {L H : Addr} {s₀ : Shared} {xs' : List Str} {V : Tok → Value} {rest : Led} {v : Value} {h' : Heap} {tk k' : Nat} {t : Tok} {vs' : List Value} {m' : Str → Option Value}
    (hs : StrsAre vs' xs') (F : Fr g L h' m') (N : News g L h' ((H, listOf vs'.toArray k') :: rest)) (hv : v = V t) : Ends g L s₀ (HPost H xs' V rest) v { s₀ with heap := h', toks := tk } :=
  ⟨h', tk, m', _, rfl, F, N, ⟨vs', k', t, hs, hv, rfl⟩⟩
inductive TNext (J : Addr → Nat → (Str → Option Value) → Led → Prop) (I : Addr) (o : Obj) (i : Nat) (m' : Str → Option Value) (now : Led) : Prop
  | mk (led' : Led) (j : J I (i + 1) m' led') (s : ∀ p ∈ (I, o) :: led', p ∈ now) (ne : ∀ p ∈ led', p.1 ≠ I)
theorem turn_mk {h₀ : Heap} {L : Addr} {Q : Flow → Shared → Prop} {I : Addr} {o : Obj} {J : Addr → Nat → (Str → Option Value) → Led → Prop} {i : Nat} {s₁ : Shared} {h' : Heap} {tk : Nat} {m' : Str → Option Value} {now : Led}
    (F : Fr h₀ L h' m') (N : News h₀ L h' now) (hj : TNext J I o i m' now) : TurnEnd h₀ L I o J i s₁ Q .next { s₁ with heap := h', toks := tk } := by
  obtain ⟨led', h1, h2, h3⟩ := hj
  exact TurnEnd.intro h1 F N h2 h3
theorem turn_mkC {h₀ : Heap} {L : Addr} {Q : Flow → Shared → Prop} {I : Addr} {o : Obj} {J : Addr → Nat → (Str → Option Value) → Led → Prop} {i : Nat} {s₁ : Shared} {h' : Heap} {tk : Nat} {m' : Str → Option Value} {now : Led}
    (F : Fr h₀ L h' m') (N : News h₀ L h' now) (hj : TNext J I o i m' now) : TurnEnd h₀ L I o J i s₁ Q .cont { s₁ with heap := h', toks := tk } := by
  obtain ⟨led', h1, h2, h3⟩ := hj
  exact TurnEnd.introC h1 F N h2 h3
end Mine
end SB3
section SB4
open PySem PySem.W PyProof.Rows PySem.Calls
namespace Mine
section
variable {prog : Program} {w : World} {A : Around} {E : Value → Shared → Prop} {s : Shared} {h₀ : Heap} {L : Addr} {m : Str → Option Value} {news : Led}
noncomputable def oneObj : Obj := { cls := .type "range_iterator", dict := none, data := .fields #[rawInt 0, rawInt 1, rawInt (-1)], slots := #[] }
theorem sub_rit_reversed : isSubtype (.type "range_iterator") (.type "reversed") = pure false := by rw [isSubtype_type]; kernel_rfl
theorem call_range_reversed {r : Addr} {t u v : Tok} {Q : Value → Shared → Prop} (hr : IsRange s.heap r 0 1 1 t u v)
    (h : Q (.ref s.heap.objs.size) { s with heap := s.heap.push oneObj }) : wpAny (model prog w) A (call (.builtin "range.__reversed__") [.ref r]) Q E s := by
  have hT : s.TypeIs (.ref r) "range" := ⟨_, hr, rfl⟩
  refine wpAny_call_entry F.slot_range_reversed hT F.entry_range_reversed ?_ (F.args_range_reversed_1 _)
  unfold Builtin.«range.__reversed__»
  refine wpAny_bind (wpAny_of_eq (a := Value.ref r) rfl ?_)
  unfold Builtin.Range.rangeFields
  have f0 : wpAny (model prog w) A.in1 (field (.ref r) 0) (fun x s' => x = .int 0 t ∧ s' = s) (fun _ _ => False) s := wpAny_field hr rfl (x := .int 0 t) rfl ⟨rfl, rfl⟩
  have f1 : wpAny (model prog w) A.in1 (field (.ref r) 1) (fun x s' => x = .int 1 u ∧ s' = s) (fun _ _ => False) s := wpAny_field hr rfl (x := .int 1 u) rfl ⟨rfl, rfl⟩
  have f2 : wpAny (model prog w) A.in1 (field (.ref r) 2) (fun x s' => x = .int 1 v ∧ s' = s) (fun _ _ => False) s := wpAny_field hr rfl (x := .int 1 v) rfl ⟨rfl, rfl⟩
  refine wpAny_bind (wpAny_bind (wpAny_mono f0 ?_ fun _ _ x => x.elim))
  rintro _ _ ⟨rfl, rfl⟩
  refine wpAny_bind (wpAny_pure (a := some (0 : Int)) ?_)
  refine wpAny_bind (wpAny_mono f1 ?_ fun _ _ x => x.elim)
  rintro _ _ ⟨rfl, rfl⟩
  refine wpAny_bind (wpAny_pure (a := some (1 : Int)) ?_)
  refine wpAny_bind (wpAny_mono f2 ?_ fun _ _ x => x.elim)
  rintro _ _ ⟨rfl, rfl⟩
  refine wpAny_bind (wpAny_pure (a := some (1 : Int)) ?_)
  refine wpAny_pure (a := ((0 : Int), (1 : Int), (1 : Int))) ?_
  show wpAny _ _ (do ret (← newFields "range_iterator" [rawInt 0, rawInt 1, rawInt (-1)])) _ _ _
  exact wpAny_bind (wpAny_newObj_type (wpAny_pure ⟨_, rfl, h⟩))
theorem code_reversed_range {r : Addr} {t u v : Tok} {Q₁ : Value → Shared → Prop} (hr : IsRange s.heap r 0 1 1 t u v)
    (h : Q₁ (.ref s.heap.objs.size) { s with heap := s.heap.push oneObj }) :
    codeAny (model prog w) A (.call (.builtin "reversed.__new__") ⟨[.type "reversed", .ref r], []⟩) (wants Q₁ E) s := by
  have hT : s.TypeIs (.ref r) "range" := ⟨_, hr, rfl⟩
  refine codeAny_of_tree ?_
  show wpAny _ A.in1 (do checkBuiltinCall "reversed.__new__" ⟨[.type "reversed", .ref r], []⟩; again (.builtin "reversed.__new__" ⟨[.type "reversed", .ref r], []⟩)) _ _ s
  refine wpAny_bind (wpAny_of_eq (F.newCall_reversed_1 _) (wpAny_pure ⟨plainId_quiet F.plain_reversed_new _, codeAny_builtin F.entry_reversed_new ?_⟩))
  rw [Around.under_plainId F.plain_reversed_new _]
  unfold Builtin.«reversed.__new__»
  refine wpAny_bind (wpAny_of_eq (newClass_reversed _) ?_)
  try dsimp only
  refine wpAny_bind (wpAny_of_eq (a := ()) (by first | rfl | kernel_rfl) ?_)
  refine wpAny_bind (wpAny_of_eq (a := ()) (by first | rfl | kernel_rfl) ?_)
  try dsimp only
  refine wpAny_bind (wpAny_specialOf hT F.slot_range_reversed.lookup ?_)
  try dsimp only
  refine wpAny_bind (wpAny_of_eq (F.slot_range_reversed.bind _) ?_)
  try dsimp only
  first
  | rw [if_neg (show ¬ ((Value.builtin "range.__reversed__" == Value.none) = true) from Bool.false_ne_true)]
  | (show wpAny _ _ (if (Value.builtin "range.__reversed__" == Value.none) = true then _ else _) _ _ _; rw [if_neg (show ¬ ((Value.builtin "range.__reversed__" == Value.none) = true) from Bool.false_ne_true)])
  refine wpAny_bind (wpAny_rule ?_)
  refine wpAny_bind (m := runValue (.call (.builtin "range.__reversed__") ⟨[.ref r], []⟩)) (show wpAny _ _ (call (.builtin "range.__reversed__") [.ref r]) _ _ _ from call_range_reversed hr ?_)
  first
  | exact wpAny_pure h
  | exact wpAny_bind (wpAny_pure (wpAny_pure h))
theorem call_reversed_range {r : Addr} {t u v : Tok} {Q : Value → Shared → Prop} (hr : IsRange s.heap r 0 1 1 t u v)
    (h : Q (.ref s.heap.objs.size) { s with heap := s.heap.push oneObj }) : wpAny (model prog w) A (call (.type "reversed") [.ref r]) Q E s := by
  refine callType_other (U := "range_iterator") (Q₁ := fun obj s₁ => obj = .ref s.heap.objs.size ∧ s₁ = { s with heap := s.heap.push oneObj }) (by decide +kernel) F.create_reversed ⟨_, _, F.mro_reversed⟩ F.made_reversed sub_rit_reversed (F.typeCall_reversed_1 _) (code_reversed_range hr ⟨rfl, rfl⟩) ?_
  rintro obj s₁ ⟨rfl, rfl⟩
  exact ⟨⟨_, Heap.get?_push_size _ rfl, rfl⟩, h⟩
/-- reversed(range(1)): an iterator that lies above the ledger -/
theorem reversed_one {r : Addr} {b : Int} {t u v : Tok} {Q : Value → Shared → Prop} (hr : IsRange s.heap r 0 b 1 t u v) (hb : b = 1) (F : Fr h₀ L s.heap m) (N : News h₀ L s.heap news)
    (h : ∀ I h', IsRangeIter h' I 0 1 (-1) → h₀.get? I = none → L ≠ I → (∀ p ∈ news, p.1 < I) → Fr h₀ L h' m → News h₀ L h' news → Q (.ref I) { s with heap := h' }) : wpAny (model prog w) A (call (.type "reversed") [.ref r]) Q E s := by
  subst hb
  refine call_reversed_range hr ?_
  have hFs := Heap.lt_size (F.ns.choose_spec.choose_spec.choose_spec.1)
  exact h _ _ (Heap.get?_push_size _ rfl) (fresh_I F) (fun e => absurd hFs (e ▸ Nat.lt_irrefl _)) (fun p hp => Heap.lt_size (N p hp).1) (F.push _) (fun p hp => ⟨Heap.get?_push_of_some _ (N p hp).1, (N p hp).2⟩)
noncomputable def OneJ (h₀ : Heap) (L : Addr) (s : Shared) (Q : Flow → Shared → Prop) (m : Str → Option Value) (news : Led) (_ : Addr) : Nat → (Str → Option Value) → Led → Prop
  | 0, m', led' => m' = m ∧ led' = news
  | _ + 1, m', led' => ∀ h tk, Fr h₀ L h m' → News h₀ L h led' → Q .next { s with heap := h, toks := tk }
theorem for_one {I : Addr} {env : Env} {x : Str} {body : List Stmt} {Q : Flow → Shared → Prop} (hit : IsRangeIter s.heap I 0 1 (-1)) (hI0 : h₀.get? I = none) (hLI : env.locals ≠ I) (hn : ∀ p ∈ news, p.1 < I) (hh : A.handled = none)
    (F : Fr h₀ env.locals s.heap m) (N : News h₀ env.locals s.heap news)
    (turn : ∀ t h tk o, (∀ p ∈ news, p.1 < I) → Fr h₀ env.locals h (fun y => if y = x then some (.int 0 t) else m y) → News h₀ env.locals h ((I, o) :: news) →
      wpAny (model prog w) A (execs body env) (TurnEnd h₀ env.locals I o (OneJ h₀ env.locals s Q m news) 0 { s with heap := h, toks := tk } Q) (fun _ _ => False) { s with heap := h, toks := tk }) :
    wpAny (model prog w) A (pyIter (.ref I)) (fun it s₂ => LoopAtV prog w A h₀ env x body Q E it s₂) E s := by
  refine wpAny_pyIter_rangeiter hit ?_
  refine loop_walks (OneJ h₀ env.locals s Q m news) [] (Walks.range hh I 0 (-1) 1) (fun b hb => .inl (List.mem_singleton.mp hb)) (fun i h st => ⟨_, st⟩) (fun _ _ _ _ p hp => nomatch hp) (fun hm => hLI (List.mem_singleton.mp hm)) hI0 (by simpa using hit) F N (fun p hp => Nat.ne_of_lt (hn p hp)) ⟨rfl, rfl⟩ ?_ ?_
  · rintro i v m₁ led h tk o hi ⟨t, rfl⟩ hj hne F1 N1
    have e : i = 0 := by omega
    subst e
    obtain ⟨rfl, rfl⟩ := hj
    exact turn t h tk o hn (by simpa using F1) N1
  · intro m₁ led h tk hj F1 N1
    exact hj h tk F1 N1
theorem news_swap {p q : Addr × Obj} {l : Led} {h : Heap} (N : News h₀ L h (p :: q :: l)) : News h₀ L h (q :: p :: l) := fun r hr => N r (by
  rcases List.mem_cons.mp hr with rfl | hr
  · exact .tail _ (.head _)
  · rcases List.mem_cons.mp hr with rfl | hr
    · exact .head _
    · exact .tail _ (.tail _ hr))
end
end Mine
end SB4
section SK3
open PySem PySem.W PyProof.Rows PySem.Calls
namespace Mine
abbrev Pair := Int × Int
noncomputable def pairD (p : Pair) : Dat := .tuple [.int p.1, .int p.2]
noncomputable def rowD (r : List Pair) : Dat := .list (r.map pairD)
noncomputable def namesD (ns : List Str) : Dat := .tuple (ns.map .str)
/-- a place: its row and its names -/
abbrev Place := List Pair × List Str
noncomputable def placeD (p : Place) : Dat := .tuple [rowD p.1, namesD p.2]
noncomputable def intEq (a b : Int) : Bool := decide (a = b)
noncomputable def intLt (a b : Int) : Bool := decide (a < b)
noncomputable def pairEq' (p q : Pair) : Bool := decide (p = q)
noncomputable def pairLt (p q : Pair) : Bool := lexW intEq intLt true false [p.1, p.2] [q.1, q.2]
noncomputable def strEq (a b : Str) : Bool := decide (a = b)
noncomputable def strLt (a b : Str) : Bool := decide (a.cps.toList < b.cps.toList)
noncomputable def rowLt (r r' : List Pair) : Bool := lexW pairEq' pairLt true false r r'
noncomputable def namesLt (n n' : List Str) : Bool := lexW strEq strLt true false n n'
noncomputable def sumEq : List Pair ⊕ List Str → List Pair ⊕ List Str → Bool
  | .inl a, .inl b => decide (a = b)
  | .inr a, .inr b => decide (a = b)
  | _, _ => false
noncomputable def sumLt : List Pair ⊕ List Str → List Pair ⊕ List Str → Bool
  | .inl a, .inl b => rowLt a b
  | .inr a, .inr b => namesLt a b
  | _, _ => false
noncomputable def placeLt (p q : Place) : Bool := lexW sumEq sumLt true false [.inl p.1, .inr p.2] [.inl q.1, .inr q.2]
theorem pairD_inj {p q : Pair} : pairD p = pairD q ↔ p = q := by
  unfold pairD
  constructor
  · intro h
    injection h with h; injection h with h1 h2; injection h1 with h1; injection h2 with h2 _; injection h2 with h2
    exact Prod.ext h1 h2
  · rintro rfl; rfl
theorem map_inj' {α β : Type} {f : α → β} (hf : ∀ a b, f a = f b ↔ a = b) : ∀ {l r : List α}, l.map f = r.map f ↔ l = r
  | [], [] => by simp
  | [], _ :: _ => by simp
  | _ :: _, [] => by simp
  | a :: l, b :: r => by rw [List.map_cons, List.map_cons, List.cons.injEq, hf, map_inj' hf, List.cons.injEq]
theorem rowD_inj {p q : List Pair} : rowD p = rowD q ↔ p = q := by
  unfold rowD
  rw [Dat.list.injEq]
  exact map_inj' (fun _ _ => pairD_inj)
theorem namesD_inj {p q : List Str} : namesD p = namesD q ↔ p = q := by
  unfold namesD
  rw [Dat.tuple.injEq]
  exact map_inj' (fun _ _ => by rw [Dat.str.injEq])
theorem placeD_inj {p q : Place} : placeD p = placeD q ↔ p = q := by
  unfold placeD
  rw [Dat.tuple.injEq, List.cons.injEq, List.cons.injEq, rowD_inj, namesD_inj]
  constructor
  · rintro ⟨h1, h2, _⟩; exact Prod.ext h1 h2
  · rintro rfl; exact ⟨rfl, rfl, rfl⟩
noncomputable def NmsStr (ns : List Str) : Prop := ∀ n ∈ ns, PyData.strOk n = true
theorem pairD_ok (n : Nat) (p : Pair) : kqdOk (n + 1) (pairD p) = true := by simp [pairD, kqdOk]
theorem rowD_ok (n : Nat) (r : List Pair) : kqdOk (n + 2) (rowD r) = true := by
  simp only [rowD, kqdOk, List.all_map, List.all_eq_true, Function.comp_def]
  intro p _; exact pairD_ok n p
theorem namesD_ok (n : Nat) {ns : List Str} (h : NmsStr ns) : kqdOk (n + 1) (namesD ns) = true := by
  simp only [namesD, kqdOk, List.all_map, List.all_eq_true, Function.comp_def]
  intro p hp; exact h p hp
theorem placeD_ok (n : Nat) {p : Place} (h : NmsStr p.2) : kqdOk (n + 3) (placeD p) = true := by
  simp only [placeD, kqdOk, List.all_cons, List.all_nil, Bool.and_true, Bool.and_eq_true]
  exact ⟨rowD_ok _ _, namesD_ok _ h⟩
section
variable {A : Around} {s : Shared} {h₀ : Heap} {L : Addr} {news : List (Addr × Obj)}
open Classical in
theorem eqAt_dat (N : News h₀ L s.heap news) {v w : Value} {d e : Dat} (hv : DatIn news v d) (hw : DatIn news w e) (hd : kqdOk 8 d = true) (he : kqdOk 8 e = true) (hu : A.units + 16 < cLine) : SeqAt.EqAt A s v w (decide (d = e)) := by
  obtain ⟨as, rv⟩ := kqd_in N 8 hv hd
  obtain ⟨bs, rw'⟩ := kqd_in N 8 hw he
  have l1 := kqd_lay 8 d hd
  have l2 := kqd_lay 8 e he
  have h := SeqAt.eqAt_reads _ _ A s v w _ _ rv rw' l1.1 l2.1 (by
    have := Nat.min_le_left (kqdP d).depth (kqdP e).depth
    have := l1.2
    omega)
  have e' : PyData.eqv (kqdP d) (kqdP e) = decide (d = e) := by
    by_cases hq : d = e
    · rw [decide_eq_true hq]; exact (kqd_eqv 8 d e 8 hd he).mpr hq
    · rw [decide_eq_false hq]; exact Bool.eq_false_iff.mpr fun x => hq ((kqd_eqv 8 d e 8 hd he).mp x)
  rw [← e']; exact h
theorem datAll_at {vs : List Value} {ds : List Dat} (h : DatAll news vs ds) {j : Nat} (h1 : j < vs.toArray.size) (h2 : j < ds.length) : DatIn news vs.toArray[j] ds[j] := by
  obtain ⟨v, hv, hd⟩ := h.get h2
  have : vs.toArray[j] = v := by
    have e := List.getElem?_eq_some_iff.mp hv
    obtain ⟨hh, e⟩ := e
    simpa using e
  rw [this]; exact hd
theorem units_in1 (A : Around) : A.in1.units = A.units + 1 := rfl
theorem datInt {v : Value} {i : Int} (h : DatIn news v (.int i)) : ∃ t, v = .int i t := by
  cases h with
  | int _ t => exact ⟨t, rfl⟩
theorem datStr {v : Value} {x : Str} (h : DatIn news v (.str x)) : ∃ t, v = .str x t := by
  cases h with
  | str _ t => exact ⟨t, rfl⟩
theorem datTup {v : Value} {ds : List Dat} (h : DatIn news v (.tuple ds)) : ∃ (a : Addr) (vs : List Value) (n : Nat), v = .ref a ∧ (a, ({ cls := .type "tuple", data := .seq vs.toArray n } : Obj)) ∈ news ∧ DatAll news vs ds := by
  cases h with
  | tuple hm r => exact ⟨_, _, _, rfl, hm, r⟩
theorem datLst {v : Value} {ds : List Dat} (h : DatIn news v (.list ds)) : ∃ (a : Addr) (vs : List Value) (n : Nat), v = .ref a ∧ (a, listOf vs.toArray n) ∈ news ∧ DatAll news vs ds := by
  cases h with
  | list hm r => exact ⟨_, _, _, rfl, hm, r⟩
theorem datCons {vs : List Value} {d : Dat} {ds : List Dat} (h : DatAll news vs (d :: ds)) : ∃ v r, vs = v :: r ∧ DatIn news v d ∧ DatAll news r ds := by
  cases h with
  | cons h1 r => exact ⟨_, _, rfl, h1, r⟩
theorem ltAt_pair (N : News h₀ L s.heap news) {v w : Value} {p q : Pair} (hv : DatIn news v (pairD p)) (hw : DatIn news w (pairD q)) (hu : A.units + 40 < cLine) : OpAt .Lt A s v w (pairLt p q) := by
  obtain ⟨a, vs, n, rfl, hm, r⟩ := datTup hv
  obtain ⟨b, ws, k, rfl, hm2, r2⟩ := datTup hw
  · · have i1 : s.heap.IsTuple a vs.toArray := ⟨_, (N _ hm).1, rfl, _, rfl⟩
      have i2 : s.heap.IsTuple b ws.toArray := ⟨_, (N _ hm2).1, rfl, _, rfl⟩
      have n1 := r.length
      have n2 := r2.length
      have hin := units_in1 A
      refine lt_tuples intEq intLt (as := [p.1, p.2]) (bs := [q.1, q.2]) (by simpa using n1.symm) (by simpa using n2.symm) i1 i2 (by omega) ?_ ?_
      · intro j j1 j2
        have z1 := datAll_at r j1 (by simpa [← n1] using j1)
        have z2 := datAll_at r2 j2 (by simpa [← n2] using j2)
        have j3 : j < 2 := by simpa [n1] using j1
        have : j = 0 ∨ j = 1 := by omega
        rcases this with rfl | rfl
        · have := eqAt_dat (A := A.in1) N z1 z2 rfl rfl (by omega)
          simpa [intEq] using this
        · have := eqAt_dat (A := A.in1) N z1 z2 rfl rfl (by omega)
          simpa [intEq] using this
      · intro j j1 j2
        have z1 := datAll_at r j1 (by simpa [← n1] using j1)
        have z2 := datAll_at r2 j2 (by simpa [← n2] using j2)
        have j3 : j < 2 := by simpa [n1] using j1
        have : j = 0 ∨ j = 1 := by omega
        rcases this with rfl | rfl
        · obtain ⟨t, ht⟩ := datInt (i := p.1) z1
          obtain ⟨u, hu9⟩ := datInt (i := q.1) z2
          rw [ht, hu9]; exact ltAt_int _ _ _ _
        · obtain ⟨t, ht⟩ := datInt (i := p.2) z1
          obtain ⟨u, hu9⟩ := datInt (i := q.2) z2
          rw [ht, hu9]; exact ltAt_int _ _ _ _
theorem ltAt_row (N : News h₀ L s.heap news) {v w : Value} {p q : List Pair} (hv : DatIn news v (rowD p)) (hw : DatIn news w (rowD q)) (hu : A.units + 50 < cLine) : OpAt .Lt A s v w (rowLt p q) := by
  unfold rowD at hv hw
  obtain ⟨a, vs, n, rfl, hm, r⟩ := datLst hv
  obtain ⟨b, ws, k, rfl, hm2, r2⟩ := datLst hw
  · · have i1 : s.heap.IsList a vs.toArray := ⟨_, (N _ hm).1, rfl, _, rfl⟩
      have i2 : s.heap.IsList b ws.toArray := ⟨_, (N _ hm2).1, rfl, _, rfl⟩
      have n1 := r.length
      have n2 := r2.length
      rw [List.length_map] at n1 n2
      have hin := units_in1 A
      refine lt_lists pairEq' pairLt (as := p) (bs := q) (by simpa using n1.symm) (by simpa using n2.symm) i1 i2 (by omega) ?_ ?_
      · intro j j1 j2
        have z1 := datAll_at r j1 (by simpa [← n1] using j1)
        have z2 := datAll_at r2 j2 (by simpa [← n2] using j2)
        rw [List.getElem_map] at z1 z2
        have := eqAt_dat (A := A.in1) N z1 z2 (pairD_ok _ _) (pairD_ok _ _) (by omega)
        simpa [pairEq', pairD_inj] using this
      · intro j j1 j2
        have z1 := datAll_at r j1 (by simpa [← n1] using j1)
        have z2 := datAll_at r2 j2 (by simpa [← n2] using j2)
        rw [List.getElem_map] at z1 z2
        exact ltAt_pair N z1 z2 (by omega)
theorem ltAt_names (N : News h₀ L s.heap news) {v w : Value} {p q : List Str} (hv : DatIn news v (namesD p)) (hw : DatIn news w (namesD q)) (hp : NmsStr p) (hq : NmsStr q) (hu : A.units + 50 < cLine) : OpAt .Lt A s v w (namesLt p q) := by
  unfold namesD at hv hw
  obtain ⟨a, vs, n, rfl, hm, r⟩ := datTup hv
  obtain ⟨b, ws, k, rfl, hm2, r2⟩ := datTup hw
  · · have i1 : s.heap.IsTuple a vs.toArray := ⟨_, (N _ hm).1, rfl, _, rfl⟩
      have i2 : s.heap.IsTuple b ws.toArray := ⟨_, (N _ hm2).1, rfl, _, rfl⟩
      have n1 := r.length
      have n2 := r2.length
      rw [List.length_map] at n1 n2
      have hin := units_in1 A
      refine lt_tuples strEq strLt (as := p) (bs := q) (by simpa using n1.symm) (by simpa using n2.symm) i1 i2 (by omega) ?_ ?_
      · intro j j1 j2
        have z1 := datAll_at r j1 (by simpa [← n1] using j1)
        have z2 := datAll_at r2 j2 (by simpa [← n2] using j2)
        rw [List.getElem_map] at z1 z2
        have := eqAt_dat (A := A.in1) N z1 z2 (by simpa [kqdOk] using hp _ (List.getElem_mem _)) (by simpa [kqdOk] using hq _ (List.getElem_mem _)) (by omega)
        simpa [strEq] using this
      · intro j j1 j2
        have z1 := datAll_at r j1 (by simpa [← n1] using j1)
        have z2 := datAll_at r2 j2 (by simpa [← n2] using j2)
        rw [List.getElem_map] at z1 z2
        obtain ⟨t, ht⟩ := datStr z1
        obtain ⟨u, hu9⟩ := datStr z2
        rw [ht, hu9]; exact ltAt_str _ _ _ _
theorem ltAt_place (N : News h₀ L s.heap news) {v w : Value} {p q : Place} (hv : DatIn news v (placeD p)) (hw : DatIn news w (placeD q)) (hp : NmsStr p.2) (hq : NmsStr q.2) (hu : A.units + 60 < cLine) : OpAt .Lt A s v w (placeLt p q) := by
  unfold placeD at hv hw
  obtain ⟨a, vs, n, rfl, hm, r⟩ := datTup hv
  obtain ⟨b, ws, k, rfl, hm2, r2⟩ := datTup hw
  · · have i1 : s.heap.IsTuple a vs.toArray := ⟨_, (N _ hm).1, rfl, _, rfl⟩
      have i2 : s.heap.IsTuple b ws.toArray := ⟨_, (N _ hm2).1, rfl, _, rfl⟩
      have n1 := r.length
      have n2 := r2.length
      have hin := units_in1 A
      refine lt_tuples sumEq sumLt (as := [.inl p.1, .inr p.2]) (bs := [.inl q.1, .inr q.2]) (by simpa using n1.symm) (by simpa using n2.symm) i1 i2 (by omega) ?_ ?_
      · intro j j1 j2
        have z1 := datAll_at r j1 (by simpa [← n1] using j1)
        have z2 := datAll_at r2 j2 (by simpa [← n2] using j2)
        have j3 : j < 2 := by simpa [n1] using j1
        have : j = 0 ∨ j = 1 := by omega
        rcases this with rfl | rfl
        · have := eqAt_dat (A := A.in1) N z1 z2 (rowD_ok _ _) (rowD_ok _ _) (by omega)
          simpa [sumEq, rowD_inj] using this
        · have := eqAt_dat (A := A.in1) N z1 z2 (namesD_ok _ hp) (namesD_ok _ hq) (by omega)
          simpa [sumEq, namesD_inj] using this
      · intro j j1 j2
        have z1 := datAll_at r j1 (by simpa [← n1] using j1)
        have z2 := datAll_at r2 j2 (by simpa [← n2] using j2)
        have j3 : j < 2 := by simpa [n1] using j1
        have : j = 0 ∨ j = 1 := by omega
        rcases this with rfl | rfl
        · exact ltAt_row N z1 z2 (by omega)
        · exact ltAt_names N z1 z2 hp hq (by omega)
end
end Mine
end SK3
section SK4
open PySem PySem.W PyProof.Rows PySem.Calls
namespace Mine
open LCg LCt
section
variable {prog : Program} {w : World} {A : Around} {E : Value → Shared → Prop} {s : Shared} {h₀ : Heap} {L : Addr} {m : Str → Option Value} {env : Env}
inductive SrcR (prog : Program) (w : World) (A : Around) (h₀ : Heap) (L : Addr) (m : Str → Option Value) (Rest : Shared → (Led → Prop) → (Nat → Value → Prop) → Nat → Led → Prop) (it : Value) (s₂ : Shared) : Prop
  | mk (I : Addr) (fp : List Addr) (n : Nat) (P : Nat → Value → Prop) (St : Nat → Heap → Prop) (S : Led → Prop) (news : Led) (e : it = .ref I) (W : Walks prog w A I fp [I] n P St) (hsz : n ≤ sizeLine) (hIo : ∀ i h, St i h → ∃ o, h.get? I = some o)
    (hSt : ∀ i h h' o nw, St i h → h.get? I = some o → h'.get? I = some o → (∀ b o, h₀.get? b = some o → h'.get? b = some o) → News h₀ L h' nw → S nw → St i h') (hst : St 0 s₂.heap) (hfp : ∀ b ∈ fp, b < s₂.heap.objs.size)
    (F : Fr h₀ L s₂.heap m) (N : News h₀ L s₂.heap news) (hIL : L ≠ I) (hI : h₀.get? I = none) (off : ∀ p ∈ news, p.1 ≠ I) (hS : S news) (R : Rest s₂ S P n news)
/-- a source of a comprehension, by any walk -/
noncomputable def SrcG (prog : Program) (w : World) (A : Around) (h₀ : Heap) (L : Addr) (m : Str → Option Value) (Rest : Shared → (Led → Prop) → (Nat → Value → Prop) → Nat → Led → Prop) (E : Value → Shared → Prop) (xv : Value) (s₁ : Shared) : Prop :=
  wpAny (model prog w) A (pyIter xv) (SrcR prog w A h₀ L m Rest) E s₁
theorem srcG_tuple {Rest : Shared → (Led → Prop) → (Nat → Value → Prop) → Nat → Led → Prop} {ax : Addr} {vs : List Value} {news : Led} (hh : A.handled = none) (F : Fr h₀ L s.heap m) (N : News h₀ L s.heap news) (hm : (ax, ({ cls := .type "tuple", data := .seq vs.toArray } : Obj)) ∈ news) (hsz : vs.length ≤ 1000000)
    (h : ∀ g, Rest { s with heap := g } (fun nw => (ax, ({ cls := .type "tuple", data := .seq vs.toArray } : Obj)) ∈ nw) (fun i v => vs[i]? = some v) vs.length news) : SrcG prog w A h₀ L m Rest E (.ref ax) s := by
  have hc9 := sizeLine_eq
  have ht : s.heap.IsTuple ax vs.toArray := ⟨_, (N _ hm).1, rfl, _, rfl⟩
  have lt : ∀ p ∈ news, p.1 < s.heap.objs.size := fun p hp => Heap.lt_size (N p hp).1
  have hlt := lt _ hm
  have W := Walks.tuple (prog := prog) (w := w) (A := A) hh s.heap.objs.size ax (Nat.ne_of_lt hlt) vs.toArray
  have e1 : vs.toArray.size = vs.length := List.size_toArray ..
  have e2 : (fun (i : Nat) (v : Value) => vs.toArray[i]? = some v) = (fun (i : Nat) (v : Value) => vs[i]? = some v) := by funext i v; simp
  rw [e1, e2] at W
  have up : ∀ b o, s.heap.get? b = some o → (s.heap.push { cls := .type "tuple_iterator", data := .fields #[.ref ax, .int 0 0] }).get? b = some o := fun b o e => Heap.get?_push_of_some _ e
  refine wpAny_pyIter_tuple ht ⟨_, _, _, _, _, _, news, rfl, W, by omega, ?_, ?_, ?_, ?_, F.keeps up, N.grown up, Nat.ne_of_lt F.ns.lt, next_is_new F, fun p hp => Nat.ne_of_lt (lt p hp), hm, h _⟩
  · rintro i g ⟨⟨o, e, _⟩, _⟩; exact ⟨o, e⟩
  · rintro i g g' o nw ⟨⟨o', q, r⟩, _⟩ e e' k N' hS
    rw [e] at q; cases q
    exact ⟨⟨o, e', r⟩, _, (N' _ hS).1, rfl, _, rfl⟩
  · exact ⟨⟨_, Heap.get?_push_size _ rfl, rfl, rfl⟩, ht.at fun o e => up _ o e⟩
  · intro b hb
    show b < (s.heap.push _).objs.size
    rw [Heap.size_push]
    rcases List.mem_cons.mp hb with rfl | hb
    · exact Nat.lt_succ_self _
    · rw [List.mem_singleton.mp hb]; exact Nat.lt_succ_of_lt hlt
theorem srcG_list {Rest : Shared → (Led → Prop) → (Nat → Value → Prop) → Nat → Led → Prop} {ax : Addr} {vs : List Value} {k : Nat} {news : Led} (hh : A.handled = none) (F : Fr h₀ L s.heap m) (N : News h₀ L s.heap news) (hm : (ax, listOf vs.toArray k) ∈ news) (hsz : vs.length ≤ 1000000)
    (h : ∀ g, Rest { s with heap := g } (fun nw => (ax, listOf vs.toArray k) ∈ nw) (fun i v => vs[i]? = some v) vs.length news) : SrcG prog w A h₀ L m Rest E (.ref ax) s := by
  have hc9 := sizeLine_eq
  have ht : s.heap.IsList ax vs.toArray := ⟨_, (N _ hm).1, rfl, _, rfl⟩
  have lt : ∀ p ∈ news, p.1 < s.heap.objs.size := fun p hp => Heap.lt_size (N p hp).1
  have hlt := lt _ hm
  have W := Walks.list (prog := prog) (w := w) (A := A) hh s.heap.objs.size ax (Nat.ne_of_lt hlt) vs.toArray
  have e1 : vs.toArray.size = vs.length := List.size_toArray ..
  have e2 : (fun (i : Nat) (v : Value) => vs.toArray[i]? = some v) = (fun (i : Nat) (v : Value) => vs[i]? = some v) := by funext i v; simp
  rw [e1, e2] at W
  have up : ∀ b o, s.heap.get? b = some o → (s.heap.push { cls := .type "list_iterator", data := .fields #[.ref ax, .int 0 0] }).get? b = some o := fun b o e => Heap.get?_push_of_some _ e
  refine wpAny_pyIter_list ht ⟨_, _, _, _, _, _, news, rfl, W, by omega, ?_, ?_, ?_, ?_, F.keeps up, N.grown up, Nat.ne_of_lt F.ns.lt, next_is_new F, fun p hp => Nat.ne_of_lt (lt p hp), hm, h _⟩
  · rintro i g ⟨⟨o, e, _⟩, _⟩; exact ⟨o, e⟩
  · rintro i g g' o nw ⟨⟨o', q, r⟩, _⟩ e e' k N' hS
    rw [e] at q; cases q
    exact ⟨⟨o, e', r⟩, _, (N' _ hS).1, rfl, _, rfl⟩
  · exact ⟨⟨_, Heap.get?_push_size _ rfl, rfl, rfl⟩, ht.at fun o e => up _ o e⟩
  · intro b hb
    show b < (s.heap.push _).objs.size
    rw [Heap.size_push]
    rcases List.mem_cons.mp hb with rfl | hb
    · exact Nat.lt_succ_self _
    · rw [List.mem_singleton.mp hb]; exact Nat.lt_succ_of_lt hlt
/-- the signs of a text -/
noncomputable def SignOf (x : Str) (i : Nat) (v : Value) : Prop := ∃ c t, x.cps[i]? = some c ∧ v = .str ⟨#[c]⟩ t
theorem srcG_str {Rest : Shared → (Led → Prop) → (Nat → Value → Prop) → Nat → Led → Prop} {x : Str} {t : Tok} {news : Led} (hh : A.handled = none) (F : Fr h₀ L s.heap m) (N : News h₀ L s.heap news) (hsz : x.length ≤ 1000000)
    (h : ∀ g, Rest { s with heap := g } (fun _ => True) (SignOf x) x.length news) : SrcG prog w A h₀ L m Rest E (.str x t) s := by
  have hc9 := sizeLine_eq
  have lt : ∀ p ∈ news, p.1 < s.heap.objs.size := fun p hp => Heap.lt_size (N p hp).1
  have up : ∀ b o, s.heap.get? b = some o → (s.heap.push { cls := .type (strIterType x), data := .fields #[.str x t, .int 0 0] }).get? b = some o := fun b o e => Heap.get?_push_of_some _ e
  have hfp : ∀ b ∈ [s.heap.objs.size], b < (s.heap.push { cls := .type (strIterType x), data := .fields #[.str x t, .int 0 0] }).objs.size := by
    intro b hb
    rw [Heap.size_push, List.mem_singleton.mp hb]; exact Nat.lt_succ_self _
  refine wpAny_pyIter_strU ?_
  cases ha : x.cps.all (· < 128)
  · refine ⟨_, _, _, _, _, fun _ => True, news, rfl, Walks.strWide hh s.heap.objs.size x t, by show x.length ≤ sizeLine; omega, ?_, ?_, ?_, hfp, F.keeps up, N.grown up, Nat.ne_of_lt F.ns.lt, next_is_new F, fun p hp => Nat.ne_of_lt (lt p hp), trivial, h _⟩
    · rintro i g ⟨o, e, _⟩; exact ⟨o, e⟩
    · rintro i g g' o nw ⟨o', q, r⟩ e e' k N' hS
      rw [e] at q; cases q
      exact ⟨o, e', r⟩
    · exact ⟨_, Heap.get?_push_size _ rfl, by simp [strIterType, ha], rfl⟩
  · refine ⟨_, _, _, _, _, fun _ => True, news, rfl, Walks.strAscii hh s.heap.objs.size x t, by show x.length ≤ sizeLine; omega, ?_, ?_, ?_, hfp, F.keeps up, N.grown up, Nat.ne_of_lt F.ns.lt, next_is_new F, fun p hp => Nat.ne_of_lt (lt p hp), trivial, h _⟩
    · rintro i g ⟨o, e, _⟩; exact ⟨o, e⟩
    · rintro i g g' o nw ⟨o', q, r⟩ e e' k N' hS
      rw [e] at q; cases q
      exact ⟨o, e', r⟩
    · exact ⟨_, Heap.get?_push_size _ rfl, by simp [strIterType, ha], rfl⟩
theorem ListComp_G {elt iter : Expr} {x : Str} {px : Pos} {scope : Scope} {cl : List (Str × Addr)} {pos : Pos} {Q : Value → Shared → Prop} (F₀ : Fr h₀ L s.heap m)
    (hclos : closureFor scope env = pure cl) (hcell : ∀ y ∈ scope.names, y.2 ≠ .cell) (hkind : scope.kind = .function)
    (hnames : ∀ y ∈ scope.names, y.2 = .local → scope.names.lookup y.1 = some .local) (hx : scope.names.lookup x = some .local) (hs : ∀ x, foldedSetIterable iter env x = pure x)
    (h : wpAny (model prog w) A (eval iter env) (SrcG prog w A h₀ L m (fun s₂ S P n news => CompRest prog w A h₀ L m env elt x scope cl s₂ S P (FinE h₀ L m s₂ Q) n 0 [] news) E) E s) :
    wpAny (model prog w) A (eval (.ListComp elt [⟨.Name x px, iter, [], 0⟩] scope pos) env) Q E s := by
  rw [eval_ListComp]
  refine wpAny_comprehension_free (use := none) rfl hs hclos hkind hnames (wpAny_mono h (fun xv s₁ h₁ => wpAny_mono h₁ (fun it s₂ h₂ => ?_) fun _ _ e => e) fun _ _ e => e)
  obtain ⟨I, fp, n, P, St, S, news, rfl, W, hsz, hIo, hSt, hst, hfp, F, N, hIL, hI₀, off, hS, R⟩ := h₂
  refine block_U W hsz hIo hSt hcell hkind hx hst hfp F N hIL hI₀ off hS R ?_
  intro D C h tk m' ys news' F' N' o1 hn hC₀ hD₀ hCL hDL hCD offC fin
  refine ⟨m', hn, fun h'' hs'' => fin D h'' tk (F'.change hs'' hCL hC₀) (fun p hp => ?_) o1⟩
  refine ⟨hs''.extBut _ _ ?_ (N' p hp).1, (N' p hp).2⟩
  rcases List.mem_cons.mp hp with rfl | hp
  · exact Ne.symm hCD
  · exact offC p hp
theorem ListComp_GT {ct elt iter : Expr} {x : Str} {px : Pos} {scope : Scope} {cl : List (Str × Addr)} {pos : Pos} {Q : Value → Shared → Prop} (F₀ : Fr h₀ L s.heap m)
    (hclos : closureFor scope env = pure cl) (hcell : ∀ y ∈ scope.names, y.2 ≠ .cell) (hkind : scope.kind = .function)
    (hnames : ∀ y ∈ scope.names, y.2 = .local → scope.names.lookup y.1 = some .local) (hx : scope.names.lookup x = some .local) (hs : ∀ x, foldedSetIterable iter env x = pure x)
    (h : wpAny (model prog w) A (eval iter env) (SrcG prog w A h₀ L m (fun s₂ S P n news => CompRestT prog w A h₀ L m env ct elt x scope cl s₂ S P (FinE h₀ L m s₂ Q) n 0 [] news) E) E s) :
    wpAny (model prog w) A (eval (.ListComp elt [⟨.Name x px, iter, [ct], 0⟩] scope pos) env) Q E s := by
  rw [eval_ListComp]
  refine wpAny_comprehension_free (use := none) rfl hs hclos hkind hnames (wpAny_mono h (fun xv s₁ h₁ => wpAny_mono h₁ (fun it s₂ h₂ => ?_) fun _ _ e => e) fun _ _ e => e)
  obtain ⟨I, fp, n, P, St, S, news, rfl, W, hsz, hIo, hSt, hst, hfp, F, N, hIL, hI₀, off, hS, R⟩ := h₂
  refine block_T W hsz hIo hSt hcell hkind hx hst hfp F N hIL hI₀ off hS R ?_
  intro D C h tk m' ys news' F' N' o1 hn hC₀ hD₀ hCL hDL hCD offC fin
  refine ⟨m', hn, fun h'' hs'' => fin D h'' tk (F'.change hs'' hCL hC₀) (fun p hp => ?_) o1⟩
  refine ⟨hs''.extBut _ _ ?_ (N' p hp).1, (N' p hp).2⟩
  rcases List.mem_cons.mp hp with rfl | hp
  · exact Ne.symm hCD
  · exact offC p hp
theorem Assign_ListComp_G {elt iter : Expr} {x y : Str} {px py : Pos} {scope : Scope} {cl : List (Str × Addr)} {pos spos : Pos} {Q : Flow → Shared → Prop} (F₀ : Fr h₀ L s.heap m) (hLe : env.locals = L)
    (hsw : swapsWith (.ListComp elt [⟨.Name x px, iter, [], 0⟩] scope pos) (some (.Name y py)) spos.line env = pure true)
    (hclos : closureFor scope env = pure cl) (hcell : ∀ z ∈ scope.names, z.2 ≠ .cell) (hkind : scope.kind = .function)
    (hnames : ∀ z ∈ scope.names, z.2 = .local → scope.names.lookup z.1 = some .local) (hx : scope.names.lookup x = some .local)
    (hy : env.kindOf y = some .local) (hp : (env.scope.kind == .class || (env.scope.kind == .module && env.locals != env.globals)) = false) (hs : ∀ x, foldedSetIterable iter env x = pure x)
    (h : wpAny (model prog w) A (eval iter env) (SrcG prog w A h₀ L m (fun s₂ S P n news => CompRest prog w A h₀ L m env elt x scope cl s₂ S P (FinA h₀ L m s₂ y Q) n 0 [] news) E) E s) :
    wpAny (model prog w) A (exec (.Assign [.Name y py] (.ListComp elt [⟨.Name x px, iter, [], 0⟩] scope pos) spos) env) Q E s := by
  subst hLe
  rw [exec_Assign_Name_used _ _ _ _ hsw]
  refine wpAny_bind (wpAny_standAt (wpAny_bind ?_))
  show wpAny _ A (do let _ ← comprehension (.ListComp elt [⟨.Name x px, iter, [], 0⟩] scope pos) scope env _ (newList []) false (eval iter env) (some (assign (.Name y py) env))) _ _ s
  refine wpAny_bind (wpAny_mono (wpAny_comprehension_free (use := some (assign (.Name y py) env)) (Q := fun _ s' => Q .next s') rfl hs hclos hkind hnames
    (wpAny_mono h (fun xv s₁ h₁ => wpAny_mono h₁ (fun it s₂ h₂ => ?_) fun _ _ e => e) fun _ _ e => e)) (fun _ s' hq => wpAny_pure (wpAny_pure hq)) fun _ _ e => e)
  obtain ⟨I, fp, n, P, St, S, news, rfl, W, hsz, hIo, hSt, hst, hfp, F, N, hIL, hI₀, off, hS, R⟩ := h₂
  refine block_U W hsz hIo hSt hcell hkind hx hst hfp F N hIL hI₀ off hS R ?_
  intro D C h' tk m' ys news' F' N' o1 hn hC₀ hD₀ hCL hDL hCD offC fin
  show wpAny _ A (assign (.Name y py) env (.ref D)) _ _ _
  refine wpAny_assign_Name (wpAny_storeName_local hy F'.ns (fun h₂ hn₂ hs₂ => ?_) hp)
  have hL₀ : h₀.get? env.locals = none := Heap.get?_none_of_le F'.above
  have F₂ : Fr h₀ env.locals h₂ (fun z => if z = y then some (.ref D) else m z) := ⟨hn₂, fun b o e => hs₂.extBut b o (fun q => by rw [q, hL₀] at e; cases e) (F'.keep b o e), F'.above⟩
  refine ⟨m', hn.sameBut hs₂ hCL, fun h'' hs'' => fin D h'' _ (F₂.change hs'' hCL hC₀) (fun p hp => ?_) o1⟩
  have z : h₂.get? p.1 = some p.2 := hs₂.extBut _ _ (N' p hp).2.1 (N' p hp).1
  refine ⟨hs''.extBut _ _ ?_ z, (N' p hp).2⟩
  rcases List.mem_cons.mp hp with rfl | hp
  · exact Ne.symm hCD
  · exact offC p hp
theorem compEnd_new {s₁ : Shared} {I C D A1 : Addr} {oI oC oD o1 : Obj} {S : Led → Prop} {rest : Value → Led → Prop} {y : Value} {h' : Heap} {tk : Nat} {old : Led} (hA : A1 ≠ I ∧ A1 ≠ C ∧ A1 ≠ D) (F : Fr h₀ L h' m)
    (N : News h₀ L h' ((A1, o1) :: (I, oI) :: (C, oC) :: (D, oD) :: old)) (off : Off3 I C D old) (hS : S ((A1, o1) :: old)) (r : rest y ((A1, o1) :: old)) :
    CompEnd h₀ L m s₁ I oI C oC D oD S rest y { s₁ with heap := h', toks := tk } := by
  refine CompEnd.intro F N ((A1, o1) :: old) ?_ ⟨hA, off⟩ hS r
  intro p hp
  simp only [List.mem_cons] at hp ⊢
  rcases hp with e | e | e | e | e <;> simp [e]
theorem new_apart {h : Heap} {I C D : Addr} {oI oC oD : Obj} {old : Led} (N : News h₀ L h ((I, oI) :: (C, oC) :: (D, oD) :: old)) : h.objs.size ≠ I ∧ h.objs.size ≠ C ∧ h.objs.size ≠ D :=
  ⟨Nat.ne_of_gt (Heap.lt_size (N _ (.head _)).1), Nat.ne_of_gt (Heap.lt_size (N _ (.tail _ (.head _))).1), Nat.ne_of_gt (Heap.lt_size (N _ (.tail _ (.tail _ (.head _)))).1)⟩
theorem compEnd_same {s₁ : Shared} {I C D : Addr} {oI oC oD : Obj} {S : Led → Prop} {rest : Value → Led → Prop} {y : Value} {h' : Heap} {tk : Nat} {old now : Led} (F : Fr h₀ L h' m)
    (N : News h₀ L h' now) (hn : ∀ p ∈ (I, oI) :: (C, oC) :: (D, oD) :: old, p ∈ now) (off : Off3 I C D old) (hS : S old) (r : rest y old) :
    CompEnd h₀ L m s₁ I oI C oC D oD S rest y { s₁ with heap := h', toks := tk } := CompEnd.intro F N old hn off hS r
/-- the turns of a comprehension by an invariant -/
theorem rest_inv {elt : Expr} {x : Str} {scope : Scope} {cl : List (Str × Addr)} {S : Led → Prop} {P : Nat → Value → Prop} {Fin : List Value → Led → Prop} {news : Led} (J : Nat → List Value → Led → Prop) (n : Nat) (h0 : J 0 [] news)
    (turn : ∀ i ys nw v I oI C oC D m₂ h tk (E' : Value → Shared → Prop), i < n → J i ys nw → P i v → NsObj oC m₂ → m₂ x = some v → Fr h₀ L h m → News h₀ L h ((I, oI) :: (C, oC) :: (D, lst ys) :: nw) → Off3 I C D nw → ((@Ne Nat I C) ∧ (@Ne Nat I D) ∧ (@Ne Nat C D)) →
      wpAny (model prog w) A (eval elt (compEnvC scope cl C env)) (CompEnd h₀ L m { s with heap := h, toks := tk } I oI C oC D (lst ys) S (fun y nw' => J (i + 1) (ys ++ [y]) nw')) E' { s with heap := h, toks := tk })
    (fin : ∀ ys nw, J n ys nw → Fin ys nw) : CompRest prog w A h₀ L m env elt x scope cl s S P Fin n 0 [] news := by
  have key : ∀ (j i : Nat) (ys : List Value) (nw : Led), i + j = n → J i ys nw → CompRest prog w A h₀ L m env elt x scope cl s S P Fin j i ys nw := by
    intro j
    induction j with
    | zero =>
      intro i ys nw hi hj
      have : i = n := by omega
      subst this
      exact CompRest.zero (fin ys nw hj)
    | succ j ih =>
      intro i ys nw hi hj
      refine CompRest.succ ?_
      intro v I oI C oC D m₂ h tk E' hv hC hx F N off ne
      refine wpAny_mono (turn i ys nw v I oI C oC D m₂ h tk E' (by omega) hj hv hC hx F N off ne) (fun y s₂ hq => ?_) fun _ _ e => e
      obtain ⟨h', tk', nw', e, F', N', off', hS, hj'⟩ := hq
      exact ⟨h', tk', nw', e, F', N', off', hS, ih (i + 1) _ _ (by omega) hj'⟩
  exact key n 0 [] news (by omega) h0
theorem restT_inv {ct elt : Expr} {x : Str} {scope : Scope} {cl : List (Str × Addr)} {S : Led → Prop} {P : Nat → Value → Prop} {Fin : List Value → Led → Prop} {news : Led} (J : Nat → List Value → Led → Prop) (n : Nat) (h0 : J 0 [] news)
    (turn : ∀ i ys nw v I oI C oC D m₂ h tk (E' : Value → Shared → Prop), i < n → J i ys nw → P i v → NsObj oC m₂ → m₂ x = some v → Fr h₀ L h m → News h₀ L h ((I, oI) :: (C, oC) :: (D, lst ys) :: nw) → Off3 I C D nw → ((@Ne Nat I C) ∧ (@Ne Nat I D) ∧ (@Ne Nat C D)) →
      wpAny (model prog w) A (isTrue ct (compEnvC scope cl C env) (eval ct (compEnvC scope cl C env))) (fun ok s' => if ok = true then
        wpAny (model prog w) A (eval elt (compEnvC scope cl C env)) (CompEnd h₀ L m { s with heap := h, toks := tk } I oI C oC D (lst ys) S (fun y nw' => J (i + 1) (ys ++ [y]) nw')) E' s'
        else CompEnd h₀ L m { s with heap := h, toks := tk } I oI C oC D (lst ys) S (fun _ nw' => J (i + 1) ys nw') Value.none s') E' { s with heap := h, toks := tk })
    (fin : ∀ ys nw, J n ys nw → Fin ys nw) : CompRestT prog w A h₀ L m env ct elt x scope cl s S P Fin n 0 [] news := by
  have key : ∀ (j i : Nat) (ys : List Value) (nw : Led), i + j = n → J i ys nw → CompRestT prog w A h₀ L m env ct elt x scope cl s S P Fin j i ys nw := by
    intro j
    induction j with
    | zero =>
      intro i ys nw hi hj
      have : i = n := by omega
      subst this
      exact CompRestT.zero (fin ys nw hj)
    | succ j ih =>
      intro i ys nw hi hj
      refine CompRestT.succ ?_
      intro v I oI C oC D m₂ h tk E' hv hC hx F N off ne
      refine wpAny_mono (turn i ys nw v I oI C oC D m₂ h tk E' (by omega) hj hv hC hx F N off ne) (fun ok s₂ hq => ?_) fun _ _ e => e
      cases ok with
      | true =>
        simp only [if_true] at hq ⊢
        refine wpAny_mono hq (fun y s₃ hq => ?_) fun _ _ e => e
        obtain ⟨h', tk', nw', e, F', N', off', hS, hj'⟩ := hq
        exact ⟨h', tk', nw', e, F', N', off', hS, ih (i + 1) _ _ (by omega) hj'⟩
      | false =>
        simp only [Bool.false_eq_true, if_false] at hq ⊢
        obtain ⟨h', tk', nw', e, F', N', off', hS, hj'⟩ := hq
        exact ⟨h', tk', nw', e, F', N', off', hS, ih (i + 1) _ _ (by omega) hj'⟩
  exact key n 0 [] news (by omega) h0
/-- the turns of a comprehension that keep nothing new -/
theorem rest_keep {elt : Expr} {x : Str} {scope : Scope} {cl : List (Str × Addr)} {S : Led → Prop} {P : Nat → Value → Prop} {Fin : List Value → Led → Prop} {news : Led} (J : Nat → List Value → Prop) (n : Nat) (h0 : J 0 [])
    (turn : ∀ i ys v I oI C oC D m₂ h tk (E' : Value → Shared → Prop), i < n → J i ys → P i v → NsObj oC m₂ → m₂ x = some v → Fr h₀ L h m → News h₀ L h ((I, oI) :: (C, oC) :: (D, lst ys) :: news) → Off3 I C D news → ((@Ne Nat I C) ∧ (@Ne Nat I D) ∧ (@Ne Nat C D)) →
      wpAny (model prog w) A (eval elt (compEnvC scope cl C env)) (CompEnd h₀ L m { s with heap := h, toks := tk } I oI C oC D (lst ys) S (fun y nw' => J (i + 1) (ys ++ [y]) ∧ nw' = news)) E' { s with heap := h, toks := tk })
    (fin : ∀ ys, J n ys → Fin ys news) : CompRest prog w A h₀ L m env elt x scope cl s S P Fin n 0 [] news :=
  rest_inv (fun i ys nw => J i ys ∧ nw = news) n ⟨h0, rfl⟩ (by
    rintro i ys nw v I oI C oC D m₂ h tk E' hi ⟨hj, rfl⟩ hv hC hx F N off ne
    exact turn i ys v I oI C oC D m₂ h tk E' hi hj hv hC hx F N off ne) (by rintro ys nw ⟨hj, rfl⟩; exact fin ys hj)
theorem restT_keep {ct elt : Expr} {x : Str} {scope : Scope} {cl : List (Str × Addr)} {S : Led → Prop} {P : Nat → Value → Prop} {Fin : List Value → Led → Prop} {news : Led} (J : Nat → List Value → Prop) (n : Nat) (h0 : J 0 [])
    (turn : ∀ i ys v I oI C oC D m₂ h tk (E' : Value → Shared → Prop), i < n → J i ys → P i v → NsObj oC m₂ → m₂ x = some v → Fr h₀ L h m → News h₀ L h ((I, oI) :: (C, oC) :: (D, lst ys) :: news) → Off3 I C D news → ((@Ne Nat I C) ∧ (@Ne Nat I D) ∧ (@Ne Nat C D)) →
      wpAny (model prog w) A (isTrue ct (compEnvC scope cl C env) (eval ct (compEnvC scope cl C env))) (fun ok s' => if ok = true then
        wpAny (model prog w) A (eval elt (compEnvC scope cl C env)) (CompEnd h₀ L m { s with heap := h, toks := tk } I oI C oC D (lst ys) S (fun y nw' => J (i + 1) (ys ++ [y]) ∧ nw' = news)) E' s'
        else CompEnd h₀ L m { s with heap := h, toks := tk } I oI C oC D (lst ys) S (fun _ nw' => J (i + 1) ys ∧ nw' = news) Value.none s') E' { s with heap := h, toks := tk })
    (fin : ∀ ys, J n ys → Fin ys news) : CompRestT prog w A h₀ L m env ct elt x scope cl s S P Fin n 0 [] news :=
  restT_inv (fun i ys nw => J i ys ∧ nw = news) n ⟨h0, rfl⟩ (by
    rintro i ys nw v I oI C oC D m₂ h tk E' hi ⟨hj, rfl⟩ hv hC hx F N off ne
    exact turn i ys v I oI C oC D m₂ h tk E' hi hj hv hC hx F N off ne) (by rintro ys nw ⟨hj, rfl⟩; exact fin ys hj)
end
end Mine
end SK4
section SK5
open PySem PySem.W PyProof.Rows PySem.Calls
namespace Mine
open LCg LCt
/-- are sets walked in an order of the world's -/
noncomputable def byT (w : World) : Bool := w.params.followText "set-order"
noncomputable def setO0 (led : Bool) : Obj := { cls := .type "set", dict := none, data := .set #[] 0 (.fresh 0 0 led), slots := #[] }
noncomputable def tb1 (led : Bool) : SetTable := { mask := 7, place := #[1], dummies := #[], finger := 0, led := led, moves := 0, plain := true }
noncomputable def setO1 (led : Bool) : Obj := { cls := .type "set", dict := none, data := .set #[(1, .bool true)] 1 (tb1 led), slots := #[] }
theorem lay1 (led : Bool) : layNew (.fresh 0 0 led) #[] 1 (.bool true) = (#[(1, .bool true)], tb1 led, false, false) := by cases led <;> decide +kernel
theorem slot_sit_next : Slot "set_iterator" "__next__" "set_iterator.__next__" :=
  .of (owner := "set_iterator") (n := "__next__") (by rw [typeLookup_type, builtinLookup_eq_fast]; kernel_rfl) (by decide +kernel) (by decide +kernel) (by decide +kernel)
    (by first | exact .inl (by decide +kernel) | exact .inr (by decide +kernel)) (by rw [isSubtype_type]; kernel_rfl)
theorem entry_sit_next : entryFor table "set_iterator.__next__" = some Builtin.«set_iterator.__next__» := entryFor_of_tree (by kernel_rfl)
theorem owner_sit : Manifest.owners.lookup (String.ofList ['r', 'o', 't', 'a', 'r', 'e', 't', 'i', '_', 't', 'e', 's'].reverse) = some Manifest.sig_set_iterator := by kernel_rfl
theorem args_sit_next_1 (a : Value) : argsOk "set_iterator.__next__" ⟨[a], []⟩ := by
  unfold argsOk; rw [signature?_of (id := "set_iterator.__next__") (n := ['_', '_', 't', 'x', 'e', 'n', '_', '_']) (o := ['r', 'o', 't', 'a', 'r', 'e', 't', 'i', '_', 't', 'e', 's']) (by kernel_rfl) owner_sit]; kernel_rfl
theorem entry_set_iter' : entryFor table "set.__iter__" = some Builtin.«frozenset.__iter__» :=
  entryFor_alias (id' := "frozenset.__iter__") (by kernel_rfl) rfl (by decide +kernel) (by kernel_rfl)
section
variable {prog : Program} {w : World} {A : Around} {E : Value → Shared → Prop} {s : Shared} {S I : Addr} {led : Bool}
theorem pyHash_true {Q : Int → Shared → Prop} (h : Q 1 { s with toks := s.toks + 1 }) : wpAny (model prog w) A (pyHash (.bool true)) Q E s := by
  have hT : s.TypeIs (.bool true) "bool" := rfl
  unfold pyHash pyHashByItsType
  have hv : [Value.bool true].any Value.onHeap = false := rfl
  refine wpAny_bind ?_
  rw [cRoomFor, if_neg (by rw [hv]; exact Bool.false_ne_true)]; refine wpAny_pure ?_
  refine wpAny_bind (wpAny_specialOf hT PySem.F.slot_bool_hash.lookup ?_)
  show wpAny _ _ (if (some (Value.builtin "int.__hash__") == some Value.none) = true then _ else _) Q E s
  rw [if_neg (by rw [beq_builtin_none]; exact Bool.false_ne_true)]
  refine wpAny_bind (wpAny_specialOf hT PySem.F.slot_bool_hash.lookup ?_)
  show wpAny _ _ (callSpecialIfBoundUnlessNone? (.bool true) "__hash__" _ >>= _) Q E s
  refine wpAny_bind (wpAny_callSpecialIfBoundUnlessNone?_slot hT PySem.F.slot_bool_hash
    (wpAny_call_entry PySem.F.slot_bool_hash hT PySem.F.entry_int_hash
      (show wpAny _ _ (do ret (← mkInt (rawHash 1))) _ _ s from wpAny_ret_mkInt ?_) (by unfold argsOk; kernel_rfl)))
  exact wpAny_pure h
theorem newSet_at {Q : Value → Shared → Prop} (h : Q (.ref s.heap.objs.size) { s with heap := s.heap.push (setO0 (!byT w)) }) : wpAny (model prog w) A (newSet (.type "set")) Q E s := by
  unfold newSet setsByText
  refine wpAny_bind (wpAny_bind (wpAny_askSetting (wpAny_pure ?_)))
  dsimp only
  simp only [newObj]
  exact wpAny_bind (wpAny_alloc (wpAny_pure h))
theorem set_add_first {Q : Value → Shared → Prop} (ho : s.heap.get? S = some (setO0 led)) (h : ∀ h', h'.get? S = some (setO1 led) → Heap.SameBut S s.heap h' → Q .none { s with heap := h', toks := s.toks + 1 }) :
    wpAny (model prog w) A (call (.builtin "set.add") [.ref S, .bool true]) Q E s := by
  have hT : s.TypeIs (.ref S) "set" := ⟨_, ho, rfl⟩
  refine wpAny_call_entry PySem.F.slot_set_add hT PySem.F.entry_set_add ?_ (PySem.F.args_set_add_2 _ _)
  unfold Builtin.«set.add» Builtin.Frozenset.oneOther
  simp only [List.isEmpty_nil, bind_assoc]
  unfold Builtin.Frozenset.addrOf setAdd
  refine wpAny_bind (wpAny_pure ?_)
  try dsimp only
  refine wpAny_bind (wpAny_pure ?_)
  try dsimp only
  refine wpAny_bind ?_
  refine wpAny_holding ?_
  refine wpAny_bind (pyHash_true ?_)
  unfold setAddHashed setAddHashedIn
  refine wpAny_holding (wpAny_bind (wpAny_setState_of (s := { s with toks := s.toks + 1 }) ho rfl (by rfl) ?_))
  dsimp only
  rw [if_pos (show byScan (.bool true) #[] = true by decide +kernel)]
  unfold setAddByScan
  refine wpAny_bind (wpAny_bind (wpAny_rule ?_))
  refine wpAny_bind (m := setScan S (.bool true) 1 true #[]) (wpAny_pure ?_)
  dsimp only
  refine wpAny_bind (wpAny_pure ?_)
  rw [lay1]
  dsimp only
  refine wpAny_bind (wpAny_pure ?_)
  simp only [if_true]
  refine wpAny_bind (wpAny_storeSet_of (s := { s with toks := s.toks + 1 }) ho rfl ?_ (by decide))
  have ht : (!false && (tb1 led).tooFull) = false := by cases led <;> decide +kernel
  rw [ht]
  simp only [Bool.false_eq_true, if_false]
  refine wpAny_pure (wpAny_pure ?_)
  show wpAny _ _ (ret Value.none) _ _ _
  refine wpAny_pure ⟨_, rfl, h _ ?_ (Heap.SameBut.update ..)⟩
  exact Heap.get?_update_self (Obj.putSet #[(1, .bool true)] (tb1 led)) ho rfl
theorem set_add_again {Q : Value → Shared → Prop} (ho : s.heap.get? S = some (setO1 led)) (h : Q .none { s with toks := s.toks + 1 }) :
    wpAny (model prog w) A (call (.builtin "set.add") [.ref S, .bool true]) Q E s := by
  have hT : s.TypeIs (.ref S) "set" := ⟨_, ho, rfl⟩
  refine wpAny_call_entry PySem.F.slot_set_add hT PySem.F.entry_set_add ?_ (PySem.F.args_set_add_2 _ _)
  unfold Builtin.«set.add» Builtin.Frozenset.oneOther
  simp only [List.isEmpty_nil, bind_assoc]
  unfold Builtin.Frozenset.addrOf setAdd
  refine wpAny_bind (wpAny_pure ?_)
  try dsimp only
  refine wpAny_bind (wpAny_pure ?_)
  try dsimp only
  refine wpAny_bind ?_
  refine wpAny_holding ?_
  refine wpAny_bind (pyHash_true ?_)
  unfold setAddHashed setAddHashedIn
  refine wpAny_holding (wpAny_bind (wpAny_setState_of (s := { s with toks := s.toks + 1 }) ho rfl (by cases led <;> rfl) ?_))
  dsimp only
  rw [if_pos (show byScan (.bool true) #[(1, .bool true)] = true by decide +kernel)]
  unfold setAddByScan
  refine wpAny_bind (wpAny_bind (wpAny_rule ?_))
  refine wpAny_bind (m := setScanFrom S (.bool true) 1 true [(1, .bool true)] 0) ?_
  unfold setScanFrom
  rw [if_pos (by decide)]
  unfold setEpoch
  refine wpAny_bind (wpAny_bind (wpAny_setState_of (s := { s with toks := s.toks + 1 }) ho rfl (by cases led <;> rfl) (wpAny_pure ?_)))
  refine wpAny_bind (SeqAt.EqAt.bool_bool true true prog w E _ ?_)
  refine wpAny_pure ?_
  refine wpAny_pure (wpAny_pure ?_)
  show wpAny _ _ (ret Value.none) _ _ _
  exact wpAny_pure ⟨_, rfl, h⟩
noncomputable def sitO (S : Addr) (slot given : Int) : Obj := { cls := .type "set_iterator", data := .fields #[rawInt slot, rawInt given, .ref S, rawInt 1, rawInt 1] }
theorem pyIter_set1 {Q : Value → Shared → Prop} (ho : s.heap.get? S = some (setO1 led)) (h : Q (.ref s.heap.objs.size) { s with heap := s.heap.push (sitO S 0 0) }) : wpAny (model prog w) A (pyIter (.ref S)) Q E s := by
  have hT : s.TypeIs (.ref S) "set" := ⟨_, ho, rfl⟩
  refine wpAny_pyIter_slot hT PySem.F.slot_set_iter (wpAny_call_entry PySem.F.slot_set_iter hT entry_set_iter' ?_ (PySem.F.args_set_iter_1 _))
  unfold Builtin.«frozenset.__iter__» Builtin.Frozenset.slot0 slotArgs
  simp only [List.isEmpty_nil, Bool.not_true, Bool.false_eq_true, ↓reduceIte, bind_assoc, List.length_nil, bne_self_eq_false]
  unfold Builtin.Frozenset.addrOf Builtin.Frozenset.sizeOf
  refine wpAny_bind (wpAny_pure ?_)
  try dsimp only
  refine wpAny_bind (wpAny_pure ?_)
  refine wpAny_bind (wpAny_bind (wpAny_setEntries_of ho rfl (by cases led <;> rfl) (wpAny_pure ?_)))
  unfold setDrawn setsByText
  refine wpAny_bind ?_
  refine wpAny_bind (wpAny_setState_of ho rfl (by cases led <;> rfl) ?_)
  dsimp only
  refine wpAny_bind (wpAny_bind (wpAny_askSetting (wpAny_pure ?_)))
  refine wpAny_pure ?_
  rw [if_neg (by intro hq; have h2 := (Bool.and_eq_true_iff.mp hq).2; cases led <;> exact absurd h2 (by decide))]
  refine wpAny_bind (wpAny_pure ?_)
  unfold setEpoch
  refine wpAny_bind (wpAny_bind (wpAny_setState_of ho rfl (by cases led <;> rfl) (wpAny_pure ?_)))
  exact wpAny_bind (wpAny_newObj_type (wpAny_pure ⟨_, rfl, "set_iterator", _, ⟨_, Heap.get?_push_size _ rfl, rfl⟩, slot_sit_next.lookup, h⟩))
theorem pick_one1 (f : Nat → Nat) (e : Int × Value) : pickOrder f #[e] = #[e] := by
  show pickOrder.go f 1 0 [e] #[] = #[e]
  unfold pickOrder.go
  simp only [List.length_singleton, Nat.mod_one]
  rfl
theorem setNext_at {slot given : Nat} {Q : Option (Value × Nat) → Shared → Prop} (ho : s.heap.get? S = some (setO1 (!byT w)))
    (h : Q (if byT w = true then (if given = 0 then some (.bool true, slot) else none) else (if slot ≤ 1 then some (.bool true, 2) else none)) s) : wpAny (model prog w) A (setNext S slot given 1) Q E s := by
  unfold setNext
  refine wpAny_bind (wpAny_setState_of ho rfl (by cases byT w <;> rfl) ?_)
  dsimp only
  unfold setsByText
  refine wpAny_bind (wpAny_bind (wpAny_askSetting (wpAny_pure ?_)))
  show wpAny _ _ (if byT w = true then _ else _) _ _ _
  cases hb : byT w with
  | true =>
    rw [hb] at h ho
    simp only [if_true] at h ⊢
    rw [if_neg (by decide)]
    unfold setWalk setsByText
    refine wpAny_bind (wpAny_bind (wpAny_setState_of ho rfl (by rfl) ?_))
    dsimp only
    refine wpAny_bind (wpAny_bind (wpAny_askSetting (wpAny_pure ?_)))
    show wpAny _ _ (if byT w = true then _ else _) _ _ _
    rw [if_pos hb]
    refine wpAny_bind (wpAny_askSetting (wpAny_pure ?_))
    rw [pick_one1]
    refine wpAny_pure ?_
    cases given with
    | zero => exact h
    | succ n => rw [if_neg (by omega)] at h; exact h
  | false =>
    rw [hb] at h ho
    simp only [Bool.false_eq_true, if_false] at h ⊢
    rw [if_neg (by decide)]
    refine wpAny_bind (wpAny_pure ?_)
    refine wpAny_pure ?_
    by_cases hs : slot ≤ 1
    · rw [if_pos hs] at h
      have e : SetTable.below (tb1 (!false)).place slot = 0 := by
        show SetTable.below #[1] slot = 0
        unfold SetTable.below
        show SetTable.below.go #[1] slot 1 0 1 = 0
        unfold SetTable.below.go
        rw [if_pos (by decide), if_neg (by show ¬ (1 < slot); omega)]
        rfl
      rw [e]; exact h
    · rw [if_neg hs] at h
      have e : SetTable.below (tb1 (!false)).place slot = 1 := by
        show SetTable.below #[1] slot = 1
        unfold SetTable.below
        show SetTable.below.go #[1] slot 1 0 1 = 1
        unfold SetTable.below.go
        rw [if_pos (by decide), if_pos (by show 1 < slot; omega)]
        rfl
      rw [e]; exact h
theorem sit_set {h : Heap} {slot given k : Int} {i : Nat} (hi : h.get? I = some (sitO S slot given)) (hk : i = 0 ∨ i = 1) : (h.update I (Obj.mapFields fun xs => xs.set! i (rawInt k))).get? I = some (if i = 0 then sitO S k given else sitO S slot k) := by
  rw [Heap.get?_update_self _ hi (by rfl)]
  rcases hk with rfl | rfl <;> rfl
theorem pyNext_set1 {Q : Option Value → Shared → Prop} (hSI : S ≠ I) (ho : s.heap.get? S = some (setO1 (!byT w))) (hi : s.heap.get? I = some (sitO S 0 0))
    (h : ∀ h' (slot : Nat), h'.get? I = some (sitO S (slot : Int) 1) → (byT w = false → slot = 2) → Heap.SameBut I s.heap h' → Q (some (.bool true)) { s with heap := h' }) : wpAny (model prog w) A (pyNext (.ref I)) Q E s := by
  have hT : s.TypeIs (.ref I) "set_iterator" := ⟨_, hi, rfl⟩
  unfold pyNext
  refine wpAny_bind (wpAny_attempt (wpAny_callSpecial?_slot (name := Str.ofString "__next__") hT slot_sit_next
    (wpAny_call_entry slot_sit_next hT entry_sit_next ?_ (args_sit_next_1 _))))
  unfold Builtin.«set_iterator.__next__» slotArgs
  simp only [List.isEmpty_nil, Bool.not_true, Bool.false_eq_true, ↓reduceIte, bind_assoc, List.length_nil, bne_self_eq_false]
  refine wpAny_bind (wpAny_pure ?_)
  dsimp only
  unfold fieldsOf
  refine wpAny_bind (wpAny_bind (wpAny_load hi ?_))
  refine wpAny_pure ?_
  show wpAny _ _ (setEntries S >>= _) _ _ _
  refine wpAny_bind (wpAny_setEntries_of ho rfl (by cases byT w <;> rfl) ?_)
  rw [if_neg (by decide)]
  show wpAny _ _ (setNext S 0 0 1 >>= _) _ _ _
  refine wpAny_bind (setNext_at ho ?_)
  have fin : ∀ slot : Nat, (byT w = false → slot = 2) → wpAny (model prog w) A.in1 (do setField (.ref I) 0 (rawInt (slot : Int)); setField (.ref I) 1 (rawInt (0 + 1)); ret (Value.bool true)) (fun fin s' => ∃ v, fin = Fin.done (Flow.ret v) ∧ wpAny (model prog w) A (pure (some v)) Q E s') (fun e s' =>
      wpAny (model prog w) A (do let z ← isInstance e (Value.type "StopIteration"); if z = true then pure none else throw e) Q E s') s := by
    intro slot hslot
    refine wpAny_bind (wpAny_setField hi rfl (by simp) ?_)
    have h1 := sit_set (k := (slot : Int)) (i := 0) hi (.inl rfl)
    refine wpAny_bind (wpAny_setField h1 rfl (by simp) ?_)
    have h2 := sit_set (k := (1 : Int)) (i := 1) h1 (.inr rfl)
    refine wpAny_pure ⟨_, rfl, wpAny_pure (h _ slot h2 hslot ((Heap.SameBut.update ..).trans (Heap.SameBut.update ..)))⟩
  cases hb : byT w with
  | true => simp only [if_true]; exact fin 0 (by rw [hb]; exact fun q => nomatch q)
  | false => simp only [Bool.false_eq_true, if_false, Nat.zero_le, if_true]; exact fin 2 (fun _ => rfl)
theorem pyNext_set1_end {Q : Option Value → Shared → Prop} {slot : Nat} (hh : A.handled = none) (hSI : S ≠ I) (ho : s.heap.get? S = some (setO1 (!byT w))) (hi : s.heap.get? I = some (sitO S (slot : Int) 1)) (hslot : byT w = false → slot = 2)
    (h : ∀ h', Heap.ExtBut I s.heap h' → Q none { s with heap := h' }) : wpAny (model prog w) A (pyNext (.ref I)) Q E s := by
  have hT : s.TypeIs (.ref I) "set_iterator" := ⟨_, hi, rfl⟩
  unfold pyNext
  refine wpAny_bind (wpAny_attempt (wpAny_callSpecial?_slot (name := Str.ofString "__next__") hT slot_sit_next
    (wpAny_call_entry slot_sit_next hT entry_sit_next ?_ (args_sit_next_1 _))))
  unfold Builtin.«set_iterator.__next__» slotArgs
  simp only [List.isEmpty_nil, Bool.not_true, Bool.false_eq_true, ↓reduceIte, bind_assoc, List.length_nil, bne_self_eq_false]
  refine wpAny_bind (wpAny_pure ?_)
  dsimp only
  unfold fieldsOf
  refine wpAny_bind (wpAny_bind (wpAny_load hi ?_))
  refine wpAny_pure ?_
  show wpAny _ _ (setEntries S >>= _) _ _ _
  refine wpAny_bind (wpAny_setEntries_of ho rfl (by cases byT w <;> rfl) ?_)
  rw [if_neg (by decide)]
  show wpAny _ _ (setNext S slot 1 1 >>= _) _ _ _
  refine wpAny_bind (setNext_at ho ?_)
  have e : (if byT w = true then (if 1 = 0 then some (Value.bool true, slot) else none) else (if slot ≤ 1 then some (Value.bool true, 2) else none)) = none := by
    cases hb : byT w with
    | true => rfl
    | false => rw [hslot hb]; rfl
  rw [e]
  dsimp only
  refine wpAny_bind (wpAny_setField hi rfl (by simp) ?_)
  show wpAny _ _ (newExc (.type "StopIteration") [] >>= _) _ _ _
  refine wpAny_bind ?_
  simp only [newExc, newTuple]
  refine wpAny_bind (wpAny_newObj_type ?_ (by size_fits))
  refine wpAny_bind (m := firstArgMember _ _) (wpAny_of_eq (a := Value.none) (by first | rfl | (simp only [firstArgMember]; rfl)) ?_)
  refine wpAny_newObj_type ?_ (by size_fits)
  simp only [raiseNew]
  refine wpAny_bind (wpAny_handled ?_)
  first | rw [show A.in1.handled = none from hh] | rw [hh]
  refine wpAny_bind (wpAny_pure (wpAny_throw ?_))
  refine wpAny_bind (wpAny_isInstance (T := "StopIteration") (b := true) ⟨_, Heap.get?_push_size _ rfl, rfl⟩ isSubtype_stop ?_)
  exact wpAny_pure (h _ (((Heap.SameBut.update ..).extBut.push _).push _))
theorem unpack_set1 {Q : List Value → Shared → Prop} (hh : A.handled = none) (ho : s.heap.get? S = some (setO1 (!byT w)))
    (hQ : ∀ h', Heap.ExtBut s.heap.objs.size s.heap h' → Q [.bool true] { s with heap := h' }) : wpAny (model prog w) A (unpackItems (.ref S) 1 none) Q E s := by
  have hT : s.TypeIs (.ref S) "set" := ⟨_, ho, rfl⟩
  have hlt : S ≠ s.heap.objs.size := Nat.ne_of_lt (Heap.lt_size ho)
  unfold unpackItems
  refine wpAny_bind ?_
  unfold notIterableAtAll
  refine wpAny_bind (wpAny_specialOf hT PySem.F.slot_set_iter.lookup ?_)
  refine wpAny_pure ?_
  simp only [Bool.false_eq_true, if_false]
  refine wpAny_bind (wpAny_holding (pyIter_set1 ho ?_))
  have ho1 : (s.heap.push (sitO S 0 0)).get? S = some (setO1 (!byT w)) := Heap.get?_push_of_some _ ho
  have hi1 : (s.heap.push (sitO S 0 0)).get? s.heap.objs.size = some (sitO S 0 0) := Heap.get?_push_size _ rfl
  refine wpAny_bind (wpAny_holding ?_)
  show wpAny _ _ (pyNext (.ref s.heap.objs.size) >>= _) _ _ _
  refine wpAny_bind (pyNext_set1 hlt ho1 hi1 fun h1 slot hi2 hs hsb => ?_)
  refine wpAny_bind (wpAny_holding (wpAny_pure (wpAny_pure ?_)))
  rw [if_neg (by decide)]
  have ho2 : h1.get? S = some (setO1 (!byT w)) := hsb.extBut _ _ hlt ho1
  refine wpAny_bind (wpAny_holding (pyNext_set1_end hh hlt ho2 hi2 hs fun h2 he => ?_))
  simp only [Option.isSome_none, Bool.false_eq_true, if_false]
  exact wpAny_pure (hQ h2 fun b o hb e => he b o hb (hsb.extBut b o hb (Heap.get?_push_of_some _ e)))
end
end Mine
end SK5
section SK6
open PySem PySem.W PyProof.Rows PySem.Calls
namespace Mine
open LCg LCt
section
variable {prog : Program} {w : World} {A : Around} {E : Value → Shared → Prop} {R : Result → Shared → Prop} {s : Shared} {h₀ : Heap} {L : Addr} {m : Str → Option Value} {env : Env}
theorem compTurn_set (elt target iter : Expr) (ifs : List Expr) (scope : Scope) (pos : Pos) (it acc : Value) (env : Env) :
    compTurn (.SetComp elt [⟨target, iter, ifs, 0⟩] scope pos) 0 it acc env = (do
      standAt iter.pos
      match ← pyNext it with
      | none => pure (.done .next)
      | some v =>
        letOwnedTupleGo target it v
        assign target env v
        let mut ok := true
        for c in ifs do
          if ok then ok ← isTrue c env (eval c env)
        if ok then
          (do let v ← eval elt env; standAt elt.pos; let _ ← call (.builtin "set.add") [acc, v])
        again (.compLoop (.SetComp elt [⟨target, iter, ifs, 0⟩] scope pos) 0 it acc env)) := by rfl
theorem codeAny_compLoop_S {elt target iter : Expr} {scope : Scope} {pos : Pos} {it acc : Value} {env : Env} (I : Nat → Shared → Prop)
    (turn : ∀ n s, I n s → wpAny (model prog w) A (pyNext it) (fun r s₁ => match r with
      | none => R (.ok .next) s₁
      | some v => wpAny (model prog w) A (assign target env v) (fun _ s₂ =>
          wpAny (model prog w) A (eval elt env) (fun x s₄ =>
              wpAny (model prog w) A (call (.builtin "set.add") [acc, x]) (fun _ s₅ => ∃ m, m < n ∧ I m s₅) (notedBy (model prog w) A env fun e s' => R (.error e) s') s₄) (notedBy (model prog w) A env fun e s' => R (.error e) s') s₂)
            (notedBy (model prog w) A env fun e s' => R (.error e) s') s₁) (notedBy (model prog w) A env fun e s' => R (.error e) s') s)
    (n : Nat) (h : I n s) (ht : ∀ v, letOwnedTupleGo target it v = pure () := by intro _; rfl) :
    codeAny (model prog w) A (.compLoop (.SetComp elt [⟨target, iter, [], 0⟩] scope pos) 0 it acc env) R s := by
  refine codeAny_loop rfl I (fun n s hI => ?_) n h
  show wpAny _ A ((compTurn (.SetComp elt [⟨target, iter, [], 0⟩] scope pos) 0 it acc env).onRaise (fun x => do noteFrame x env; theTreesLotGoes x)) _ _ s
  refine wpAny_noted ?_
  rw [compTurn_set]
  refine wpAny_bind (wpAny_standAt (wpAny_bind (wpAny_mono (turn n s hI) (fun r s₁ h₁ => ?_) fun _ _ h' => h')))
  cases r with
  | none => exact wpAny_pure h₁
  | some v =>
    refine wpAny_bind (wpAny_of_eq (ht v) ?_)
    refine wpAny_bind (wpAny_mono h₁ (fun _ s₂ h₂ => ?_) fun _ _ h' => h')
    refine wpAny_bind (wpAny_tests_nil (env := env) ?_)
    exact wpAny_bind (wpAny_bind (wpAny_mono h₂ (fun x s₄ h₄ => wpAny_bind (wpAny_standAt (wpAny_bind (wpAny_mono h₄ (fun _ s₅ h₅ => wpAny_pure (wpAny_pure ⟨rfl, h₅⟩)) fun _ _ h' => h')))) fun _ _ h' => h'))
theorem codeAny_compStart_S {elt target iter ifs rest scope pos it acc env}
    (h0 : codeAny (model prog w) A (.compLoop (.SetComp elt (⟨target, iter, ifs, 0⟩ :: rest) scope pos) 0 it acc env) R s)
    (h : wpAny (model prog w) A (pyIter it) (fun it' s' => codeAny (model prog w) A (.compLoop (.SetComp elt (⟨target, iter, ifs, 0⟩ :: rest) scope pos) 0 it' acc env) R s')
      (notedBy (model prog w) A env fun x s' => R (.error x) s') s) :
    codeAny (model prog w) A (.compStart (.SetComp elt (⟨target, iter, ifs, 0⟩ :: rest) scope pos) 0 it acc env) R s := by
  refine codeAny_of_tree ?_
  show wpAny _ A ((compStart (.SetComp elt (⟨target, iter, ifs, 0⟩ :: rest) scope pos) 0 it acc env).onRaise (fun x => do noteFrame x env; standAt theWindowsPlace)) _ _ s
  refine wpAny_notedAt ?_
  unfold compStart
  show wpAny _ A (ask >>= _) _ _ s
  refine wpAny_bind (wpAny_askSetting (wpAny_ite ?_))
  split
  · first
      | exact wpAny_bind (wpAny_pure (wpAny_pure (And.intro rfl h0)))
      | exact wpAny_pure (And.intro rfl h0)
  · first
      | exact wpAny_bind (wpAny_rule (wpAny_bind (wpAny_standAt (wpAny_bind (wpAny_mono h (fun it' s' h' => wpAny_pure (And.intro rfl h')) fun _ _ x => x)))))
      | (refine wpAny_bind (wpAny_rule ?_); show wpAny _ _ (standAt iter.pos >>= _) _ _ s; exact wpAny_bind (wpAny_standAt (wpAny_bind (wpAny_mono h (fun it' s' h' => wpAny_pure (And.intro rfl h')) fun _ _ x => x))))
/-- what the set holds after i turns -/
noncomputable def setOi (w : World) (i : Nat) : Obj := if i = 0 then setO0 (!byT w) else setO1 (!byT w)
inductive SetJ (h₀ : Heap) (L : Addr) (m : Str → Option Value) (w : World) (s₂ : Shared) (St : Nat → Heap → Prop) (n : Nat) (C D : Addr) (news : Led) (k : Nat) (s' : Shared) : Prop
  | mk (h' : Heap) (tk i : Nat) (m' : Str → Option Value) (e : s' = { s₂ with heap := h', toks := tk }) (hi : i ≤ n) (ek : k = n + 1 - i) (st : St i h') (F : Fr h₀ L h' m) (ns : h'.Ns C m') (N : News h₀ L h' ((D, setOi w i) :: news))
theorem block_S {elt iter : Expr} {x : Str} {px : Pos} {scope : Scope} {cl : List (Str × Addr)} {pos : Pos} {s₂ : Shared} {I : Addr} {fp : List Addr} {n : Nat} {P : Nat → Value → Prop} {St : Nat → Heap → Prop} {S : Led → Prop} {news : Led}
    {RR : Value → Addr → Result → Shared → Prop}
    (W : Walks prog w A I fp [I] n P St) (hIo : ∀ i h, St i h → ∃ o, h.get? I = some o)
    (hSt : ∀ i h h' o nw, St i h → h.get? I = some o → h'.get? I = some o → (∀ b o, h₀.get? b = some o → h'.get? b = some o) → News h₀ L h' nw → S nw → St i h')
    (hcell : ∀ y ∈ scope.names, y.2 ≠ .cell) (hkind : scope.kind = .function) (hx : scope.names.lookup x = some .local) (hst : St 0 s₂.heap) (hfp : ∀ b ∈ fp, b < s₂.heap.objs.size)
    (F : Fr h₀ L s₂.heap m) (N : News h₀ L s₂.heap news) (hIL : L ≠ I) (hI₀ : h₀.get? I = none) (off : ∀ p ∈ news, p.1 ≠ I) (hS : S news) (hn0 : 0 < n)
    (turn : ∀ i v I oI C oC D oD m₂ h tk (E' : Value → Shared → Prop), i < n → P i v → NsObj oC m₂ → m₂ x = some v → Fr h₀ L h m → News h₀ L h ((I, oI) :: (C, oC) :: (D, oD) :: news) → Off3 I C D news → ((@Ne Nat I C) ∧ (@Ne Nat I D) ∧ (@Ne Nat C D)) →
      wpAny (model prog w) A (eval elt (compEnvC scope cl C env)) (CompEnd h₀ L m { s₂ with heap := h, toks := tk } I oI C oC D oD S (fun y nw' => y = .bool true ∧ nw' = news)) E' { s₂ with heap := h, toks := tk })
    (hRR : ∀ D C h tk m', Fr h₀ L h m → News h₀ L h ((D, setO1 (!byT w)) :: news) → Off1 D news → h.Ns C m' → h₀.get? C = none → h₀.get? D = none → C ≠ L → D ≠ L → C ≠ D → (∀ p ∈ news, p.1 ≠ C) → RR (.ref D) C (.ok .next) { s₂ with heap := h, toks := tk }) :
    wpAny (model prog w) A (newSet (.type "set")) (fun acc s₃ => wpAny (model prog w) A (newFunctionEnv scope env.globals cl [] env.qual none .none (some env)) (fun cenv s₄ =>
      codeAny (model prog w) A (.compStart (.SetComp elt [⟨.Name x px, iter, [], 0⟩] scope pos) 0 (.ref I) acc { cenv with scope := relabel scope env }) (RR acc cenv.locals) s₄) E s₃) E s₂ := by
  refine newSet_at (wpAny_newFunctionEnv hcell (by intro y hy; simp at hy) (fun h₁ hns₁ hsb₁ => ?_) hkind)
  dsimp only at hns₁ hsb₁ ⊢
  generalize hH2 : s₂.heap.push (setO0 (!byT w)) = H2 at hns₁ hsb₁ ⊢
  have hC : H2.objs.size = s₂.heap.objs.size + 1 := by rw [← hH2, Heap.size_push]
  have hDC : s₂.heap.objs.size ≠ H2.objs.size := by rw [hC]; exact Nat.ne_of_lt (Nat.lt_succ_self _)
  have below : ∀ b, b < s₂.heap.objs.size → b ≠ H2.objs.size ∧ b ≠ s₂.heap.objs.size := fun b hb => ⟨by rw [hC]; exact Nat.ne_of_lt (Nat.lt_succ_of_lt hb), Nat.ne_of_lt hb⟩
  have hDf : s₂.heap.objs.size ∉ fp := fun hm => Nat.lt_irrefl _ (hfp _ hm)
  have hCf : H2.objs.size ∉ fp := fun hm => by have := hfp _ hm; rw [hC] at this; exact Nat.lt_irrefl _ (Nat.lt_of_succ_lt this)
  have hIf : I ∈ fp := W.sub I (List.mem_singleton.mpr rfl)
  have hIlt : I < s₂.heap.objs.size := hfp I hIf
  have old : ∀ b o, s₂.heap.get? b = some o → h₁.get? b = some o := fun b o e => hsb₁.extBut b o (below b (Heap.lt_size e)).1 (Heap.get?_push_of_some _ (hH2 ▸ Heap.get?_push_of_some _ e))
  have hacc : h₁.get? s₂.heap.objs.size = some (setOi w 0) := hsb₁.extBut _ _ hDC (Heap.get?_push_of_some _ (hH2 ▸ Heap.get?_push_size _ rfl))
  have hst₁ : St 0 h₁ := W.frame _ _ _ hst fun b _ o e => old b o e
  have fresh : ∀ a, s₂.heap.objs.size ≤ a → s₂.heap.get? a = none := fun a ha => by
    cases e : s₂.heap.get? a with
    | none => rfl
    | some o' => exact absurd (Heap.lt_size e) (Nat.not_lt.mpr ha)
  have fresh₀ : ∀ a, s₂.heap.objs.size ≤ a → h₀.get? a = none := fun a ha => by
    cases e : h₀.get? a with
    | none => rfl
    | some o' => have := F.keep a o' e; rw [fresh a ha] at this; cases this
  have hD₀ : h₀.get? s₂.heap.objs.size = none := fresh₀ _ (Nat.le_refl _)
  have hC₀ : h₀.get? H2.objs.size = none := fresh₀ _ (by rw [hC]; exact Nat.le_succ _)
  have hLlt : L < s₂.heap.objs.size := F.ns.lt
  have hDL : s₂.heap.objs.size ≠ L := Ne.symm (below L hLlt).2
  have hCL : H2.objs.size ≠ L := Ne.symm (below L hLlt).1
  have hCI : I ≠ H2.objs.size := (below I hIlt).1
  have hDI : I ≠ s₂.heap.objs.size := (below I hIlt).2
  have off' : Off3 I H2.objs.size s₂.heap.objs.size news := Off3.of fun p hp => ⟨off p hp, (below _ (Heap.lt_size (N p hp).1)).1, (below _ (Heap.lt_size (N p hp).1)).2⟩
  have off3 := off'.mem
  have loop : ∀ s₃ : Shared, s₃ = { s₂ with heap := h₁, toks := s₂.toks + ([] : List (Str × Value)).length } →
      codeAny (model prog w) A (.compLoop (.SetComp elt [⟨.Name x px, iter, [], 0⟩] scope pos) 0 (.ref I) (.ref s₂.heap.objs.size) (compEnvC scope cl H2.objs.size env))
        (RR (.ref s₂.heap.objs.size) H2.objs.size) s₃ := by
    rintro s₃ rfl
    refine codeAny_compLoop_S
      (SetJ h₀ L m w s₂ St n H2.objs.size s₂.heap.objs.size news) ?_ (n + 1)
      ⟨h₁, _, 0, _, rfl, Nat.zero_le _, rfl, hst₁, F.keeps old, hns₁, fun p hp => ?_⟩
    · rintro k s' ⟨h', tk, i, m', rfl, hi, rfl, hst', F', hn', N'⟩
      by_cases hlt : i < n
      · refine W.item i _ _ _ hlt hst' fun v h₂ tk₂ hPv hst₂ hk₂ => ?_
        refine wpAny_assign_Name (wpAny_storeName_local (lookup_relabel_local hx) (hn'.at' fun o e => hk₂ _ o (by simpa using Ne.symm hCI) e) (fun h₃ hn₃ hs₃ => ?_) (by simp [compEnvC, relabel, hkind]))
        have hst₃ : St (i + 1) h₃ := W.frame _ _ _ hst₂ fun b hb o e => hs₃.extBut b o (fun q => hCf (by have q' : b = H2.objs.size := q; rw [← q']; exact hb)) e
        obtain ⟨oI, heI⟩ := hIo _ _ hst₃
        obtain ⟨oC, heC, hoC⟩ := ns_obj hn₃
        have F₃ : Fr h₀ L h₃ m := (fr_but F' hk₂ hIL hI₀).change hs₃ hCL hC₀
        have N₂ : News h₀ L h₂ ((s₂.heap.objs.size, setOi w i) :: news) := news_but N' hk₂ fun p hp => by
          rcases List.mem_cons.mp hp with rfl | hp
          · exact Ne.symm hDI
          · exact (off3 p hp).1
        have N₃ : News h₀ L h₃ ((I, oI) :: (H2.objs.size, oC) :: (s₂.heap.objs.size, setOi w i) :: news) := fun p hp => by
          rcases List.mem_cons.mp hp with rfl | hp
          · exact ⟨heI, Ne.symm hIL, hI₀⟩
          · rcases List.mem_cons.mp hp with rfl | hp
            · exact ⟨heC, hCL, hC₀⟩
            · have z := N₂ p hp
              refine ⟨hs₃.extBut _ _ ?_ z.1, z.2⟩
              rcases List.mem_cons.mp hp with rfl | hp
              · exact hDC
              · exact (off3 p hp).2.1
        refine wpAny_mono (turn i v I oI H2.objs.size oC s₂.heap.objs.size _ _ h₃ _ _ hlt hPv hoC (by simp) F₃ N₃ off' ⟨hCI, hDI, Ne.symm hDC⟩) (fun y s₄ h₄ => ?_) fun _ _ e => e
        obtain ⟨h₄, tk₄, news₄, rfl, F₄, N₄, off₄, hS₄, rfl, rfl⟩ := h₄
        have zI := (N₄ (I, oI) List.mem_cons_self).1
        have zC := (N₄ (H2.objs.size, oC) (List.mem_cons_of_mem _ List.mem_cons_self)).1
        have zD := (N₄ (s₂.heap.objs.size, setOi w i) (List.mem_cons_of_mem _ (List.mem_cons_of_mem _ List.mem_cons_self))).1
        have N₄' : News h₀ L h₄ news₄ := fun p hp => N₄ p (List.mem_cons_of_mem _ (List.mem_cons_of_mem _ (List.mem_cons_of_mem _ hp)))
        have hst₄ : St (i + 1) h₄ := hSt _ _ _ _ _ hst₃ heI zI F₄.keep N₄' hS₄
        cases i with
        | zero =>
          refine set_add_first zD fun h₅ hD₅ hs₅ => ?_
          refine ⟨n + 1 - (0 + 1), by omega, h₅, tk₄ + 1, 0 + 1, _, rfl, hlt, rfl, W.frame _ _ _ hst₄ fun b hb o e => hs₅.extBut b o (fun q => hDf (q ▸ hb)) e, F₄.change hs₅ hDL hD₀,
            (hoC.ns zC).sameBut hs₅ (Ne.symm hDC), fun p hp => ?_⟩
          rcases List.mem_cons.mp hp with rfl | hp
          · exact ⟨hD₅, hDL, hD₀⟩
          · exact ⟨hs₅.extBut _ _ (off3 p hp).2.2 (N₄' p hp).1, (N₄' p hp).2⟩
        | succ i =>
          refine set_add_again (led := !byT w) zD ?_
          refine ⟨n + 1 - (i + 1 + 1), by omega, h₄, tk₄ + 1, i + 1 + 1, _, rfl, hlt, rfl, hst₄, F₄, hoC.ns zC, fun p hp => ?_⟩
          rcases List.mem_cons.mp hp with rfl | hp
          · exact ⟨zD, hDL, hD₀⟩
          · exact N₄' p hp
      · obtain rfl : i = n := Nat.le_antisymm hi (Nat.not_lt.mp hlt)
        have e1 : setOi w i = setO1 (!byT w) := by unfold setOi; rw [if_neg (by omega)]
        rw [e1] at N'
        refine W.done _ _ _ hst' fun h₂ tk₂ hk₂ => ?_
        exact hRR _ _ h₂ tk₂ _ (fr_but F' hk₂ hIL hI₀) (news_but N' hk₂ fun p hp => by
          rcases List.mem_cons.mp hp with rfl | hp
          · exact Ne.symm hDI
          · exact (off3 p hp).1) off'.one (hn'.at' fun o e => hk₂ _ o (by simpa using Ne.symm hCI) e) hC₀ hD₀ hCL hDL (Ne.symm hDC) (fun p hp => (off3 p hp).2.1)
    · rcases List.mem_cons.mp hp with rfl | hp
      · exact ⟨hacc, hDL, hD₀⟩
      · exact ⟨old _ _ (N p hp).1, (N p hp).2⟩
  exact codeAny_compStart_S (loop _ rfl) (W.self 0 _ _ _ hst₁ (loop _ rfl))
theorem eval_SetComp (elt gens scope pos) : eval (.SetComp elt gens scope pos) env =
    comprehension (.SetComp elt gens scope pos) scope env (firstIterPos gens pos) (newSet (.type "set")) (firstAsync gens) (firstIter gens env) := rfl
theorem SetComp_G {elt iter : Expr} {x : Str} {px : Pos} {scope : Scope} {cl : List (Str × Addr)} {pos : Pos} {Q : Value → Shared → Prop} (F₀ : Fr h₀ L s.heap m)
    (hclos : closureFor scope env = pure cl) (hcell : ∀ y ∈ scope.names, y.2 ≠ .cell) (hkind : scope.kind = .function)
    (hnames : ∀ y ∈ scope.names, y.2 = .local → scope.names.lookup y.1 = some .local) (hx : scope.names.lookup x = some .local) (hs : ∀ x, foldedSetIterable iter env x = pure x)
    (h : wpAny (model prog w) A (eval iter env) (SrcG prog w A h₀ L m (fun s₂ S P n news => 0 < n ∧
      (∀ i v I oI C oC D oD m₂ h tk (E' : Value → Shared → Prop), i < n → P i v → NsObj oC m₂ → m₂ x = some v → Fr h₀ L h m → News h₀ L h ((I, oI) :: (C, oC) :: (D, oD) :: news) → Off3 I C D news → ((@Ne Nat I C) ∧ (@Ne Nat I D) ∧ (@Ne Nat C D)) →
        wpAny (model prog w) A (eval elt (compEnvC scope cl C env)) (CompEnd h₀ L m { s₂ with heap := h, toks := tk } I oI C oC D oD S (fun y nw' => y = .bool true ∧ nw' = news)) E' { s₂ with heap := h, toks := tk }) ∧
      (∀ D h tk, Fr h₀ L h m → News h₀ L h ((D, setO1 (!byT w)) :: news) → Off1 D news → Q (.ref D) { s₂ with heap := h, toks := tk })) E) E s) :
    wpAny (model prog w) A (eval (.SetComp elt [⟨.Name x px, iter, [], 0⟩] scope pos) env) Q E s := by
  rw [eval_SetComp]
  refine wpAny_comprehension_free (use := none) rfl hs hclos hkind hnames (wpAny_mono h (fun xv s₁ h₁ => wpAny_mono h₁ (fun it s₂ h₂ => ?_) fun _ _ e => e) fun _ _ e => e)
  obtain ⟨I, fp, n, P, St, S, news, rfl, W, hsz, hIo, hSt, hst, hfp, F, N, hIL, hI₀, off, hS, hn0, turn, fin⟩ := h₂
  refine block_S W hIo hSt hcell hkind hx hst hfp F N hIL hI₀ off hS hn0 turn ?_
  intro D C h tk m' F' N' o1 hn hC₀ hD₀ hCL hDL hCD offC
  refine ⟨m', hn, fun h'' hs'' => fin D h'' tk (F'.change hs'' hCL hC₀) (fun p hp => ?_) o1⟩
  refine ⟨hs''.extBut _ _ ?_ (N' p hp).1, (N' p hp).2⟩
  rcases List.mem_cons.mp hp with rfl | hp
  · exact Ne.symm hCD
  · exact offC p hp
theorem assign_set1 {Sa : Addr} {y : Str} {py tp : Pos} {k : Nat} {news : Led} {Q : Unit → Shared → Prop} (hh : A.handled = none) (F : Fr h₀ L s.heap m) (N : News h₀ L s.heap news) (hm : (Sa, setO1 (!byT w)) ∈ news)
    (h : ∀ h', Fr h₀ L h' m → News h₀ L h' news → wpAny (model prog w) A (assign (.Name y py) env (.bool true)) Q E { s with heap := h' }) : wpAny (model prog w) A (assign (.Tuple [.Name y py] k tp) env (.ref Sa)) Q E s := by
  rw [arm_assign_Tuple]
  refine wpAny_bind (wpAny_standAt ?_)
  unfold unpack
  refine wpAny_bind (wpAny_holding (unpack_set1 hh (N _ hm).1 fun h' he => ?_))
  have old : ∀ b o, s.heap.get? b = some o → h'.get? b = some o := fun b o e => he b o (Nat.ne_of_lt (Heap.lt_size e)) e
  refine wpAny_bind (wpAny_holding (wpAny_mono (h h' (F.keeps old) (N.grown old)) (fun _ _ q => wpAny_pure q) fun _ _ q => q))
end
end Mine
end SK6
section SK7
open PySem PySem.W PyProof.Rows PySem.Calls
namespace Mine
noncomputable def strGt (a b : Str) : Bool := decide (b.cps.toList < a.cps.toList)
noncomputable def lexLt (xs ys : List Str) : Bool := lexW strEq strLt true false xs ys
noncomputable def lexGt (xs ys : List Str) : Bool := lexW strEq strGt false true xs ys
theorem beq_strEq (a b : Str) : (a == b) = strEq a b := by
  unfold strEq
  by_cases h : a = b
  · subst h; simp
  · rw [decide_eq_false h]; exact beq_eq_false_iff_ne.mpr h
section
variable {prog : Program} {w : World} {A : Around} {E Q : Value → Shared → Prop} {s : Shared} {h₀ : Heap} {L l a b : Addr} {m : Str → Option Value} {news : Led} {vs ws : List Value} {xs ys : List Str} {k ka kb : Nat}
theorem strs_at {vs : List Value} {xs : List Str} (h : StrsAre vs xs) {j : Nat} (h1 : j < vs.toArray.size) (h2 : j < xs.length) : ∃ t, vs.toArray[j] = .str xs[j] t := by
  obtain ⟨t, e⟩ := h.get j xs[j] (List.getElem?_eq_getElem h2)
  refine ⟨t, ?_⟩
  have e2 := List.getElem?_eq_some_iff.mp e
  obtain ⟨_, e2⟩ := e2
  simpa using e2
theorem ltAt_strs (N : News h₀ L s.heap news) (hm : (a, listOf vs.toArray ka) ∈ news) (hs : StrsAre vs xs) (hm2 : (b, listOf ws.toArray kb) ∈ news) (hs2 : StrsAre ws ys) (hu : A.units + 16 < cLine) : OpAt .Lt A s (.ref a) (.ref b) (lexLt xs ys) := by
  have i1 : s.heap.IsList a vs.toArray := ⟨_, (N _ hm).1, rfl, _, rfl⟩
  have i2 : s.heap.IsList b ws.toArray := ⟨_, (N _ hm2).1, rfl, _, rfl⟩
  have n1 := hs.length
  have n2 := hs2.length
  refine lt_lists strEq strLt (by simpa using n1.symm) (by simpa using n2.symm) i1 i2 (by omega) ?_ ?_
  · intro j j1 j2
    obtain ⟨t, e1⟩ := strs_at hs j1 (by simpa [n1] using j1)
    obtain ⟨u, e2⟩ := strs_at hs2 j2 (by simpa [n2] using j2)
    rw [e1, e2, ← beq_strEq]
    exact SeqAt.EqAt.str_str _ _ _ _
  · intro j j1 j2
    obtain ⟨t, e1⟩ := strs_at hs j1 (by simpa [n1] using j1)
    obtain ⟨u, e2⟩ := strs_at hs2 j2 (by simpa [n2] using j2)
    rw [e1, e2]
    exact ltAt_str _ _ _ _
theorem gtAt_strs (N : News h₀ L s.heap news) (hm : (a, listOf vs.toArray ka) ∈ news) (hs : StrsAre vs xs) (hm2 : (b, listOf ws.toArray kb) ∈ news) (hs2 : StrsAre ws ys) (hu : A.units + 16 < cLine) : OpAt .Gt A s (.ref a) (.ref b) (lexGt xs ys) := by
  have i1 : s.heap.IsList a vs.toArray := ⟨_, (N _ hm).1, rfl, _, rfl⟩
  have i2 : s.heap.IsList b ws.toArray := ⟨_, (N _ hm2).1, rfl, _, rfl⟩
  have n1 := hs.length
  have n2 := hs2.length
  refine gt_lists strEq strGt (by simpa using n1.symm) (by simpa using n2.symm) i1 i2 (by omega) ?_ ?_
  · intro j j1 j2
    obtain ⟨t, e1⟩ := strs_at hs j1 (by simpa [n1] using j1)
    obtain ⟨u, e2⟩ := strs_at hs2 j2 (by simpa [n2] using j2)
    rw [e1, e2, ← beq_strEq]
    exact SeqAt.EqAt.str_str _ _ _ _
  · intro j j1 j2
    obtain ⟨t, e1⟩ := strs_at hs j1 (by simpa [n1] using j1)
    obtain ⟨u, e2⟩ := strs_at hs2 j2 (by simpa [n2] using j2)
    rw [e1, e2]
    exact gtAt_str _ _ _ _
/-- the first or, if c, the second of two lists of texts -/
noncomputable def Pick (c : Bool) (a b : Addr) (vs ws : List Value) (ka kb : Nat) (xs ys : List Str) (S : Addr) (zs : List Value) (kz : Nat) (cs : List Str) : Prop :=
  (c = false ∧ S = a ∧ zs = vs ∧ kz = ka ∧ cs = xs) ∨ (c = true ∧ S = b ∧ zs = ws ∧ kz = kb ∧ cs = ys)
theorem min_two' (hh : A.in1.handled = none) (F : Fr h₀ L s.heap m) (N : News h₀ L s.heap news) (hl : (l, listOf [.ref a, .ref b].toArray k) ∈ news) (hm : (a, listOf vs.toArray ka) ∈ news) (hs : StrsAre vs xs) (hm2 : (b, listOf ws.toArray kb) ∈ news) (hs2 : StrsAre ws ys) (hu : A.units + 32 < cLine)
    (h : ∀ S zs kz cs h' tk, Pick (lexLt ys xs) a b vs ws ka kb xs ys S zs kz cs → StrsAre zs cs → Fr h₀ L h' m → News h₀ L h' ((S, listOf zs.toArray kz) :: news) → Q (.ref S) { s with heap := h', toks := tk }) :
    wpAny (model prog w) A (call (.builtin "min") [.ref l]) Q E s := by
  have u1 := units_in1 A
  refine min_list hh (fun i j => lexLt (if i = 0 then xs else ys) (if j = 0 then xs else ys)) ?_ F N hl (Nat.zero_lt_succ _) ?_
  · intro s' i j vi vj N' hi hj
    have ci : (i = 0 ∧ vi = .ref a) ∨ (i = 1 ∧ vi = .ref b) := by
      rcases i with _ | _ | i
      · left; simpa using hi.symm
      · right; simpa using hi.symm
      · simp at hi
    have cj : (j = 0 ∧ vj = .ref a) ∨ (j = 1 ∧ vj = .ref b) := by
      rcases j with _ | _ | j
      · left; simpa using hj.symm
      · right; simpa using hj.symm
      · simp at hj
    rcases ci with ⟨rfl, rfl⟩ | ⟨rfl, rfl⟩ <;> rcases cj with ⟨rfl, rfl⟩ | ⟨rfl, rfl⟩
    · exact ltAt_strs N' hm hs hm hs (by omega)
    · exact ltAt_strs N' hm hs hm2 hs2 (by omega)
    · exact ltAt_strs N' hm2 hs2 hm hs (by omega)
    · exact ltAt_strs N' hm2 hs2 hm2 hs2 (by omega)
  · intro v h' tk hv F' N'
    have e : argBest (fun i j => lexLt (if i = 0 then xs else ys) (if j = 0 then xs else ys)) ([Value.ref a, Value.ref b].length - 1) = if lexLt ys xs = true then 1 else 0 := rfl
    rw [e] at hv
    cases hc : lexLt ys xs with
    | true =>
      rw [hc] at hv
      have : v = .ref b := by simpa using hv.symm
      subst this
      exact h b ws kb ys h' tk (.inr ⟨hc, rfl, rfl, rfl, rfl⟩) hs2 F' (fun p hp => by rcases List.mem_cons.mp hp with rfl | hp; exact N' _ hm2; exact N' p hp)
    | false =>
      rw [hc] at hv
      have : v = .ref a := by simpa using hv.symm
      subst this
      exact h a vs ka xs h' tk (.inl ⟨hc, rfl, rfl, rfl, rfl⟩) hs F' (fun p hp => by rcases List.mem_cons.mp hp with rfl | hp; exact N' _ hm; exact N' p hp)
theorem max_two' (hh : A.in1.handled = none) (F : Fr h₀ L s.heap m) (N : News h₀ L s.heap news) (hl : (l, listOf [.ref a, .ref b].toArray k) ∈ news) (hm : (a, listOf vs.toArray ka) ∈ news) (hs : StrsAre vs xs) (hm2 : (b, listOf ws.toArray kb) ∈ news) (hs2 : StrsAre ws ys) (hu : A.units + 32 < cLine)
    (h : ∀ S zs kz cs h' tk, Pick (lexGt ys xs) a b vs ws ka kb xs ys S zs kz cs → StrsAre zs cs → Fr h₀ L h' m → News h₀ L h' ((S, listOf zs.toArray kz) :: news) → Q (.ref S) { s with heap := h', toks := tk }) :
    wpAny (model prog w) A (call (.builtin "max") [.ref l]) Q E s := by
  have u1 := units_in1 A
  refine max_list hh (fun i j => lexGt (if i = 0 then xs else ys) (if j = 0 then xs else ys)) ?_ F N hl (Nat.zero_lt_succ _) ?_
  · intro s' i j vi vj N' hi hj
    have ci : (i = 0 ∧ vi = .ref a) ∨ (i = 1 ∧ vi = .ref b) := by
      rcases i with _ | _ | i
      · left; simpa using hi.symm
      · right; simpa using hi.symm
      · simp at hi
    have cj : (j = 0 ∧ vj = .ref a) ∨ (j = 1 ∧ vj = .ref b) := by
      rcases j with _ | _ | j
      · left; simpa using hj.symm
      · right; simpa using hj.symm
      · simp at hj
    rcases ci with ⟨rfl, rfl⟩ | ⟨rfl, rfl⟩ <;> rcases cj with ⟨rfl, rfl⟩ | ⟨rfl, rfl⟩
    · exact gtAt_strs N' hm hs hm hs (by omega)
    · exact gtAt_strs N' hm hs hm2 hs2 (by omega)
    · exact gtAt_strs N' hm2 hs2 hm hs (by omega)
    · exact gtAt_strs N' hm2 hs2 hm2 hs2 (by omega)
  · intro v h' tk hv F' N'
    have e : argBest (fun i j => lexGt (if i = 0 then xs else ys) (if j = 0 then xs else ys)) ([Value.ref a, Value.ref b].length - 1) = if lexGt ys xs = true then 1 else 0 := rfl
    rw [e] at hv
    cases hc : lexGt ys xs with
    | true =>
      rw [hc] at hv
      have : v = .ref b := by simpa using hv.symm
      subst this
      exact h b ws kb ys h' tk (.inr ⟨hc, rfl, rfl, rfl, rfl⟩) hs2 F' (fun p hp => by rcases List.mem_cons.mp hp with rfl | hp; exact N' _ hm2; exact N' p hp)
    | false =>
      rw [hc] at hv
      have : v = .ref a := by simpa using hv.symm
      subst this
      exact h a vs ka xs h' tk (.inl ⟨hc, rfl, rfl, rfl, rfl⟩) hs F' (fun p hp => by rcases List.mem_cons.mp hp with rfl | hp; exact N' _ hm; exact N' p hp)
end
/-- the names that two begin with -/
noncomputable def cpre : List Str → List Str → List Str
  | a :: as, b :: bs => if a = b then a :: cpre as bs else []
  | _, _ => []
theorem cpre_comm : ∀ (a b : List Str), cpre a b = cpre b a
  | [], [] => rfl
  | [], _ :: _ => rfl
  | _ :: _, [] => rfl
  | a :: as, b :: bs => by
    unfold cpre
    by_cases h : a = b
    · subst h; rw [if_pos rfl, if_pos rfl, cpre_comm as bs]
    · rw [if_neg h, if_neg (Ne.symm h)]
theorem cpre_stop : ∀ {i : Nat} {a b : List Str}, a.take i = b.take i → i < a.length → i < b.length → a.getD i Str.empty ≠ b.getD i Str.empty → cpre a b = a.take i
  | 0, a :: as, b :: bs, _, _, _, hne => by unfold cpre; rw [if_neg (by simpa using hne)]; rfl
  | i + 1, a :: as, b :: bs, e, h1, h2, hne => by
    rw [List.take_succ_cons, List.take_succ_cons, List.cons.injEq] at e
    unfold cpre
    rw [if_pos e.1, cpre_stop e.2 (by simpa using h1) (by simpa using h2) (by simpa using hne), List.take_succ_cons]
  | _, [], _, _, h, _, _ => absurd h (Nat.not_lt_zero _)
  | _, _ :: _, [], _, _, h, _ => absurd h (Nat.not_lt_zero _)
theorem cpre_all : ∀ {a b : List Str}, a = b.take a.length → cpre a b = a
  | [], [], _ => rfl
  | [], _ :: _, _ => rfl
  | a :: as, [], h => by simp at h
  | a :: as, b :: bs, h => by
    rw [List.length_cons, List.take_succ_cons, List.cons.injEq] at h
    unfold cpre
    rw [if_pos h.1, cpre_all h.2]
theorem strEq_rfl (a : Str) : strEq a a = true := decide_eq_true rfl
theorem lexGt_eq (xs ys : List Str) : lexGt ys xs = lexLt xs ys := by
  unfold lexGt lexLt
  induction xs generalizing ys with
  | nil => cases ys <;> rfl
  | cons x xs ih =>
    cases ys with
    | nil => rfl
    | cons y ys =>
      unfold lexW
      by_cases h : y = x
      · subst h; rw [if_pos (strEq_rfl _), if_pos (strEq_rfl _)]; exact ih ys
      · have h1 : ¬ strEq y x = true := by unfold strEq; simpa using h
        have h2 : ¬ strEq x y = true := by unfold strEq; simpa using Ne.symm h
        rw [if_neg h1, if_neg h2]; rfl
/-- a proper beginning is less -/
theorem lexLt_pre : ∀ {b a : List Str} {i : Nat}, b.length ≤ i → a.take i = b.take i → i < a.length → lexLt b a = true
  | [], a :: as, _, _, _, _ => rfl
  | [], [], _, _, _, h => absurd h (Nat.not_lt_zero _)
  | b :: bs, [], _, _, _, h => absurd h (Nat.not_lt_zero _)
  | b :: bs, a :: as, 0, h, _, _ => by simp at h
  | b :: bs, a :: as, i + 1, h, e, hl => by
    rw [List.take_succ_cons, List.take_succ_cons, List.cons.injEq] at e
    obtain ⟨rfl, e⟩ := e
    have := lexLt_pre (b := bs) (a := as) (i := i) (by simpa using h) e (by simpa using hl)
    unfold lexLt lexW
    rw [if_pos (strEq_rfl _)]; exact this
theorem strLt_irrefl (a : Str) : strLt a a = false := decide_eq_false (List.lt_irrefl _)
theorem strLt_asymm {a b : Str} (h : strLt a b = true) : strLt b a = false := decide_eq_false (List.lt_asymm (of_decide_eq_true h))
theorem lexLt_irrefl : ∀ a : List Str, lexLt a a = false
  | [] => rfl
  | a :: as => by unfold lexLt lexW; rw [if_pos (strEq_rfl _)]; exact lexLt_irrefl as
theorem lexLt_asymm : ∀ {a b : List Str}, lexLt a b = true → lexLt b a = false
  | [], [], h => by cases h
  | [], _ :: _, _ => rfl
  | _ :: _, [], h => by cases h
  | a :: as, b :: bs, h => by
    unfold lexLt lexW at h ⊢
    by_cases e : a = b
    · subst e; rw [if_pos (strEq_rfl _)] at h ⊢; exact lexLt_asymm h
    · have h1 : ¬ strEq a b = true := by unfold strEq; simpa using e
      have h2 : ¬ strEq b a = true := by unfold strEq; simpa using Ne.symm e
      rw [if_neg h1] at h; rw [if_neg h2]; exact strLt_asymm h
theorem lexLt_total : ∀ {a b : List Str}, lexLt a b = false → lexLt b a = false → a = b
  | [], [], _, _ => rfl
  | [], _ :: _, h, _ => by cases h
  | _ :: _, [], _, h => by cases h
  | a :: as, b :: bs, h, g => by
    unfold lexLt lexW at h g
    by_cases e : a = b
    · subst e; rw [if_pos (strEq_rfl _)] at h g; rw [lexLt_total h g]
    · have h1 : ¬ strEq a b = true := by unfold strEq; simpa using e
      have h2 : ¬ strEq b a = true := by unfold strEq; simpa using Ne.symm e
      rw [if_neg h1] at h; rw [if_neg h2] at g
      have q1 : ¬ a.cps.toList < b.cps.toList := of_decide_eq_false h
      have q2 : ¬ b.cps.toList < a.cps.toList := of_decide_eq_false g
      exfalso
      have := List.le_antisymm (List.not_lt.mp q2) (List.not_lt.mp q1)
      exact e (by cases a; cases b; simpa using this)
/-- the least and the greatest of two -/
theorem pick_two {a b : Addr} {vs ws : List Value} {ka kb : Nat} {xs ys c1 c2 : List Str} {S1 S2 : Addr} {z1 z2 : List Value} {k1 k2 : Nat} (h1 : Pick (lexLt ys xs) a b vs ws ka kb xs ys S1 z1 k1 c1) (h2 : Pick (lexGt ys xs) a b vs ws ka kb xs ys S2 z2 k2 c2) :
    lexLt c2 c1 = false ∧ cpre c1 c2 = cpre xs ys := by
  rw [lexGt_eq] at h2
  rcases h1 with ⟨e1, _, _, _, rfl⟩ | ⟨e1, _, _, _, rfl⟩ <;> rcases h2 with ⟨e2, _, _, _, rfl⟩ | ⟨e2, _, _, _, rfl⟩
  · have := lexLt_total e2 e1
    subst this
    exact ⟨lexLt_irrefl _, rfl⟩
  · exact ⟨e1, rfl⟩
  · exact ⟨e2, cpre_comm _ _⟩
  · rw [lexLt_asymm e1] at e2; cases e2
end Mine
end SK7
section SK8
open PySem PySem.W PyProof.Rows PySem.Calls
namespace Mine
section
variable {prog : Program} {w : World} {A : Around} {E : Value → Shared → Prop} {s : Shared} {h₀ : Heap} {env : Env} {xi xc : Str} {body : List Stmt} {Q : Flow → Shared → Prop} {l : Addr} {vs : List Value} {k : Nat} {m : Str → Option Value} {news : Led}
inductive EnumGo (h₀ : Heap) (L : Addr) (s : Shared) (own news : Led) (J : (Str → Option Value) → Prop) (s₂ : Shared) : Prop
  | mk (h' : Heap) (tk' : Nat) (m' : Str → Option Value) (e : s₂ = { s with heap := h', toks := tk' }) (F : Fr h₀ L h' m') (N : News h₀ L h' (own ++ news)) (j : J m')
/-- how a turn of a loop over enumerate ends -/
noncomputable def EnumEnd (h₀ : Heap) (L : Addr) (s : Shared) (Q : Flow → Shared → Prop) (own news : Led) (J : (Str → Option Value) → Prop) (f : Flow) (s₂ : Shared) : Prop :=
  match f with
  | .ret v => Q (.ret v) s₂
  | .brk => Q .next s₂
  | _ => EnumGo h₀ L s own news J s₂
theorem for_enum (J : (Str → Option Value) → Nat → (Str → Option Value) → Prop) (hh : A.handled = none) (F : Fr h₀ env.locals s.heap m) (N : News h₀ env.locals s.heap news) (hl : (l, listOf vs.toArray k) ∈ news) (h0 : J m 0 m)
    (turn : ∀ (i : Nat) v t m₁ h tk own, vs[i]? = some v → J m i m₁ → Fr h₀ env.locals h (fun y => if y = xc then some v else if y = xi then some (.int i t) else m₁ y) → News h₀ env.locals h (own ++ news) →
      wpAny (model prog w) A (execs body env) (EnumEnd h₀ env.locals s Q own news (J m (i + 1))) E { s with heap := h, toks := tk })
    (done : ∀ h tk m', J m vs.length m' → Fr h₀ env.locals h m' → News h₀ env.locals h news → Q .next { s with heap := h, toks := tk }) :
    wpAny (model prog w) A (call (.type "enumerate") [.ref l]) (fun xv s₁ => wpAny (model prog w) A (pyIter xv) (fun it s₂ => PairAt3 prog w A h₀ env xi xc body Q E it s₂) E s₁) E s := by
  have hls : s.heap.IsList l vs.toArray := ⟨_, (N _ hl).1, rfl, _, rfl⟩
  have lt : ∀ p ∈ news, p.1 < s.heap.objs.size := fun p hp => Heap.lt_size (N p hp).1
  have hlt := lt _ hl
  have hLs : env.locals < s.heap.objs.size := F.ns.lt
  have hab : h₀.objs.size ≤ env.locals := F.above
  refine call_enumerate_list hls fun h' he hit hsz hk => ?_
  have F' : Fr h₀ env.locals h' m := ⟨F.ns.keeps hk, fun b o e => hk b o (F.keep b o e), F.above⟩
  have N' : News h₀ env.locals h' news := fun p hp => ⟨hk _ _ (N p hp).1, (N p hp).2⟩
  refine wpAny_pyIter_enum he ?_
  have e1 : vs.toArray.size = vs.length := List.size_toArray ..
  have W := WalksT.enumerate (prog := prog) (w := w) hh (s.heap.objs.size + 1) s.heap.objs.size l (Nat.succ_ne_self _) (Nat.ne_of_lt (Nat.lt_succ_of_lt hlt)) (Nat.ne_of_lt hlt) vs.toArray
  refine ⟨_, _, _, _, _, _, _, (fun i v0 v1 => ∃ t, v0 = .int (i : Nat) t ∧ vs[i]? = some v1), m, news, fun i m₁ nw => nw = news ∧ J m i m₁, rfl, W, ?_, ?_, ?_, ?_, ⟨⟨_, he⟩, hit, hls.at fun o e => hk _ o e⟩, F', N', ⟨rfl, h0⟩, ?_, ?_⟩
  · rintro i vals ⟨t, x, hPx, rfl⟩
    exact ⟨_, _, rfl, t, rfl, by simpa using hPx⟩
  · intro hm
    rcases List.mem_cons.mp hm with e | hm
    · exact absurd hLs (by rw [e]; exact Nat.not_lt.mpr (Nat.le_succ _))
    · rcases List.mem_cons.mp hm with e | hm
      · exact absurd hLs (by rw [e]; exact Nat.lt_irrefl _)
      · exact (N _ hl).2.1 (List.mem_singleton.mp hm).symm
  · intro b hb
    rcases List.mem_cons.mp hb with rfl | hb
    · exact Heap.get?_none_of_le (Nat.le_trans hab (Nat.le_of_lt (Nat.lt_succ_of_lt hLs)))
    · rw [List.mem_singleton.mp hb]; exact Heap.get?_none_of_le (Nat.le_trans hab (Nat.le_of_lt hLs))
  · intro p hp hb
    rcases List.mem_cons.mp hb with e | hb
    · exact Nat.ne_of_lt (Nat.lt_succ_of_lt (lt p hp)) e
    · exact Nat.ne_of_lt (lt p hp) (List.mem_singleton.mp hb)
  · rintro i v0 v1 m₁ news₁ s₁ own ⟨h1, tk1, rfl⟩ _ ⟨t, rfl, hv⟩ ⟨rfl, hJ⟩ _ _ F₁ N₁
    refine wpAny_mono (turn i v1 t m₁ h1 tk1 own hv hJ F₁ N₁) (fun f s₂ q => ?_) fun _ _ x => x
    cases f with
    | ret v => exact q
    | brk => exact q
    | next => obtain ⟨h2, tk2, m2, rfl, F2, N2, hj2⟩ := q; exact ⟨rfl, h2, tk2, m2, _, rfl, F2, N2, rfl, rfl, hj2⟩
    | cont => obtain ⟨h2, tk2, m2, rfl, F2, N2, hj2⟩ := q; exact ⟨rfl, h2, tk2, m2, _, rfl, F2, N2, rfl, rfl, hj2⟩
  · rintro h2 tk2 m2 news2 F2 N2 _ ⟨rfl, hj⟩
    exact done h2 tk2 m2 (by rw [← e1]; exact hj) F2 N2
theorem enum_next {s : Shared} {own news now : Led} {J : (Str → Option Value) → Prop} {L : Addr} {h' : Heap} {tk : Nat} {m' : Str → Option Value} (F : Fr h₀ L h' m') (N : News h₀ L h' now) (hn : ∀ p ∈ own ++ news, p ∈ now) (hj : J m') :
    EnumEnd h₀ L s Q own news J .next { s with heap := h', toks := tk } := ⟨h', tk, m', rfl, F, fun p hp => N p (hn p hp), hj⟩
end
theorem pick_to (vs : List Value) (k : Nat) : (slicePick vs.toArray none (some (k : Int)) none).toList = vs.take k := by
  rw [slicePick_upto']
section
variable {prog : Program} {w : World} {A : Around} {E : Value → Shared → Prop} {s : Shared} {h₀ : Heap} {L : Addr} {m : Str → Option Value} {news : Led} {vs : List Value}
theorem slice_take {l : Addr} {value slice : PySem.Expr} {t : Tok} {k i : Nat} {Q : Value → Shared → Prop} (F : Fr h₀ L s.heap m) (N : News h₀ L s.heap news) (hl : (l, listOf vs.toArray k) ∈ news) (hfit : vs.length ≤ 1000000)
    (h : ∀ D h', Fr h₀ L h' m → News h₀ L h' ((D, listOf (vs.take i).toArray 0) :: news) → (∀ p ∈ news, p.1 < D) → Q (.ref D) { s with heap := h' })
    (hs : subscripted slice false (.ref l) (.ref s.heap.objs.size) = operate [.ref s.heap.objs.size, .ref l] (getItem (.ref l) (.ref s.heap.objs.size))) (ht : ∀ r, letTemporaryGo value (.ref l) r = pure ()) :
    wpAny (model prog w) A (subscriptTail value slice (.ref l) (.ref s.heap.objs.size)) Q E { s with heap := s.heap.push { cls := .type "slice", data := .fields #[.none, .int (i : Int) t, .none] } } :=
  kmk_slice_lit F N ⟨_, (N _ hl).1, rfl, _, rfl⟩ .none (.int (i : Int) t) (pick_to vs i) h hs ht (by have hc9 := sizeLine_eq; simp only [List.size_toArray]; omega)
end
end Mine
end SK8
section SK10
open PySem PySem.W PyProof.Rows PySem.Calls
namespace Mine
section
variable {prog : Program} {w : World} {A : Around} {E : Value → Shared → Prop} {s : Shared}
theorem places_upto (b : Nat) : Builtin.Slice.slicePlaces 0 (b : Int) 1 = b := by
  unfold Builtin.Slice.slicePlaces
  have h1 : (1 : Int) > 0 := by omega
  simp only [h1, if_true, Int.ediv_one]
  split <;> omega
theorem sliceApplied_upto {sl : Addr} {hi : Int} {b n : Nat} {u : Tok} {Q : Int × Int × Nat → Shared → Prop} (hs : s.heap.IsSliceOf sl .none (.int hi u) .none) (ha : Builtin.Slice.sliceAdjust none (some hi) 1 (n : Int) = (0, (b : Int))) (h : Q (0, 1, b) s) :
    wpAny (model prog w) A (Builtin.Slice.sliceApplied (.ref sl) (pure (n : Int))) Q E s := by
  obtain ⟨os, hos, hcs, hds⟩ := id hs
  unfold Builtin.Slice.sliceApplied Builtin.Slice.sliceFields
  refine wpAny_bind (wpAny_bind (wpAny_field hos hds (x := .none) rfl (wpAny_bind (wpAny_field hos hds (x := .int hi u) rfl (wpAny_bind (wpAny_field hos hds (x := .none) rfl (wpAny_pure ?_)))))))
  refine wpAny_bind (slicePart_none ?_)
  show wpAny _ _ (if ((1 : Int) == 0) = true then _ else _) _ _ s
  rw [if_neg (by decide)]
  refine wpAny_bind (slicePart_none (wpAny_bind (slicePart_int (wpAny_bind (wpAny_pure ?_)))))
  show wpAny _ _ (match Builtin.Slice.sliceAdjust none (some hi) 1 (n : Int) with | (lo, hi) => pure (lo, (1 : Int), Builtin.Slice.slicePlaces lo hi 1)) _ _ s
  rw [ha]
  show wpAny _ _ (pure ((0 : Int), (1 : Int), Builtin.Slice.slicePlaces 0 (b : Int) 1)) _ _ s
  rw [places_upto b]
  exact wpAny_pure h
theorem pick_upto (xs : Array Value) (b : Nat) : ((List.range b).filterMap fun (k : Nat) => xs[((0 : Int) + (k : Int) * 1).toNat]?).toArray = (xs.toList.take b).toArray := by
  have e : (fun (k : Nat) => xs[((0 : Int) + (k : Int) * 1).toNat]?) = fun k => xs[0 + k]? := by
    funext k
    have : ((0 : Int) + (k : Int) * 1).toNat = 0 + k := by omega
    rw [this]
  rw [e]
  have := pick_run xs 0 b
  rw [List.filterMap_map] at this
  have e2 : ((fun x => xs[x]?) ∘ fun x => 0 + x) = fun k => xs[0 + k]? := rfl
  rw [e2] at this
  rw [this]; rfl
theorem getItem_tuple_upto {t sl : Addr} {items : Array Value} {hi : Int} {b : Nat} {u : Tok} {Q : Value → Shared → Prop} (ht : IsTup s.heap t items) (hs : s.heap.IsSliceOf sl .none (.int hi u) .none) (ha : Builtin.Slice.sliceAdjust none (some hi) 1 (items.size : Int) = (0, (b : Int))) (hb : b ≤ items.size)
    (hx : ∃ o, s.heap.get? t = some o ∧ o.cls = .type "tuple")
    (h : b < items.size → Q (.ref s.heap.objs.size) { s with heap := s.heap.push { cls := .type "tuple", data := .seq (items.toList.take b).toArray } }) (h2 : b = items.size → Q (.ref t) s)
    (hsz : items.size ≤ sizeLine) : wpAny (model prog w) A (getItem (.ref t) (.ref sl)) Q E s := by
  have htake : sizeOk (.seq (items.toList.take b).toArray) := by
    show (items.toList.take b).toArray.size ≤ sizeLine
    rw [List.size_toArray, List.length_take, Array.length_toList]
    omega
  obtain ⟨os, hos, hcs, hds⟩ := id hs
  have hTs : s.TypeIs (.ref sl) "slice" := ⟨os, hos, hcs⟩
  have hT : s.TypeIs (.ref t) "tuple" := ht.typeIs
  unfold getItem
  try with_reducible refine wpAny_holding ?_
  first | refine wpAny_bind (wpAny_pure ?_) | skip
  refine wpAny_bind (wpAny_sequenceKey ht.typeIs (by decide) ?_)
  refine wpAny_bind (wpAny_callSpecial?_slot (name := Str.ofString "__getitem__") ht.typeIs slot_tuple_getitem
    (wpAny_call_entry slot_tuple_getitem ht.typeIs entry_tuple_getitem ?_ (args_tuple_getitem _ _)))
  show wpAny _ _ (Builtin.Tuple.tupleItemsOf (.ref t) >>= _) _ _ s
  refine wpAny_bind (tupleItemsOf_ ht ?_)
  refine wpAny_bind (wpAny_typeOf hTs ?_)
  rw [if_pos (by decide)]
  refine wpAny_bind (sliceApplied_upto hs ha ?_)
  by_cases hq : b = items.size
  · show wpAny _ _ (if ((0 : Int) == 0 && (1 : Int) == 1 && b == items.size) = true then _ else _) _ _ s
    rw [if_pos (by simp [hq])]
    unfold Builtin.Tuple.tupleIsExact
    refine wpAny_bind (wpAny_bind (wpAny_typeOf hT (wpAny_pure ?_)))
    rw [if_pos (by decide)]
    refine wpAny_bind (wpAny_rule ?_)
    exact wpAny_pure ⟨_, rfl, wpAny_pure (h2 hq)⟩
  · have hno : ¬ (((0 : Int) == 0 && (1 : Int) == 1 && b == items.size) = true) := by simp [hq]
    show wpAny _ _ (if ((0 : Int) == 0 && (1 : Int) == 1 && b == items.size) = true then _ else _) _ _ s
    rw [if_neg hno, pick_upto items b]
    have h := h (by omega)
    first
      | exact wpAny_bind (m := Builtin.Tuple.tupleExact _) (wpAny_newObj_type (wpAny_pure ⟨_, rfl, wpAny_pure h⟩) htake)
      | exact wpAny_bind (m := Builtin.Tuple.tupleExact _) (wpAny_newObj_type (wpAny_bind (wpAny_pure (wpAny_pure ⟨_, rfl, wpAny_pure h⟩))) htake)
      | exact wpAny_bind (wpAny_bind (m := Builtin.Tuple.tupleExact _) (wpAny_newObj_type (wpAny_pure (wpAny_pure ⟨_, rfl, wpAny_pure h⟩)) htake))
      | exact wpAny_bind (wpAny_bind (m := Builtin.Tuple.tupleExact _) (wpAny_newObj_type (wpAny_pure ⟨_, rfl, wpAny_pure h⟩) htake))
end
section
variable {prog : Program} {w : World} {A : Around} {E Q : Value → Shared → Prop} {s : Shared} {h₀ : Heap} {L : Addr} {m : Str → Option Value} {news : Led}
theorem tup_slice {value slice : Expr} {t : Addr} {us : List Value} {n b : Nat} {hi : Int} {u : Tok} (F : Fr h₀ L s.heap m) (N : News h₀ L s.heap news) (hm : (t, ({ cls := .type "tuple", data := .seq us.toArray n } : Obj)) ∈ news)
    (ha : Builtin.Slice.sliceAdjust none (some hi) 1 (us.length : Int) = (0, (b : Int))) (hb : b ≤ us.length) (hl : us.length ≤ 1000000)
    (h : b < us.length → ∀ D h', Fr h₀ L h' m → News h₀ L h' ((D, { cls := .type "tuple", data := .seq (us.take b).toArray }) :: news) → (∀ p ∈ news, p.1 < D) → Q (.ref D) { s with heap := h' })
    (h2 : b = us.length → ∀ h', Fr h₀ L h' m → News h₀ L h' news → Q (.ref t) { s with heap := h' })
    (hs : subscripted slice false (.ref t) (.ref s.heap.objs.size) = operate [.ref s.heap.objs.size, .ref t] (getItem (.ref t) (.ref s.heap.objs.size)))
    (hg : ∀ r, letTemporaryGo value (.ref t) r = pure ()) :
    wpAny (model prog w) A (subscriptTail value slice (.ref t) (.ref s.heap.objs.size)) Q E { s with heap := s.heap.push { cls := .type "slice", data := .fields #[.none, .int hi u, .none] } } := by
  have hc9 := sizeLine_eq
  have ht : IsTup s.heap t us.toArray := ⟨_, (N _ hm).1, rfl, _, rfl⟩
  have ht' : IsTup (s.heap.push { cls := .type "slice", data := .fields #[.none, .int hi u, .none] }) t us.toArray := ht.keeps fun _ _ e => Heap.get?_push_of_some _ e
  have N0 : News h₀ L (s.heap.push { cls := .type "slice", data := .fields #[.none, .int hi u, .none] }) news := N.grown fun _ _ e => Heap.get?_push_of_some _ e
  have F0 := F.push { cls := .type "slice", data := .fields #[.none, .int hi u, .none] }
  refine subscriptTail_ops (s := { s with heap := s.heap.push { cls := .type "slice", data := .fields #[.none, .int hi u, .none] } }) ht'.typeIs slot_tuple_getitem.lookup
    (getItem_tuple_upto (b := b) ht' (Heap.IsSliceOf.new ..) (by rw [List.size_toArray]; exact ha) (by rw [List.size_toArray]; exact hb) ?_ ?_ ?_ (by rw [List.size_toArray]; omega)) hs hg
  · obtain ⟨o, e, c, _⟩ := ht'; exact ⟨o, e, c⟩
  · intro hlt
    rw [List.size_toArray] at hlt
    have N1 := News.push F0 N0 { cls := .type "tuple", data := .seq (us.take b).toArray }
    have e : us.toArray.toList = us := by simp
    rw [e]
    refine h hlt _ _ (F0.push _) N1 fun p hp => ?_
    exact Heap.lt_size (N0 p hp).1
  · intro he
    rw [List.size_toArray] at he
    exact h2 he _ F0 N0
theorem adjust_neg1 {n : Nat} (h : 0 < n) : Builtin.Slice.sliceAdjust none (some (-1)) 1 (n : Int) = (0, ((n - 1 : Nat) : Int)) := by
  unfold Builtin.Slice.sliceAdjust
  have h1 : ¬ ((1 : Int) < 0) := by omega
  have h2 : ((-1 : Int) < 0) := by omega
  simp only [h1, h2, if_false, if_true]
  congr 1
  omega
theorem adjust_nat {n k : Nat} (h : k ≤ n) : Builtin.Slice.sliceAdjust none (some (k : Int)) 1 (n : Int) = (0, (k : Int)) := by
  unfold Builtin.Slice.sliceAdjust
  have h1 : ¬ ((1 : Int) < 0) := by omega
  have h2 : ¬ ((k : Int) < 0) := by omega
  simp only [h1, h2, if_false]
  congr 1
  omega
theorem tup_last {a : Addr} {us : List Value} {n : Nat} {value slice : PySem.Expr} {u : Tok} {v : Value} (N : News h₀ L s.heap news) (hm : (a, ({ cls := .type "tuple", data := .seq us.toArray n } : Obj)) ∈ news) (hi : us[us.length - 1]? = some v) (hl : us.length ≤ 1000000) (h : Q v s)
    (hq : subscripted slice false (.ref a) (.int (-1) u) = operate [.ref a, .int (-1) u] (getItem (.ref a) (.int (-1) u))) : wpAny (model prog w) A (subscriptTail value slice (.ref a) (.int (-1) u)) Q E s := by
  have hil : us.length - 1 < us.length := (List.getElem?_eq_some_iff.mp hi).1
  refine item_tupleT (l := us) (j := us.length - 1) ⟨_, (N _ hm).1, rfl, _, rfl⟩ (by omega) (by omega) ?_ hi h hq
  unfold seqIndex?
  simp
  omega
theorem eq_unit {a b : Addr} {us : List Value} {n : Nat} (N : News h₀ L s.heap news) (hm : (a, ({ cls := .type "tuple", data := .seq us.toArray n } : Obj)) ∈ news) (hm2 : s.heap.IsTuple b #[]) (hu : A.units + 4 < cLine) (h : Q (.bool (decide (us.length = 0))) s) :
    wpAny (model prog w) A (compareOp .Eq (.ref a) (.ref b)) Q E s := by
  refine SeqAt.eq_tupleAt (items := us.toArray) (items2 := #[]) (e := fun _ => true) ⟨_, (N _ hm).1, rfl, _, rfl⟩ hm2 (by omega) (fun j j1 j2 => absurd j2 (Nat.not_lt_zero _)) ?_
  have e : ((List.range (min us.toArray.size (#[] : Array Value).size)).all (fun _ => true) && us.toArray.size == (#[] : Array Value).size) = decide (us.length = 0) := by
    simp
    cases us <;> simp
  rw [e]; exact h
end
end Mine
end SK10
section WW
open PySem PySem.W PyProof.Rows PySem.Calls
namespace Mine
local macro_rules | `(tactic| walk_at "call builtin:issubclass") => `(tactic| k_dflt (refine' issub_text ?N ?m ?_; (case N => assumption); (case m => k_mem)))
local macro_rules | `(tactic| walk_at "exec While") => `(tactic| ((with_reducible show wpAny _ _ (exec (Stmt.While _ _ _ _) _) _ _ _); (with_reducible refine stop_of ?_)))
local macro_rules | `(tactic| walk_at "exec For") => `(tactic| k_dflt ((with_reducible show wpAny _ _ (exec (Stmt.For (Expr.Name _ _) _ _ [] _) _) _ _ _); (refine' for_stop ?F ?hx ?hp ?hs ?_); (case F => assumption); (case hx => with_unfolding_all exact rfl); (case hp => with_unfolding_all exact rfl); (case hs => with_unfolding_all exact fun _ => rfl)))
local macro_rules | `(tactic| walk_at "exec For Name Name cons nil") => `(tactic| walk_at "exec For")
local macro_rules | `(tactic| walk_at "exec For Name Call cons nil") => `(tactic| walk_at "exec For")
local macro_rules | `(tactic| walk_at "exec For Name BinOp cons nil") => `(tactic| walk_at "exec For")
local macro_rules | `(tactic| walk_at "truthy str") => `(tactic| k_dflt (refine' P.truthy_str ?h ?_; (case h => (have hc9 := sizeLine_eq; first | omega | (simp only [Str.length_append] at *; omega)))))
local macro_rules | `(tactic| walk_at "INN") => `(tactic| first | exact List.Mem.head _ | (refine' List.Mem.tail _ ?_; walk_at "INN"))
variable {w : World} {mean : ExcName → Option Value} {mg mb : Str → Option Value}
example : True := by
  w_top off
  first
    | walk1
    | trivial
section SB5
section
variable {A : Around} {E : Value → Shared → Prop} {s : Shared} {h₀ : Heap} {L : Addr} {m : Str → Option Value} {news : Led} {M : Model}
theorem toks_need {α : Type} {t : Sem α} {Q : α → Shared → Prop} {n : Nat} (hn : n ≤ s.toks) (h : wpAny M A t (fun a s' => n ≤ s'.toks → Q a s') E s) : wpAny M A t Q E s :=
  wpAny_mono (wpAny_toks_of hn h) (fun _ _ x => x.2 x.1) (fun _ _ x => x.2)
inductive CutText (h₀ : Heap) (L : Addr) (m : Str → Option Value) (news : Led) (s : Shared) (x' : Str) (fl : Flow) (s' : Shared) : Prop
  | mk (e : fl = .next) (h' : Heap) (t' : Tok) (tk' : Nat) (es : s' = { s with heap := h', toks := tk' }) (F : Fr h₀ L h' (fun y => if y = Str.ofString "text" then some (.str x' t') else m y)) (N : News h₀ L h' news)
theorem cut_text {st : Stmt} {rest : List Stmt} {env : Env} {Q : Flow → Shared → Prop} (x' : Str) (hT : 1 ≤ s.toks) (h1 : wpAny M A (exec st env) (fun fl s' => 1 ≤ s'.toks → CutText h₀ L m news s x' fl s') (fun _ _ => False) s)
    (h2 : ∀ h' t' tk', 1 ≤ tk' → Fr h₀ L h' (fun y => if y = Str.ofString "text" then some (.str x' t') else m y) → News h₀ L h' news → wpAny M A (execs rest env) Q E { s with heap := h', toks := tk' }) : wpAny M A (execs (st :: rest) env) Q E s := by
  refine wpAny_execs_cons (wpAny_mono (wpAny_toks_of hT h1) ?_ fun _ _ x => x.2.elim)
  rintro fl s' ⟨hT', h⟩
  obtain ⟨rfl, h', t', tk', rfl, F, N⟩ := h hT'
  exact h2 h' t' tk' hT' F N
theorem cut_text' {st : Stmt} {env : Env} {Q : Flow → Shared → Prop} (x' : Str) (hT : 1 ≤ s.toks) (_F : Fr h₀ L s.heap m) (_N : News h₀ L s.heap news) (h1 : wpAny M A (exec st env) (fun fl s' => 1 ≤ s'.toks → CutText h₀ L m news s x' fl s') (fun _ _ => False) s)
    (h2 : ∀ h' t' tk', 1 ≤ tk' → Fr h₀ L h' (fun y => if y = Str.ofString "text" then some (.str x' t') else m y) → News h₀ L h' news → Q .next { s with heap := h', toks := tk' }) : wpAny M A (exec st env) Q E s := by
  refine wpAny_mono (wpAny_toks_of hT h1) ?_ fun _ _ x => x.2.elim
  rintro fl s' ⟨hT', h⟩
  obtain ⟨rfl, h', t', tk', rfl, F, N⟩ := h hT'
  exact h2 h' t' tk' hT' F N
end
theorem cut_same {h₀ h : Heap} {L : Addr} {m : Str → Option Value} {x x' : Str} {t : Tok} (F : Fr h₀ L h m) (hm : m (Str.ofString "text") = some (.str x t)) (e : x' = x) : Fr h₀ L h (fun y => if y = Str.ofString "text" then some (.str x' t) else m y) := by
  rw [e, ← m_cov1 _ hm]; exact F
theorem join_cps (z : Str) : ∀ parts : List Str, (Str.join z parts).cps.toList = match parts with
  | [] => []
  | p :: r => p.cps.toList ++ r.flatMap (fun q => z.cps.toList ++ q.cps.toList) := by
  intro parts
  cases parts with
  | nil => rfl
  | cons p r =>
    induction r generalizing p with
    | nil => simp [Str.join]
    | cons q r ih =>
      have e : Str.join z (p :: q :: r) = p ++ z ++ Str.join z (q :: r) := rfl
      rw [e, Str.cps_append, Str.cps_append]
      simp [ih q]
theorem flat_free {c : Nat} {z : List Nat} : ∀ {l : List Nat}, c ∉ l → l.flatMap (fun d => if d = c then z else [d]) = l
  | [], _ => rfl
  | d :: r, h => by
    have h1 : d ≠ c := fun e => h (by rw [e]; exact List.mem_cons_self ..)
    have h2 : c ∉ r := fun e => h (List.mem_cons_of_mem _ e)
    simp [h1, flat_free h2]
theorem repl_list (x z : Str) (c : Nat) : (Txt.replace x ⟨#[c]⟩ z).cps.toList = x.cps.toList.flatMap (fun d => if d = c then z.cps.toList else [d]) := by
  have h1 := StrLaws.split_free x c
  have h2 := StrLaws.join_split x ⟨#[c]⟩
  rw [StrLaws.replace_one]
  conv => rhs; rw [← h2]
  generalize Txt.split x ⟨#[c]⟩ = ps at *
  rw [join_cps, join_cps]
  cases ps with
  | nil => rfl
  | cons p r =>
    have hp := flat_free (z := z.cps.toList) (h1 p (.head _))
    simp only [List.flatMap_append, hp]
    congr 1
    have h3 : ∀ q ∈ r, c ∉ q.cps.toList := fun q hq => h1 q (.tail _ hq)
    clear h1 h2 hp
    induction r with
    | nil => rfl
    | cons q r ih =>
      have hq := flat_free (z := z.cps.toList) (h3 q (.head _))
      simp only [List.flatMap_cons, List.flatMap_append, hq, ih fun q hq => h3 q (.tail _ hq)]
      simp
theorem repl_len {x z lit : Str} {c k : Nat} (hl : lit = ⟨#[c]⟩) (hz : z.length ≤ k) (hk : 1 ≤ k) : (Txt.replace x lit z).length ≤ k * x.length := by
  subst hl
  have e : ∀ y : Str, y.length = y.cps.toList.length := fun y => by simp [Str.length]
  rw [e, repl_list, e x]
  have hz' : z.cps.toList.length ≤ k := by rw [← e]; exact hz
  generalize x.cps.toList = l
  induction l with
  | nil => simp
  | cons d r ih =>
    simp only [List.flatMap_cons, List.length_append, List.length_cons, Nat.mul_add, Nat.mul_one]
    split
    · omega
    · simp only [List.length_cons, List.length_nil]; omega
theorem repl_none {x z lit : Str} {c : Nat} (hl : lit = ⟨#[c]⟩) (h : (Builtin.Str.occurrences x lit 0 x.length 1).isEmpty = true) : Txt.replace x lit z = x := by
  subst hl
  have h1 := StrLaws.found_one x c
  rw [h] at h1
  have h2 : c ∉ x.cps.toList := by
    intro q
    simp [q] at h1
  have h3 := repl_list x z c
  rw [flat_free h2] at h3
  have h4 : ∀ a b : Str, a.cps.toList = b.cps.toList → a = b := by
    rintro ⟨a⟩ ⟨b⟩ h; congr 1; exact Array.toList_inj.mp h
  exact h4 _ _ h3
/-- a contract that asks a token above nought -/
noncomputable def ConT (w : World) (mean : ExcName → Option Value) (mg mb : Str → Option Value) (f : Addr) (args : List Value) (led : Led) (D U : Nat) (post : Value → Led → Prop) : Prop :=
  ∀ (dp un : Nat) (gd : Option (List Code)) (cn : Str) (cs : Scope) (a : Addr) (ccd : Value) (cl : List (Str × Addr)) (outer : List Env) (A₀ : Around) (base h₀ : Heap) (L : Addr) (m : Str → Option Value) (s : Shared)
    (Q E : Value → Shared → Prop),
    Below A₀ base outer h₀ → Fr h₀ L s.heap m → (hd0.heap_1 w.params).In h₀ → News h₀ L s.heap led → Top vw (looseW vw []) mean mg mb h₀ → cs.kind = .function →
    dp + D < recursionLimit → un + U < cLine → 1 ≤ s.toks →
    (∀ r led' h' tk', 1 ≤ tk' → post r led' → Fr h₀ L h' m → News h₀ L h' led' → Q r { s with heap := h', toks := tk' }) →
    wpAny (model pg w) (ktrTop dp un gd cn cs L a ccd cl outer) (call (.ref f) args) Q E s
theorem ConT.gen {w : World} {mean : ExcName → Option Value} {mg mb : Str → Option Value} {f : Addr} {args : List Value} {led : Led} {D U : Nat} {post : Value → Led → Prop} (h : ∀ P : Value → Led → Prop, (∀ r l, post r l → P r l) → ConT w mean mg mb f args led D U P) : ConT w mean mg mb f args led D U post := h post fun _ _ x => x
theorem ConT.body {w : World} {mean : ExcName → Option Value} {mg mb : Str → Option Value} {f : Addr} {args : List Value} {led : Led} {D U : Nat} {post : Value → Led → Prop}
    {name qual : Str} {params : Arguments} {body : List Stmt} {scope : Scope} {dV kV doc pm cdv ct oc : Value} {an od : Option Addr} {osl : Array (Option Value)} {binds : List (Str × Value)}
    (ho : (hd0.heap_1 w.params).lookup f = some ⟨oc, od, .func (fnOf name qual params body scope dV kV doc pm an cdv ct), osl⟩) (hcd : codeIn (hd0.heap_1 w.params) cdv qual = true)
    (hbind : bindArgs (fnOf name qual params body scope dV kV doc pm an cdv ct) ⟨args, []⟩ = pure binds) (hloc : (binds.all fun x => decide (scope.names.lookup x.1 = some .local)) = true)
    (hD : 1 ≤ D)
    (h : ∀ (dp un : Nat) (gd : Option (List Code)) (outer : List Env) (A₀ : Around) (base g : Heap) (L' : Addr) (s₀ : Shared),
      Below A₀ base outer g → Fr g L' s₀.heap (fun y => binds.reverse.lookup y) → (hd0.heap_1 w.params).In g → News g L' s₀.heap led → Top vw (looseW vw []) mean mg mb g →
      dp + D < recursionLimit + 1 → un + U < cLine + 3 → 1 ≤ s₀.toks →
      wpAny (model pg w) (ktrTop dp un gd qual scope L' f cdv [] outer) (execs body (envOf qual scope L' f cdv))
        (fun fl s' => Ends g L' s₀ post (match fl with | .ret v => v | _ => .none) s') (fun _ _ => False) s₀)
    (hco : scope.isCoroutine = false) (hgen : scope.isGenerator = false) (hk : scope.kind = .function) (hcell : ∀ x ∈ scope.names, x.2 ≠ .cell) :
    ConT w mean mg mb f args led D U post := by
  intro dp un gd cn cs a ccd cl outer A₀ base h₀ L m s Q E B F X N T hkk hdp hun hT hret
  refine wpAny_call (codeAny_with_toks hT ?_)
  refine code_def B F X N T (A := ktrTop dp un gd cn cs L a ccd cl outer) rfl rfl hkk ho hcd (by show dp < recursionLimit; omega) (BindsTo.of_eq hbind) (locs hloc) ?_ hco hgen hk hcell
  intro g L' h₁ FG F' N' B' X' T'
  have hb := h (dp + 1) (un + 3) gd (envX cn cs L a ccd cl :: outer) _ base g L' { s with heap := h₁, toks := s.toks + binds.length } B' F' X' N' T' (by omega) (by omega) (by show 1 ≤ s.toks + _; omega)
  refine wpAny_mono hb ?_ (fun _ _ x => x.elim)
  rintro fl s' ⟨h', tk, m', led', rfl, F₂, N₂, hp⟩
  exact leaveK_ F₂ N₂ fun k1 k2 ht => hret _ _ _ _ ht hp k1 k2
theorem ConT.use {w : World} {mean : ExcName → Option Value} {mg mb : Str → Option Value} {f : Addr} {args : List Value} {led : Led} {D U : Nat} {post : Value → Led → Prop} (C : ConT w mean mg mb f args led D U post)
    {dp un : Nat} {gd : Option (List Code)} {cn : Str} {cs : Scope} {a : Addr} {ccd : Value} {cl : List (Str × Addr)} {outer : List Env} {A₀ : Around} {base h₀ : Heap} {L : Addr} {m : Str → Option Value} {s : Shared} {Q E : Value → Shared → Prop}
    (B : Below A₀ base outer h₀) (F : Fr h₀ L s.heap m) (X : (hd0.heap_1 w.params).In h₀) (N : News h₀ L s.heap led) (T : Top vw (looseW vw []) mean mg mb h₀) (hk : cs.kind = .function)
    (hd : dp + D < recursionLimit) (hu : un + U < cLine) (hT : 1 ≤ s.toks)
    (h : ∀ r led' h' tk', 1 ≤ tk' → post r led' → Fr h₀ L h' m → News h₀ L h' led' → Q r { s with heap := h', toks := tk' }) :
    wpAny (model pg w) (ktrTop dp un gd cn cs L a ccd cl outer) (call (.ref f) args) Q E s := C dp un gd cn cs a ccd cl outer A₀ base h₀ L m s Q E B F X N T hk hd hu hT h
theorem ConT.use_tok {w : World} {mean : ExcName → Option Value} {mg mb : Str → Option Value} {f : Addr} {args : List Value} {led : Led} {D U : Nat} {V : Tok → Value} (C : ConT w mean mg mb f args led D U (fun r led' => (∃ t', r = V t') ∧ led' = led))
    {dp un : Nat} {gd : Option (List Code)} {cn : Str} {cs : Scope} {a : Addr} {ccd : Value} {cl : List (Str × Addr)} {outer : List Env} {A₀ : Around} {base h₀ : Heap} {L : Addr} {m : Str → Option Value} {s : Shared} {Q E : Value → Shared → Prop}
    (B : Below A₀ base outer h₀) (F : Fr h₀ L s.heap m) (X : (hd0.heap_1 w.params).In h₀) (N : News h₀ L s.heap led) (T : Top vw (looseW vw []) mean mg mb h₀) (hk : cs.kind = .function)
    (hd : dp + D < recursionLimit) (hu : un + U < cLine) (hT : 1 ≤ s.toks)
    (h : ∀ t' h' tk', 1 ≤ tk' → Fr h₀ L h' m → News h₀ L h' led → Q (V t') { s with heap := h', toks := tk' }) :
    wpAny (model pg w) (ktrTop dp un gd cn cs L a ccd cl outer) (call (.ref f) args) Q E s :=
  C.use B F X N T hk hd hu hT (by rintro r led' h' tk' ht ⟨⟨t', rfl⟩, rfl⟩ F' N'; exact h t' h' tk' ht F' N')
end SB5
example : True := by
  w_top off
  first
    | walk1
    | trivial
section SC1
set_option profiler true
set_option profiler.threshold 100
theorem fspath_c (x : Str) (t : Tok) (led : Led) : Con w mean mg mb 143 [.str x t] led 1 8 (fun r led' => r = .str x t ∧ led' = led) := by
  refine' Con.body (binds := [(Str.ofString "path", .str x t)]) ?ho ?hcd ?hbind ?hloc ?hD ?_ ?c2 ?c3 ?c4 ?c5
  ((((((case ho => k_is); (case hcd => k_is); (case hbind => exact rfl); (case hloc => exact rfl); (case hD => decide); (case c2 => exact rfl); (case c3 => exact rfl); (case c4 => exact rfl); (case c5 => decide)))); intro _ _ _ _ _ _ _ _ _ _ _ _ _ _ _ _))
  (repeat' (first | walk1 | (dsimp only; walk1)))
  (((try dsimp only); (refine' Ends.intro ?_ ?F ?N ?_); (case F => assumption); (case N => assumption); rotate_left))
  · exact ⟨rfl, rfl⟩
  · (first | (intro p hp; exact hp) | (intro p hp; k_ownIn))
end SC1
example : True := by
  w_top off
  first
    | walk1
    | trivial
section SC2
theorem get_sep_c (x : Str) (t : Tok) (led : Led) : Con w mean mg mb 164 [.str x t] led 1 20 (fun r led' => (∃ t', r = .str (Str.ofString "/") t') ∧ led' = led) := by
  refine' Con.body (binds := [(Str.ofString "path", .str x t)]) ?ho ?hcd ?hbind ?hloc ?hD ?_ ?c2 ?c3 ?c4 ?c5
  ((((((case ho => k_is); (case hcd => k_is); (case hbind => exact rfl); (case hloc => exact rfl); (case hD => decide); (case c2 => exact rfl); (case c3 => exact rfl); (case c4 => exact rfl); (case c5 => decide)))); intro _ _ _ _ _ _ _ _ _ _ _ _ _ _ _ _))
  (repeat' (first | ((with_reducible show wpAny _ _ (call (Value.ref _) _) _ _ _); first | (((with_reducible show wpAny _ _ (call (Value.ref 143) [Value.str _ _]) _ _ _); (refine' Con.use_val (fspath_c _ _ _) ?B ?F ?X ?N ?T ?hk ?hd ?hu ?_); ((((case B => k_asm); (case F => k_asm); (case X => k_asm); (case N => k_asm); (case T => k_asm); (case hk => exact rfl); (case hd => omega); (case hu => omega)))); intro _ _ _ _; (try dsimp only); (try k_sweep)))) | walk1 | (dsimp only; walk1)))
  (((try dsimp only); (refine' Ends.intro ?_ ?F ?N ?_); (case F => assumption); (case N => assumption); rotate_left))
  · exact ⟨⟨_, rfl⟩, rfl⟩
  · (first | (intro p hp; exact hp) | (intro p hp; k_ownIn))
noncomputable def jn (p b : Str) : Str := if Txt.startswith b (Str.ofString "/") = true ∨ p.length = 0 then b else if Txt.endswith p (Str.ofString "/") = true then p ++ b else p ++ (Str.ofString "/" ++ b)
noncomputable def joinS (a : Str) (bs : List Str) : Str := bs.foldl jn a
theorem strsAre_len {vs : List Value} {ws : List Str} (h : StrsAre vs ws) : vs.length = ws.length := by
  induction h with
  | nil => rfl
  | cons y t _ ih => simp [ih]
theorem jn_len (p b : Str) : (jn p b).length ≤ p.length + b.length + 1 := by
  have h1 : (Str.ofString "/").length = 1 := by decide +kernel
  unfold jn
  split
  · omega
  · split
    · rw [Str.length_append]; omega
    · rw [Str.length_append, Str.length_append, h1]; omega
theorem joinS_len {bs : List Str} (h : ∀ b ∈ bs, b.length ≤ 1000) : ∀ x : Str, (joinS x bs).length ≤ x.length + 1001 * bs.length := by
  induction bs with
  | nil => intro x; simp [joinS]
  | cons b r ih =>
    intro x
    have h1 := ih (fun c hc => h c (.tail _ hc)) (jn x b)
    have h2 := jn_len x b
    have h3 := h b (.head _)
    have e : joinS x (b :: r) = joinS (jn x b) r := rfl
    rw [e, List.length_cons]
    omega
theorem joinS_take {x : Str} {bs : List Str} {i : Nat} {b : Str} (e : bs[i]? = some b) : joinS x (bs.take (i + 1)) = jn (joinS x (bs.take i)) b := by
  simp [joinS, List.take_add_one, e]
inductive joinJ (x : Str) (bs : List Str) (m₀ : Str → Option Value) (led₀ : Led) (_ : Addr) (i : Nat) (m : Str → Option Value) (led : Led) : Prop
  | mk (el : led = led₀) (t : Tok) (bo : Option Value) (em : m = fun y => if y = Str.ofString "path" then some (.str (joinS x (bs.take i)) t) else if y = Str.ofString "b" then bo else m₀ y)
theorem uncons {α : Type} {n : Nat} {vs : List α} (h : vs.length = n + 1) : ∃ a r, vs = a :: r ∧ r.length = n := by
  cases vs with
  | nil => cases h
  | cons a r => exact ⟨a, r, rfl, Nat.succ.inj h⟩
theorem join_c (x : Str) (t : Tok) (vs : List Value) (bs : List Str) (hb : StrsAre vs bs) (hn : vs.length = 1 ∨ vs.length = 2 ∨ vs.length = 4) (hx : x.length ≤ 100000) (hbl : ∀ b ∈ bs, b.length ≤ 1000) (led : Led) :
    Con w mean mg mb 171 (.str x t :: vs) led 3 60 (fun r led' => (∃ t', r = .str (joinS x bs) t') ∧ led' = led) := by
  refine' Con.bodyStar (vs := vs) (binds := fun D => [(Str.ofString "a", .str x t), (Str.ofString "p", .ref D)]) ?ho ?hcd ?hv ?hp ?hloc ?hD ?_ ?c2 ?c3 ?c4 ?c5
  (case ho => k_is)
  (case hcd => k_is)
  (case hv => exact rfl)
  (case hp =>
    rcases hn with hn | hn | hn
    · obtain ⟨v1, r, rfl, h1⟩ := uncons hn
      cases List.eq_nil_of_length_eq_zero h1
      exact rfl
    · obtain ⟨v1, r, rfl, h1⟩ := uncons hn
      obtain ⟨v2, r, rfl, h2⟩ := uncons h1
      cases List.eq_nil_of_length_eq_zero h2
      exact rfl
    · obtain ⟨v1, r, rfl, h1⟩ := uncons hn
      obtain ⟨v2, r, rfl, h2⟩ := uncons h1
      obtain ⟨v3, r, rfl, h3⟩ := uncons h2
      obtain ⟨v4, r, rfl, h4⟩ := uncons h3
      cases List.eq_nil_of_length_eq_zero h4
      exact rfl)
  (case hloc => exact fun _ => rfl)
  (case hD => decide)
  (case c2 => exact rfl)
  (case c3 => exact rfl)
  (case c4 => exact rfl)
  (case c5 => decide)
  intro T0 dp un gd outer A₀ base g L' s₀ hT0 B' F' X' N' T' hdp hun
  (repeat' (first | ((with_reducible show wpAny _ _ (call (Value.ref _) _) _ _ _); first | (((with_reducible show wpAny _ _ (call (Value.ref 164) [Value.str _ _]) _ _ _); (refine' Con.use_tok (get_sep_c _ _ _) ?B ?F ?X ?N ?T ?hk ?hd ?hu ?_); ((((case B => k_asm); (case F => k_asm); (case X => k_asm); (case N => k_asm); (case T => k_asm); (case hk => exact rfl); (case hd => omega); (case hu => omega)))); intro _ _ _ _ _; (try dsimp only); (try k_sweep))) | (((with_reducible show wpAny _ _ (call (Value.ref 143) [Value.str _ _]) _ _ _); (refine' Con.use_val (fspath_c _ _ _) ?B ?F ?X ?N ?T ?hk ?hd ?hu ?_); ((((case B => k_asm); (case F => k_asm); (case X => k_asm); (case N => k_asm); (case T => k_asm); (case hk => exact rfl); (case hd => omega); (case hu => omega)))); intro _ _ _ _; (try dsimp only); (try k_sweep)))) | walk1 | (dsimp only; walk1)))
  rename Fr _ _ _ _ => F1
  unfold Stop
  refine for_tuple (joinJ x bs) rfl F1 (by assumption) (List.Mem.head _) ?j0 ?jk ?turn ?done
  case j0 => intro I _; exact ⟨rfl, t, _, m_cov2 _ _ rfl rfl⟩
  case jk => rintro I i m led' ⟨rfl, _, _, _⟩; exact List.Mem.head _
  case turn =>
    rintro I i v m₁ led' h tk o hv ⟨rfl, t1, bo, rfl⟩ hne F2 N2
    (revert F2; apply hide1 v; intro P9 b9); obtain ⟨b, tb, hb', rfl⟩ := strsAre_get hb hv; refine b9 _ ?_; clear b9 P9; intro F2
    have hl1 := hbl b (List.mem_of_getElem? hb')
    have hl2 := joinS_len (bs := bs.take i) (fun c hc => hbl c (List.mem_of_mem_take hc)) x
    have hl3 : (bs.take i).length ≤ 4 := by
      have := strsAre_len hb
      rw [List.length_take]; omega
    (repeat' (first | ((with_reducible show wpAny _ _ (call (Value.ref _) _) _ _ _); first | (((with_reducible show wpAny _ _ (call (Value.ref 164) [Value.str _ _]) _ _ _); (refine' Con.use_tok (get_sep_c _ _ _) ?B ?F ?X ?N ?T ?hk ?hd ?hu ?_); ((((case B => k_asm); (case F => k_asm); (case X => k_asm); (case N => k_asm); (case T => k_asm); (case hk => exact rfl); (case hd => omega); (case hu => omega)))); intro _ _ _ _ _; (try dsimp only); (try k_sweep))) | (((with_reducible show wpAny _ _ (call (Value.ref 143) [Value.str _ _]) _ _ _); (refine' Con.use_val (fspath_c _ _ _) ?B ?F ?X ?N ?T ?hk ?hd ?hu ?_); ((((case B => k_asm); (case F => k_asm); (case X => k_asm); (case N => k_asm); (case T => k_asm); (case hk => exact rfl); (case hd => omega); (case hu => omega)))); intro _ _ _ _; (try dsimp only); (try k_sweep)))) | walk1 | (dsimp only; walk1)))
    all_goals (
      ((((try dsimp only); first | (refine' TurnEnd.intro ?_ ?F ?N ?_ ?_; (case F => assumption); (case N => assumption); rotate_left) | (refine' TurnEnd.introC ?_ ?F ?N ?_ ?_; (case F => assumption); (case N => assumption); rotate_left))))
      · exact ⟨rfl, _, _, m_keep2 _ _ (Eq.trans rfl (some_str (by rw [joinS_take hb']; unfold jn; simp_all))) rfl (by intro y h1 h2; simp [h1, h2])⟩
      · (first | (intro p hp; exact hp) | (intro p hp; k_ownIn))
      · exact hne)
  case done =>
    rintro I m₁ led' h tk ⟨rfl, t1, bo, rfl⟩ F2 N2
    (repeat' (first | ((with_reducible show wpAny _ _ (call (Value.ref _) _) _ _ _); first | (((with_reducible show wpAny _ _ (call (Value.ref 164) [Value.str _ _]) _ _ _); (refine' Con.use_tok (get_sep_c _ _ _) ?B ?F ?X ?N ?T ?hk ?hd ?hu ?_); ((((case B => k_asm); (case F => k_asm); (case X => k_asm); (case N => k_asm); (case T => k_asm); (case hk => exact rfl); (case hd => omega); (case hu => omega)))); intro _ _ _ _ _; (try dsimp only); (try k_sweep))) | (((with_reducible show wpAny _ _ (call (Value.ref 143) [Value.str _ _]) _ _ _); (refine' Con.use_val (fspath_c _ _ _) ?B ?F ?X ?N ?T ?hk ?hd ?hu ?_); ((((case B => k_asm); (case F => k_asm); (case X => k_asm); (case N => k_asm); (case T => k_asm); (case hk => exact rfl); (case hd => omega); (case hu => omega)))); intro _ _ _ _; (try dsimp only); (try k_sweep)))) | walk1 | (dsimp only; walk1)))
    (((try dsimp only); (refine' Ends.intro ?_ ?F ?N ?_); (case F => assumption); (case N => assumption); rotate_left))
    · exact ⟨⟨_, by rw [List.take_of_length_le (by rw [strsAre_len hb]; exact Nat.le_refl _)]⟩, rfl⟩
    · (first | (intro p hp; exact hp) | (intro p hp; k_ownIn))
end SC2
example : True := by
  w_top off
  first
    | walk1
    | trivial
section SC9
abbrev tupOf (vs : List Value) : Obj := { cls := .type "tuple", data := .seq vs.toArray }
theorem splitroot_c (x : Str) (t : Tok) (hx : x.length ≤ 1000) (h1 : (Txt.slice x none (some 1) != Str.ofString "/") = false) (h2 : (Txt.slice x (some 1) (some 2) != Str.ofString "/") = true) (led : Led) :
    Con w mean mg mb 188 [.str x t] led 2 60 (fun r led' => ∃ T t1 t2 t3, r = .ref T ∧ led' = (T, tupOf [.str (Str.ofString "") t1, .str (Str.ofString "/") t2, .str (Txt.slice x (some 1) none) t3]) :: led ∧ (∀ p ∈ led, p.1 < T)) := by
  refine' Con.body (binds := [(Str.ofString "p", .str x t)]) ?ho ?hcd ?hbind ?hloc ?hD ?_ ?c2 ?c3 ?c4 ?c5
  ((((((case ho => k_is); (case hcd => k_is); (case hbind => exact rfl); (case hloc => exact rfl); (case hD => decide); (case c2 => exact rfl); (case c3 => exact rfl); (case c4 => exact rfl); (case c5 => decide)))); intro _ _ _ _ _ _ _ _ _ _ _ _ _ _ _ _))
  (repeat' (first | ((with_reducible show wpAny _ _ (call (Value.ref _) _) _ _ _); first | (((with_reducible show wpAny _ _ (call (Value.ref 143) [Value.str _ _]) _ _ _); (refine' Con.use_val (fspath_c _ _ _) ?B ?F ?X ?N ?T ?hk ?hd ?hu ?_); ((((case B => k_asm); (case F => k_asm); (case X => k_asm); (case N => k_asm); (case T => k_asm); (case hk => exact rfl); (case hd => omega); (case hu => omega)))); intro _ _ _ _; (try dsimp only); (try k_sweep)))) | walk1 | (dsimp only; walk1)))
  (((try dsimp only); (refine' Ends.intro ?_ ?F ?N ?S); (case F => assumption); (case N => assumption); (case S => exact fun p h => h)))
  exact ⟨_, _, _, _, rfl, rfl, by assumption⟩
theorem Con.use_splitroot {led : Led} {D U : Nat} {x : Str} {t : Tok} (C : Con w mean mg mb 188 [.str x t] led D U (fun r led' => ∃ T t1 t2 t3, r = .ref T ∧ led' = (T, tupOf [.str (Str.ofString "") t1, .str (Str.ofString "/") t2, .str (Txt.slice x (some 1) none) t3]) :: led ∧ (∀ p ∈ led, p.1 < T)))
    {dp un : Nat} {gd : Option (List Code)} {cn : Str} {cs : Scope} {a : Addr} {ccd : Value} {cl : List (Str × Addr)} {outer : List Env} {A₀ : Around} {base h₀ : Heap} {L : Addr} {m : Str → Option Value} {s : Shared} {Q E : Value → Shared → Prop}
    (B : Below A₀ base outer h₀) (F : Fr h₀ L s.heap m) (X : (hd0.heap_1 w.params).In h₀) (N : News h₀ L s.heap led) (T : Top vw (looseW vw []) mean mg mb h₀) (hk : cs.kind = .function)
    (hd : dp + D < recursionLimit) (hu : un + U < cLine)
    (h : ∀ T t1 t2 t3 h' tk', (∀ p ∈ led, p.1 < T) → Fr h₀ L h' m → News h₀ L h' ((T, tupOf [.str (Str.ofString "") t1, .str (Str.ofString "/") t2, .str (Txt.slice x (some 1) none) t3]) :: led) → Q (.ref T) { s with heap := h', toks := tk' }) :
    wpAny (model pg w) (ktrTop dp un gd cn cs L a ccd cl outer) (call (.ref 188) [.str x t]) Q E s :=
  C.use B F X N T hk hd hu (by rintro r led' h' tk' ⟨T, t1, t2, t3, rfl, rfl, hlt⟩ F' N'; exact h T t1 t2 t3 h' tk' hlt F' N')
end SC9
example : True := by
  w_top off
  first
    | walk1
    | trivial
section GA
local macro_rules | `(tactic| walk_at "execs cons") => `(tactic| (refine wpAny_execs_cons ?_))
example : True := by
  w_top off
  first
    | walk1
    | trivial
section SC7
theorem m_two {m : Str → Option Value} {a : Str} {v u : Option Value} : (fun y => if y = a then v else if y = a then u else m y) = fun y => if y = a then v else m y := by
  funext y
  split
  · rfl
  · rfl
theorem esc_call {env : Env} {x name : Str} {p5 p6 p9 : Pos} {args : List Expr} (hf : methodCallForm (args.length + 0) (backTo p9 (starEach args env)) [] = true) (hp : (p6.endLine == p9.line) = true) :
    eval (.Call (.Attribute (.Name x p5) name p6) args [] p9) env = (do
      let ov ← eval (.Name x p5) env
      standAt p6.atName
      let (f, first) ← holding [ov] (getMethod ov name (do return (← importBound (.Name x p5) env).getD true))
      callWith p9 f first (backTo p9 (starEach args env)) []) := by
  have hq : methodCallPos true (.Name x p5) env p6 p9 = pure p9 := by
    unfold methodCallPos
    rw [if_pos (by rw [hp]; rfl)]
  show (eval (.Name x p5) env >>= fun ov => standAt p6.atName >>= fun _ => holding [ov] (calleeOf (methodCallForm (args.length + 0) (backTo p9 (starEach args env)) []) (.Name x p5) env ov name) >>= fun fx => methodCallPos (methodCallForm (args.length + 0) (backTo p9 (starEach args env)) []) (.Name x p5) env p6 p9 >>= fun q => callWith q fx.1 fx.2 (backTo p9 (starEach args env)) []) = _
  rw [hf, hq]
  rfl
section
local macro_rules | `(tactic| walk_at "eval Call Attribute") => `(tactic| (refine MethodCall_ ?_ (esc_call rfl (by assumption))))
local macro_rules | `(tactic| walk_at "call builtin:str.replace") => `(tactic| ((refine' SC.replaceW ?u ?v ?uv ?yz ?hx ?hz ?_); (case u => (first | assumption | omega | ((try dsimp only); omega) | ((try dsimp only at *); omega))); (case v => (first | assumption | omega | ((try dsimp only); omega) | ((try dsimp only at *); omega))); (case uv => (first | assumption | omega | ((try dsimp only); omega) | ((try dsimp only at *); omega))); (case yz => assumption); (case hx => assumption); (case hz => assumption); intro t9 k9))
/-- «if c in text: text = text.replace(c, z)» -/
theorem esc_step {dp un : Nat} {gd : Option (List Code)} {qual : Str} {L f : Addr} {cdv : Value} {outer : List Env} {g : Heap} {m : Str → Option Value} {s : Shared} {led : Led} {Q : Flow → Shared → Prop} {E : Value → Shared → Prop} {rest : List Stmt} {x : Str} {t : Tok} {c z : Str} {p1 p2 p3 p4 p5 p6 p7 p8 p9 pa pb : Pos} (k n : Nat)
    (hp : (p6.endLine == p9.line) = true) (hc : c = ⟨#[k]⟩) (hyz : (c == z) = false) (hz : z.length ≤ 6) (hx : x.length ≤ n) (hn : n ≤ 1048576) (hT : 1 ≤ s.toks) (F : Fr g L s.heap (fun y => if y = (Str.ofString "text") then some (.str x t) else m y)) (N : News g L s.heap led)
    (h : ∀ h' t' tk', 1 ≤ tk' → (Txt.replace x c z).length ≤ 6 * n → Fr g L h' (fun y => if y = (Str.ofString "text") then some (.str (Txt.replace x c z) t') else m y) → News g L h' led → wpAny (model pg w) (ktrTop dp un gd qual { kind := ScopeKind.function, names := [(Str.ofString "text", NameKind.local), (Str.ofString "TypeError", NameKind.globalImplicit), (Str.ofString "AttributeError", NameKind.globalImplicit), (Str.ofString "_raise_serialization_error", NameKind.globalImplicit)], isGenerator := false, isCoroutine := false } L f cdv [] outer) (execs rest (envOf qual { kind := ScopeKind.function, names := [(Str.ofString "text", NameKind.local), (Str.ofString "TypeError", NameKind.globalImplicit), (Str.ofString "AttributeError", NameKind.globalImplicit), (Str.ofString "_raise_serialization_error", NameKind.globalImplicit)], isGenerator := false, isCoroutine := false } L f cdv)) Q E { s with heap := h', toks := tk' }) :
    wpAny (model pg w) (ktrTop dp un gd qual { kind := ScopeKind.function, names := [(Str.ofString "text", NameKind.local), (Str.ofString "TypeError", NameKind.globalImplicit), (Str.ofString "AttributeError", NameKind.globalImplicit), (Str.ofString "_raise_serialization_error", NameKind.globalImplicit)], isGenerator := false, isCoroutine := false } L f cdv [] outer) (execs (.If (.Compare (.Constant (.str c) 0 p1) [.In] [.Name (Str.ofString "text") p2] p3) [.Assign [.Name (Str.ofString "text") p4] (.Call (.Attribute (.Name (Str.ofString "text") p5) (Str.ofString "replace") p6) [.Constant (.str c) 0 p7, .Constant (.str z) 0 p8] [] p9) pa] [] pb :: rest) (envOf qual { kind := ScopeKind.function, names := [(Str.ofString "text", NameKind.local), (Str.ofString "TypeError", NameKind.globalImplicit), (Str.ofString "AttributeError", NameKind.globalImplicit), (Str.ofString "_raise_serialization_error", NameKind.globalImplicit)], isGenerator := false, isCoroutine := false } L f cdv)) Q E s := by
  have hl : (Txt.replace x c z).length ≤ 6 * n := Nat.le_trans (repl_len hc hz (by decide)) (Nat.mul_le_mul_left 6 hx)
  have hx9 : x.length ≤ 1048576 := Nat.le_trans hx hn
  have hz9 : z.length ≤ 14 := Nat.le_trans hz (by decide)
  refine cut_text (news := led) (m := fun y => if y = (Str.ofString "text") then some (.str x t) else m y) (Txt.replace x c z) hT ?_ fun h' t' tk' hT' F' N' => h h' t' tk' hT' hl (m_two ▸ F') N'
  (repeat' (first | walk1 | (dsimp only; walk1)))
  · exact ⟨rfl, _, _, _, rfl, cut_same (by assumption) (by exact rfl) (repl_none hc (by assumption)), by assumption⟩
  · exact ⟨rfl, _, _, _, rfl, by assumption, by assumption⟩
end
noncomputable def esc_cdata (x : Str) : Str := (Txt.replace (Txt.replace (Txt.replace x (Str.ofString "&") (Str.ofString "&amp;")) (Str.ofString "<") (Str.ofString "&lt;")) (Str.ofString ">") (Str.ofString "&gt;"))
theorem esc_cdata_c (x : Str) (t : Tok) (hx : x.length ≤ 8) (led : Led) : ConT w mean mg mb 42 [.str x t] led 1 20 (fun r led' => (∃ t', r = .str (esc_cdata x) t') ∧ led' = led) := by
  refine' ConT.body (binds := [(Str.ofString "text", .str x t)]) ?ho ?hcd ?hbind ?hloc ?hD ?_ ?c2 ?c3 ?c4 ?c5
  ((((((case ho => k_is); (case hcd => k_is); (case hbind => exact rfl); (case hloc => exact rfl); (case hD => decide); (case c2 => exact rfl); (case c3 => exact rfl); (case c4 => exact rfl); (case c5 => decide)))); intro _ _ _ _ _ _ _ _ _ _ _ _ _ _ _ _ _))
  iterate 2 walk1
  refine esc_step 38 8 rfl (by decide +kernel) (by decide +kernel) (by decide +kernel) hx (by decide) (by assumption) (cut_same (by assumption) (by exact rfl) rfl) (by assumption) ?_
  intro h9 t9 tk9 T9 l9 F9 N9
  refine esc_step 60 (6 * 8) rfl (by decide +kernel) (by decide +kernel) (by decide +kernel) l9 (by decide) T9 F9 N9 ?_
  intro h9 t9 tk9 T9 l9 F9 N9
  refine esc_step 62 (6 * (6 * 8)) rfl (by decide +kernel) (by decide +kernel) (by decide +kernel) l9 (by decide) T9 F9 N9 ?_
  intro h9 t9 tk9 T9 l9 F9 N9
  (repeat' (first | walk1 | (dsimp only; walk1)))
  (((try dsimp only); (refine' Ends.intro ?_ ?F ?N ?_); (case F => assumption); (case N => assumption); rotate_left))
  · exact ⟨⟨_, rfl⟩, rfl⟩
  · (first | (intro p hp; exact hp) | (intro p hp; k_ownIn))
noncomputable def esc_attrib (x : Str) : Str := (Txt.replace (Txt.replace (Txt.replace (Txt.replace (Txt.replace (Txt.replace (Txt.replace x (Str.ofString "&") (Str.ofString "&amp;")) (Str.ofString "<") (Str.ofString "&lt;")) (Str.ofString ">") (Str.ofString "&gt;")) (Str.ofString "\"") (Str.ofString "&quot;")) (Str.ofString "\r") (Str.ofString "&#13;")) (Str.ofString "\n") (Str.ofString "&#10;")) (Str.ofString "\t") (Str.ofString "&#09;"))
theorem esc_attrib_c (x : Str) (t : Tok) (hx : x.length ≤ 8) (led : Led) : ConT w mean mg mb 49 [.str x t] led 1 20 (fun r led' => (∃ t', r = .str (esc_attrib x) t') ∧ led' = led) := by
  refine' ConT.body (binds := [(Str.ofString "text", .str x t)]) ?ho ?hcd ?hbind ?hloc ?hD ?_ ?c2 ?c3 ?c4 ?c5
  ((((((case ho => k_is); (case hcd => k_is); (case hbind => exact rfl); (case hloc => exact rfl); (case hD => decide); (case c2 => exact rfl); (case c3 => exact rfl); (case c4 => exact rfl); (case c5 => decide)))); intro _ _ _ _ _ _ _ _ _ _ _ _ _ _ _ _ _))
  iterate 2 walk1
  refine esc_step 38 8 rfl (by decide +kernel) (by decide +kernel) (by decide +kernel) hx (by decide) (by assumption) (cut_same (by assumption) (by exact rfl) rfl) (by assumption) ?_
  intro h9 t9 tk9 T9 l9 F9 N9
  refine esc_step 60 (6 * 8) rfl (by decide +kernel) (by decide +kernel) (by decide +kernel) l9 (by decide) T9 F9 N9 ?_
  intro h9 t9 tk9 T9 l9 F9 N9
  refine esc_step 62 (6 * (6 * 8)) rfl (by decide +kernel) (by decide +kernel) (by decide +kernel) l9 (by decide) T9 F9 N9 ?_
  intro h9 t9 tk9 T9 l9 F9 N9
  refine esc_step 34 (6 * (6 * (6 * 8))) rfl (by decide +kernel) (by decide +kernel) (by decide +kernel) l9 (by decide) T9 F9 N9 ?_
  intro h9 t9 tk9 T9 l9 F9 N9
  refine esc_step 13 (6 * (6 * (6 * (6 * 8)))) rfl (by decide +kernel) (by decide +kernel) (by decide +kernel) l9 (by decide) T9 F9 N9 ?_
  intro h9 t9 tk9 T9 l9 F9 N9
  refine esc_step 10 (6 * (6 * (6 * (6 * (6 * 8))))) rfl (by decide +kernel) (by decide +kernel) (by decide +kernel) l9 (by decide) T9 F9 N9 ?_
  intro h9 t9 tk9 T9 l9 F9 N9
  refine esc_step 9 (6 * (6 * (6 * (6 * (6 * (6 * 8)))))) rfl (by decide +kernel) (by decide +kernel) (by decide +kernel) l9 (by decide) T9 F9 N9 ?_
  intro h9 t9 tk9 T9 l9 F9 N9
  (repeat' (first | walk1 | (dsimp only; walk1)))
  (((try dsimp only); (refine' Ends.intro ?_ ?F ?N ?_); (case F => assumption); (case N => assumption); rotate_left))
  · exact ⟨⟨_, rfl⟩, rfl⟩
  · (first | (intro p hp; exact hp) | (intro p hp; k_ownIn))
noncomputable def esc_html (x : Str) : Str := (Txt.replace (Txt.replace (Txt.replace x (Str.ofString "&") (Str.ofString "&amp;")) (Str.ofString ">") (Str.ofString "&gt;")) (Str.ofString "\"") (Str.ofString "&quot;"))
theorem esc_html_c (x : Str) (t : Tok) (hx : x.length ≤ 8) (led : Led) : ConT w mean mg mb 56 [.str x t] led 1 20 (fun r led' => (∃ t', r = .str (esc_html x) t') ∧ led' = led) := by
  refine' ConT.body (binds := [(Str.ofString "text", .str x t)]) ?ho ?hcd ?hbind ?hloc ?hD ?_ ?c2 ?c3 ?c4 ?c5
  ((((((case ho => k_is); (case hcd => k_is); (case hbind => exact rfl); (case hloc => exact rfl); (case hD => decide); (case c2 => exact rfl); (case c3 => exact rfl); (case c4 => exact rfl); (case c5 => decide)))); intro _ _ _ _ _ _ _ _ _ _ _ _ _ _ _ _ _))
  iterate 2 walk1
  refine esc_step 38 8 rfl (by decide +kernel) (by decide +kernel) (by decide +kernel) hx (by decide) (by assumption) (cut_same (by assumption) (by exact rfl) rfl) (by assumption) ?_
  intro h9 t9 tk9 T9 l9 F9 N9
  refine esc_step 62 (6 * 8) rfl (by decide +kernel) (by decide +kernel) (by decide +kernel) l9 (by decide) T9 F9 N9 ?_
  intro h9 t9 tk9 T9 l9 F9 N9
  refine esc_step 34 (6 * (6 * 8)) rfl (by decide +kernel) (by decide +kernel) (by decide +kernel) l9 (by decide) T9 F9 N9 ?_
  intro h9 t9 tk9 T9 l9 F9 N9
  (repeat' (first | walk1 | (dsimp only; walk1)))
  (((try dsimp only); (refine' Ends.intro ?_ ?F ?N ?_); (case F => assumption); (case N => assumption); rotate_left))
  · exact ⟨⟨_, rfl⟩, rfl⟩
  · (first | (intro p hp; exact hp) | (intro p hp; k_ownIn))
noncomputable def esc_c14n (x : Str) : Str := (Txt.replace (Txt.replace (Txt.replace (Txt.replace x (Str.ofString "&") (Str.ofString "&amp;")) (Str.ofString "<") (Str.ofString "&lt;")) (Str.ofString ">") (Str.ofString "&gt;")) (Str.ofString "\r") (Str.ofString "&#xD;"))
theorem esc_c14n_c (x : Str) (t : Tok) (hx : x.length ≤ 8) (led : Led) : ConT w mean mg mb 63 [.str x t] led 1 20 (fun r led' => (∃ t', r = .str (esc_c14n x) t') ∧ led' = led) := by
  refine' ConT.body (binds := [(Str.ofString "text", .str x t)]) ?ho ?hcd ?hbind ?hloc ?hD ?_ ?c2 ?c3 ?c4 ?c5
  ((((((case ho => k_is); (case hcd => k_is); (case hbind => exact rfl); (case hloc => exact rfl); (case hD => decide); (case c2 => exact rfl); (case c3 => exact rfl); (case c4 => exact rfl); (case c5 => decide)))); intro _ _ _ _ _ _ _ _ _ _ _ _ _ _ _ _ _))
  iterate 2 walk1
  refine esc_step 38 8 rfl (by decide +kernel) (by decide +kernel) (by decide +kernel) hx (by decide) (by assumption) (cut_same (by assumption) (by exact rfl) rfl) (by assumption) ?_
  intro h9 t9 tk9 T9 l9 F9 N9
  refine esc_step 60 (6 * 8) rfl (by decide +kernel) (by decide +kernel) (by decide +kernel) l9 (by decide) T9 F9 N9 ?_
  intro h9 t9 tk9 T9 l9 F9 N9
  refine esc_step 62 (6 * (6 * 8)) rfl (by decide +kernel) (by decide +kernel) (by decide +kernel) l9 (by decide) T9 F9 N9 ?_
  intro h9 t9 tk9 T9 l9 F9 N9
  refine esc_step 13 (6 * (6 * (6 * 8))) rfl (by decide +kernel) (by decide +kernel) (by decide +kernel) l9 (by decide) T9 F9 N9 ?_
  intro h9 t9 tk9 T9 l9 F9 N9
  (repeat' (first | walk1 | (dsimp only; walk1)))
  (((try dsimp only); (refine' Ends.intro ?_ ?F ?N ?_); (case F => assumption); (case N => assumption); rotate_left))
  · exact ⟨⟨_, rfl⟩, rfl⟩
  · (first | (intro p hp; exact hp) | (intro p hp; k_ownIn))
noncomputable def esc_attrC14n (x : Str) : Str := (Txt.replace (Txt.replace (Txt.replace (Txt.replace (Txt.replace (Txt.replace x (Str.ofString "&") (Str.ofString "&amp;")) (Str.ofString "<") (Str.ofString "&lt;")) (Str.ofString "\"") (Str.ofString "&quot;")) (Str.ofString "\t") (Str.ofString "&#x9;")) (Str.ofString "\n") (Str.ofString "&#xA;")) (Str.ofString "\r") (Str.ofString "&#xD;"))
theorem esc_attrC14n_c (x : Str) (t : Tok) (hx : x.length ≤ 8) (led : Led) : ConT w mean mg mb 70 [.str x t] led 1 20 (fun r led' => (∃ t', r = .str (esc_attrC14n x) t') ∧ led' = led) := by
  refine' ConT.body (binds := [(Str.ofString "text", .str x t)]) ?ho ?hcd ?hbind ?hloc ?hD ?_ ?c2 ?c3 ?c4 ?c5
  ((((((case ho => k_is); (case hcd => k_is); (case hbind => exact rfl); (case hloc => exact rfl); (case hD => decide); (case c2 => exact rfl); (case c3 => exact rfl); (case c4 => exact rfl); (case c5 => decide)))); intro _ _ _ _ _ _ _ _ _ _ _ _ _ _ _ _ _))
  iterate 2 walk1
  refine esc_step 38 8 rfl (by decide +kernel) (by decide +kernel) (by decide +kernel) hx (by decide) (by assumption) (cut_same (by assumption) (by exact rfl) rfl) (by assumption) ?_
  intro h9 t9 tk9 T9 l9 F9 N9
  refine esc_step 60 (6 * 8) rfl (by decide +kernel) (by decide +kernel) (by decide +kernel) l9 (by decide) T9 F9 N9 ?_
  intro h9 t9 tk9 T9 l9 F9 N9
  refine esc_step 34 (6 * (6 * 8)) rfl (by decide +kernel) (by decide +kernel) (by decide +kernel) l9 (by decide) T9 F9 N9 ?_
  intro h9 t9 tk9 T9 l9 F9 N9
  refine esc_step 9 (6 * (6 * (6 * 8))) rfl (by decide +kernel) (by decide +kernel) (by decide +kernel) l9 (by decide) T9 F9 N9 ?_
  intro h9 t9 tk9 T9 l9 F9 N9
  refine esc_step 10 (6 * (6 * (6 * (6 * 8)))) rfl (by decide +kernel) (by decide +kernel) (by decide +kernel) l9 (by decide) T9 F9 N9 ?_
  intro h9 t9 tk9 T9 l9 F9 N9
  refine esc_step 13 (6 * (6 * (6 * (6 * (6 * 8))))) rfl (by decide +kernel) (by decide +kernel) (by decide +kernel) l9 (by decide) T9 F9 N9 ?_
  intro h9 t9 tk9 T9 l9 F9 N9
  (repeat' (first | walk1 | (dsimp only; walk1)))
  (((try dsimp only); (refine' Ends.intro ?_ ?F ?N ?_); (case F => assumption); (case N => assumption); rotate_left))
  · exact ⟨⟨_, rfl⟩, rfl⟩
  · (first | (intro p hp; exact hp) | (intro p hp; k_ownIn))
end SC7
example : True := by
  w_top off
  first
    | walk1
    | trivial
section SC8
local macro_rules | `(tactic| walk_at "execs nil") => `(tactic| (refine wpAny_execs_nil ?_))
noncomputable def wrS (k : Int) (x : Str) : Str := if k = 0 then esc_cdata x else if k = 1 then esc_attrib x else if k = 2 then esc_html x else if k = 3 then esc_c14n x else esc_attrC14n x
theorem written_c (k : Int) (u : Tok) (x : Str) (t : Tok) (hx : x.length ≤ 8) (led : Led) : ConT w mean mg mb 256 [.int k u, .str x t] led 2 30 (fun r led' => (∃ t', r = .str (wrS k x) t') ∧ led' = led) := by
  refine' ConT.body (binds := [(Str.ofString "kind", .int k u), (Str.ofString "text", .str x t)]) ?ho ?hcd ?hbind ?hloc ?hD ?_ ?c2 ?c3 ?c4 ?c5
  ((((((case ho => k_is); (case hcd => k_is); (case hbind => exact rfl); (case hloc => exact rfl); (case hD => decide); (case c2 => exact rfl); (case c3 => exact rfl); (case c4 => exact rfl); (case c5 => decide)))); intro _ _ _ _ _ _ _ _ _ _ _ _ _ _ _ _ _))
  (repeat' (first | ((with_reducible show wpAny _ _ (call (Value.ref _) _) _ _ _); first | (((with_reducible show wpAny _ _ (call (Value.ref 70) [Value.str _ _]) _ _ _); (refine' ConT.use_tok (esc_attrC14n_c _ _ (by assumption) _) ?B ?F ?X ?N ?T ?hk ?hd ?hu ?hT ?_); (((((((case B => k_asm); (case F => k_asm); (case X => k_asm); (case N => k_asm); (case T => k_asm); (case hk => exact rfl); (case hd => omega); (case hu => omega)))); (case hT => (first | assumption | omega | ((try dsimp only); omega) | ((try dsimp only at *); omega))); (intro _ _ _ _ _ _; (try dsimp only); (try k_sweep))))))) | (((with_reducible show wpAny _ _ (call (Value.ref 63) [Value.str _ _]) _ _ _); (refine' ConT.use_tok (esc_c14n_c _ _ (by assumption) _) ?B ?F ?X ?N ?T ?hk ?hd ?hu ?hT ?_); (((((((case B => k_asm); (case F => k_asm); (case X => k_asm); (case N => k_asm); (case T => k_asm); (case hk => exact rfl); (case hd => omega); (case hu => omega)))); (case hT => (first | assumption | omega | ((try dsimp only); omega) | ((try dsimp only at *); omega))); (intro _ _ _ _ _ _; (try dsimp only); (try k_sweep))))))) | (((with_reducible show wpAny _ _ (call (Value.ref 56) [Value.str _ _]) _ _ _); (refine' ConT.use_tok (esc_html_c _ _ (by assumption) _) ?B ?F ?X ?N ?T ?hk ?hd ?hu ?hT ?_); (((((((case B => k_asm); (case F => k_asm); (case X => k_asm); (case N => k_asm); (case T => k_asm); (case hk => exact rfl); (case hd => omega); (case hu => omega)))); (case hT => (first | assumption | omega | ((try dsimp only); omega) | ((try dsimp only at *); omega))); (intro _ _ _ _ _ _; (try dsimp only); (try k_sweep))))))) | (((with_reducible show wpAny _ _ (call (Value.ref 49) [Value.str _ _]) _ _ _); (refine' ConT.use_tok (esc_attrib_c _ _ (by assumption) _) ?B ?F ?X ?N ?T ?hk ?hd ?hu ?hT ?_); (((((((case B => k_asm); (case F => k_asm); (case X => k_asm); (case N => k_asm); (case T => k_asm); (case hk => exact rfl); (case hd => omega); (case hu => omega)))); (case hT => (first | assumption | omega | ((try dsimp only); omega) | ((try dsimp only at *); omega))); (intro _ _ _ _ _ _; (try dsimp only); (try k_sweep))))))) | (((with_reducible show wpAny _ _ (call (Value.ref 42) [Value.str _ _]) _ _ _); (refine' ConT.use_tok (esc_cdata_c _ _ (by assumption) _) ?B ?F ?X ?N ?T ?hk ?hd ?hu ?hT ?_); (((((((case B => k_asm); (case F => k_asm); (case X => k_asm); (case N => k_asm); (case T => k_asm); (case hk => exact rfl); (case hd => omega); (case hu => omega)))); (case hT => (first | assumption | omega | ((try dsimp only); omega) | ((try dsimp only at *); omega))); (intro _ _ _ _ _ _; (try dsimp only); (try k_sweep)))))))) | walk1 | (dsimp only; walk1)))
  all_goals (
    ((((try dsimp only); (refine' Ends.intro ?_ ?F ?N ?_); (case F => assumption); (case N => assumption); rotate_left)))
    · exact ⟨⟨_, by simp only [wrS, *]; rfl⟩, rfl⟩
    · (first | (intro p hp; exact hp) | (intro p hp; k_ownIn)))
noncomputable def poolS : List Str := ["a", "a<", "a&", ">", "\"", "a.&", "..<", "\t\r"].map Str.ofString
theorem pool_c (led : Led) : Con w mean mg mb 270 [] led 1 30 (fun r led' => ∃ P vs, r = .ref P ∧ StrsAre vs poolS ∧ led' = (P, listOf vs.toArray 0) :: led ∧ (∀ p ∈ led, p.1 < P)) := by
  refine' Con.body (binds := []) ?ho ?hcd ?hbind ?hloc ?hD ?_ ?c2 ?c3 ?c4 ?c5
  ((((((case ho => k_is); (case hcd => k_is); (case hbind => exact rfl); (case hloc => exact rfl); (case hD => decide); (case c2 => exact rfl); (case c3 => exact rfl); (case c4 => exact rfl); (case c5 => decide)))); intro _ _ _ _ _ _ _ _ _ _ _ _ _ _ _ _))
  (repeat' (first | ((with_reducible show wpAny _ _ (call (Value.ref _) _) _ _ _); first | (((with_reducible show wpAny _ _ (call (Value.ref 70) [Value.str _ _]) _ _ _); (refine' ConT.use_tok (esc_attrC14n_c _ _ (by assumption) _) ?B ?F ?X ?N ?T ?hk ?hd ?hu ?hT ?_); (((((((case B => k_asm); (case F => k_asm); (case X => k_asm); (case N => k_asm); (case T => k_asm); (case hk => exact rfl); (case hd => omega); (case hu => omega)))); (case hT => (first | assumption | omega | ((try dsimp only); omega) | ((try dsimp only at *); omega))); (intro _ _ _ _ _ _; (try dsimp only); (try k_sweep))))))) | (((with_reducible show wpAny _ _ (call (Value.ref 63) [Value.str _ _]) _ _ _); (refine' ConT.use_tok (esc_c14n_c _ _ (by assumption) _) ?B ?F ?X ?N ?T ?hk ?hd ?hu ?hT ?_); (((((((case B => k_asm); (case F => k_asm); (case X => k_asm); (case N => k_asm); (case T => k_asm); (case hk => exact rfl); (case hd => omega); (case hu => omega)))); (case hT => (first | assumption | omega | ((try dsimp only); omega) | ((try dsimp only at *); omega))); (intro _ _ _ _ _ _; (try dsimp only); (try k_sweep))))))) | (((with_reducible show wpAny _ _ (call (Value.ref 56) [Value.str _ _]) _ _ _); (refine' ConT.use_tok (esc_html_c _ _ (by assumption) _) ?B ?F ?X ?N ?T ?hk ?hd ?hu ?hT ?_); (((((((case B => k_asm); (case F => k_asm); (case X => k_asm); (case N => k_asm); (case T => k_asm); (case hk => exact rfl); (case hd => omega); (case hu => omega)))); (case hT => (first | assumption | omega | ((try dsimp only); omega) | ((try dsimp only at *); omega))); (intro _ _ _ _ _ _; (try dsimp only); (try k_sweep))))))) | (((with_reducible show wpAny _ _ (call (Value.ref 49) [Value.str _ _]) _ _ _); (refine' ConT.use_tok (esc_attrib_c _ _ (by assumption) _) ?B ?F ?X ?N ?T ?hk ?hd ?hu ?hT ?_); (((((((case B => k_asm); (case F => k_asm); (case X => k_asm); (case N => k_asm); (case T => k_asm); (case hk => exact rfl); (case hd => omega); (case hu => omega)))); (case hT => (first | assumption | omega | ((try dsimp only); omega) | ((try dsimp only at *); omega))); (intro _ _ _ _ _ _; (try dsimp only); (try k_sweep))))))) | (((with_reducible show wpAny _ _ (call (Value.ref 42) [Value.str _ _]) _ _ _); (refine' ConT.use_tok (esc_cdata_c _ _ (by assumption) _) ?B ?F ?X ?N ?T ?hk ?hd ?hu ?hT ?_); (((((((case B => k_asm); (case F => k_asm); (case X => k_asm); (case N => k_asm); (case T => k_asm); (case hk => exact rfl); (case hd => omega); (case hu => omega)))); (case hT => (first | assumption | omega | ((try dsimp only); omega) | ((try dsimp only at *); omega))); (intro _ _ _ _ _ _; (try dsimp only); (try k_sweep)))))))) | walk1 | (dsimp only; walk1)))
  (((try dsimp only); (refine' Ends.intro ?_ ?F ?N ?S); (case F => assumption); (case N => assumption); (case S => exact fun p h => h)))
  exact ⟨_, [_, _, _, _, _, _, _, _], rfl, .cons _ _ (.cons _ _ (.cons _ _ (.cons _ _ (.cons _ _ (.cons _ _ (.cons _ _ (.cons _ _ .nil))))))), rfl, by assumption⟩
end SC8
example : True := by
  w_top off
  first
    | walk1
    | trivial
end GA
example : True := by
  w_top off
  first
    | walk1
    | trivial
section LL
local macro_rules | `(tactic| walk_at "NEWS") => `(tactic| first | assumption | (refine' news_sub ?N0 ?S0; (case N0 => assumption); (case S0 => (intro p hp; first | exact hp | k_ownIn))))
local macro_rules | `(tactic| walk_at "UPD") => `(tactic| first | exact Upd.head (by assumption) | exact Upd.tail (by first | assumption | k_ne) (Upd.head (by assumption)))
local macro_rules | `(tactic| walk_at "IN") => `(tactic| first | exact List.Mem.head _ | exact List.Mem.tail _ (List.Mem.head _) | exact List.Mem.tail _ (List.Mem.tail _ (List.Mem.head _)))
local macro_rules | `(tactic| walk_at "LT") => `(tactic| first | assumption | omega | (simp only [List.length_set] at *; omega))
local macro_rules | `(tactic| walk_at "SBT") => `(tactic| ((case N => assumption); (case m => walk_at "IN"); (case s => assumption); (case h1 => walk_at "LT"); (case hf => walk_at "LT"); (case hq => with_unfolding_all rfl); intro t9; (try dsimp only)))
local macro_rules | `(tactic| walk_at "STT") => `(tactic| ((case F => assumption); (case N => assumption); (case U => walk_at "UPD"); (case s => assumption); (case h1 => walk_at "LT"); (case hf => walk_at "LT"); intro h9 sB9 F9 N9; (try k_sweep)))
local macro_rules | `(tactic| walk_at "subscriptTail Name Name ref int") => `(tactic| (plain_pass; (refine' sub_strs ?N ?m ?s ?h0 ?h1 ?hf ?_ ?hq); (case h0 => first | assumption | omega); (walk_at "SBT")))
local macro_rules | `(tactic| walk_at "subscriptTail Name Name ref int") => `(tactic| k_dflt ((with_reducible refine' sub_strs0 ?N ?m ?s ?h1 ?hf ?_ ?hq); (walk_at "SBT")))
local macro_rules | `(tactic| walk_at "subscriptTail Name Name ref int") => `(tactic| k_dflt ((with_reducible refine' sub_strsN ?N ?m ?s ?h1 ?hf ?_ ?hq); (walk_at "SBT")))
local macro_rules | `(tactic| walk_at "subscriptTail Name Constant ref int") => `(tactic| walk_at "subscriptTail Name Name ref int")
local macro_rules | `(tactic| walk_at "setItem ref int str") => `(tactic| (plain_pass; (refine' set_strs ?F ?N ?s ?U ?h0 ?h1 ?hf ?_); (case h0 => first | assumption | omega); (walk_at "STT")))
local macro_rules | `(tactic| walk_at "setItem ref int str") => `(tactic| k_dflt ((with_reducible refine' set_strs0 ?F ?N ?s ?U ?h1 ?hf ?_); (walk_at "STT")))
local macro_rules | `(tactic| walk_at "setItem ref int str") => `(tactic| k_dflt ((with_reducible refine' set_strsN ?F ?N ?s ?U ?h1 ?hf ?_); (walk_at "STT")))
local macro_rules | `(tactic| walk_at "binaryOp RShift int int") => `(tactic| k_dflt ((with_reducible refine' shr_pos ?h0 ?_); (case h0 => omega); intro t9 k9))
local macro_rules | `(tactic| walk_at "binaryOp Add int int") => `(tactic| k_dflt ((with_reducible refine' add_oneN ?_); intro t9 k9))
local macro_rules | `(tactic| walk_at "binaryOp Mult int int") => `(tactic| k_dflt ((with_reducible refine' mul_twoN ?_); intro t9 k9))
local macro_rules | `(tactic| walk_at "truthy ref") => `(tactic| k_dflt ((refine' truthy_strs ?N ?m ?s ?hf ?_); (case N => assumption); (case m => walk_at "IN"); (case s => assumption); (case hf => walk_at "LT")))
local macro_rules | `(tactic| walk_at "call builtin:list.append") => `(tactic| k_dflt ((refine' append_strs ?F ?N ?s ?U ?hf ?_); (case F => assumption); (case N => assumption); (case U => walk_at "UPD"); (case s => assumption); (case hf => walk_at "LT"); intro h9 sB9 F9 N9; (try k_sweep)))
local macro_rules | `(tactic| walk_at "WhileStep2 brk") => `(tactic| ((with_reducible refine wstep_brk ?_); (try dsimp only)))
local macro_rules | `(tactic| walk_at "WhileStep2 ret") => `(tactic| ((with_reducible refine wstep_ret ?_); (try dsimp only)))
local macro_rules | `(tactic| walk_at "subscriptTail Name UnaryOp ref int") => `(tactic| k_dflt ((refine' sub_last ?N ?m ?s ?h1 ?hf ?_ ?hq); (walk_at "SBT")))
section LA
local macro_rules | `(tactic| walk_at "call builtin:len") => `(tactic| k_dflt ((refine' len_strs ?N ?m ?s ?hf ?_); (case N => assumption); (case m => walk_at "IN"); (case s => assumption); (case hf => walk_at "LT"); intro t9 k9))
example : True := by
  w_top off
  first
    | walk1
    | trivial
section SC3
/-- texts in order -/
noncomputable def ltS (a b : Str) : Bool := decide (a.cps.toList < b.cps.toList)
/-- _siftdown from 0, f rounds at most -/
noncomputable def sdF (nw : Str) : Nat → List Str → Nat → List Str
  | 0, xs, p => xs.set p nw
  | f + 1, xs, p => if p = 0 then xs.set p nw else if ltS nw (xs.getD ((p - 1) / 2) Str.empty) then sdF nw f (xs.set p (xs.getD ((p - 1) / 2) Str.empty)) ((p - 1) / 2) else xs.set p nw
/-- _siftdown from 0 -/
noncomputable def sd (xs : List Str) (nw : Str) (p : Nat) : List Str := sdF nw p xs p
theorem hf_le (p : Nat) : (p + 1 - 1) / 2 ≤ p := Nat.le_trans (Nat.div_le_self _ _) (Nat.le_refl _)
theorem sdF_fuel (nw : Str) (f : Nat) : ∀ (xs : List Str) (p : Nat), p ≤ f → sdF nw f xs p = sd xs nw p := by
  induction f using Nat.strongRecOn with
  | ind f ih =>
    intro xs p h
    cases f with
    | zero => cases Nat.le_zero.mp h; rfl
    | succ f =>
      cases p with
      | zero => rfl
      | succ q =>
        have h2 : q ≤ f := Nat.le_of_succ_le_succ h
        have e1 := ih f (Nat.lt_succ_self f) (xs.set (q + 1) (xs.getD ((q + 1 - 1) / 2) Str.empty)) ((q + 1 - 1) / 2) (Nat.le_trans (hf_le q) h2)
        have e2 := ih q (Nat.lt_succ_of_le h2) (xs.set (q + 1) (xs.getD ((q + 1 - 1) / 2) Str.empty)) ((q + 1 - 1) / 2) (hf_le q)
        unfold sd
        simp only [sdF, Nat.add_one_ne_zero, ite_false]
        rw [e1, e2]
theorem sd_up {xs : List Str} {nw : Str} {n : Nat} (h0 : 0 < n) (h : nw.cps.toList < (xs.getD ((n - 1) / 2) Str.empty).cps.toList) : sd xs nw n = sd (xs.set n (xs.getD ((n - 1) / 2) Str.empty)) nw ((n - 1) / 2) := by
  cases n with
  | zero => exact absurd h0 (Nat.lt_irrefl 0)
  | succ q => rw [← sdF_fuel nw q _ _ (hf_le q), sd, sdF, if_neg (Nat.add_one_ne_zero q), if_pos (show ltS _ _ = true from decide_eq_true h)]
theorem sd_stop {xs : List Str} {nw : Str} {n : Nat} (h0 : 0 < n) (h : ¬ nw.cps.toList < (xs.getD ((n - 1) / 2) Str.empty).cps.toList) : sd xs nw n = xs.set n nw := by
  cases n with
  | zero => rfl
  | succ q => rw [sd, sdF, if_neg (Nat.add_one_ne_zero q), if_neg (show ¬ ltS _ _ = true from fun e => h (of_decide_eq_true e))]
theorem sd_zero {xs : List Str} {nw : Str} {n : Nat} (h : n = 0) : sd xs nw n = xs.set n nw := by subst h; rfl
theorem sd_ind {nw : Str} {M : List Str → Nat → List Str → Prop} (c1 : ∀ xs, M xs 0 (xs.set 0 nw))
    (c2 : ∀ xs p r, 0 < p → ltS nw (xs.getD ((p - 1) / 2) Str.empty) = true → M (xs.set p (xs.getD ((p - 1) / 2) Str.empty)) ((p - 1) / 2) r → M xs p r)
    (c3 : ∀ xs p, 0 < p → ltS nw (xs.getD ((p - 1) / 2) Str.empty) = false → M xs p (xs.set p nw)) (xs : List Str) (p : Nat) : M xs p (sd xs nw p) := by
  induction p using Nat.strongRecOn generalizing xs with
  | ind p ih =>
    cases p with
    | zero => exact c1 xs
    | succ q =>
      cases h : ltS nw (xs.getD ((q + 1 - 1) / 2) Str.empty) with
      | true => rw [sd_up (Nat.zero_lt_succ q) (of_decide_eq_true h)]; exact c2 _ _ _ (Nat.zero_lt_succ q) h (ih _ (Nat.lt_succ_of_le (hf_le q)) _)
      | false => rw [sd_stop (Nat.zero_lt_succ q) (of_decide_eq_false h)]; exact c3 _ _ (Nat.zero_lt_succ q) h
inductive sdJ (res : List Str) (len : Nat) (nw : Str) (H : Addr) (k : Nat) (led : Led) (m₀ : Str → Option Value) (_ : Led) (n : Nat) (m : Str → Option Value) (led' : Led) : Prop
  | mk (t : Tok) (vs : List Value) (xs : List Str) (po pa : Option Value) (s : StrsAre vs xs) (l : xs.length = len) (lt : n < len) (e : sd xs nw n = res) (el : led' = (H, listOf vs.toArray k) :: led)
    (em : m = fun y => if y = Str.ofString "pos" then some (.int (n : Int) t) else if y = Str.ofString "parentpos" then po else if y = Str.ofString "parent" then pa else m₀ y)
theorem siftdown_c (H : Addr) (vs : List Value) (xs : List Str) (k : Nat) (p : Nat) (t u : Tok) (led : Led) (hs : StrsAre vs xs) (hp : p < xs.length) (hl : xs.length ≤ 1000000) (hne : ∀ q ∈ led, q.1 ≠ H) :
    Con w mean mg mb 242 [.ref H, .int 0 t, .int (p : Int) u] ((H, listOf vs.toArray k) :: led) 1 60 (HPost H (sd xs (xs.getD p Str.empty) p) (fun _ => .none) led) := by
  refine' Con.body (binds := [(Str.ofString "heap", .ref H), (Str.ofString "startpos", .int 0 t), (Str.ofString "pos", .int (p : Int) u)]) ?ho ?hcd ?hbind ?hloc ?hD ?_ ?c2 ?c3 ?c4 ?c5
  ((((((case ho => k_is); (case hcd => k_is); (case hbind => exact rfl); (case hloc => exact rfl); (case hD => decide); (case c2 => exact rfl); (case c3 => exact rfl); (case c4 => exact rfl); (case c5 => decide)))); intro _ _ _ _ _ _ _ _ _ _ _ _ _ _ _ _))
  (repeat' (first | walk1 | (dsimp only; walk1)))
  unfold Stop
  rename Fr _ _ _ _ => F1
  rename News _ _ _ _ => N1
  refine while_inv (sdJ (sd xs (xs.getD p Str.empty) p) xs.length (xs.getD p Str.empty) H k led) (n₀ := p) F1 N1 ?j0 ?turn
  case j0 => exact ⟨u, vs, xs, _, _, by assumption, rfl, hp, rfl, rfl, m_cov3 _ _ _ rfl rfl rfl⟩
  case turn =>
    rintro n m₁ led₁ h₁ tk₁ F2 N2 ⟨t2, vs2, xs2, po, pa, hs2, hl2, hn2, hr2, rfl, rfl⟩
    clear F1 N1
    (repeat' (first | walk1 | (dsimp only; walk1)))
    · (((try dsimp only); first | ((with_reducible refine' wstep_next ?F ?N ?_); (case F => assumption); (case N => assumption)) | ((with_reducible refine' wstep_cont ?F ?N ?_); (case F => assumption); (case N => assumption))))
      refine ⟨_, _, ⟨_, _, _, _, _, by assumption, by simpa using hl2, ?_, ?_, rfl, m_keep3 _ _ _ rfl rfl rfl (by intro y h1 h2 h3; simp [h1, h2, h3])⟩, ?_, by (first | (intro p hp; exact hp) | (intro p hp; k_ownIn))⟩
      · have := hs2.len_eq
        omega
      · rw [← hr2]; exact (sd_up (by omega) (by assumption)).symm
      · omega
    · (((try dsimp only); (refine' Ends.heap (t := 0) ?_ ?F ?N ?v); (case F => assumption); (case N => assumption); (case v => exact rfl)))
      rw [← hr2, sd_stop (by omega) (by assumption)]; assumption
    · (((try dsimp only); (refine' Ends.heap (t := 0) ?_ ?F ?N ?v); (case F => assumption); (case N => assumption); (case v => exact rfl)))
      rw [← hr2, sd_zero (by omega)]; assumption
end SC3
example : True := by
  w_top off
  first
    | walk1
    | trivial
section SC4
/-- the child to take up -/
noncomputable def suC (xs : List Str) (p : Nat) : Nat := if 2 * p + 1 + 1 < xs.length ∧ ltS (xs.getD (2 * p + 1) Str.empty) (xs.getD (2 * p + 1 + 1) Str.empty) = false then 2 * p + 1 + 1 else 2 * p + 1
theorem suC_gt {xs : List Str} {p : Nat} : p < suC xs p := by unfold suC; split <;> omega
theorem suC_lt {xs : List Str} {p : Nat} (h : 2 * p + 1 < xs.length) : suC xs p < xs.length := by
  unfold suC
  split
  · rename_i q; exact q.1
  · exact h
/-- _siftup's loop, f rounds at most -/
noncomputable def suLF : Nat → List Str → Nat → List Str × Nat
  | 0, xs, p => (xs, p)
  | f + 1, xs, p => if 2 * p + 1 < xs.length then suLF f (xs.set p (xs.getD (suC xs p) Str.empty)) (suC xs p) else (xs, p)
/-- _siftup's loop -/
noncomputable def suL (xs : List Str) (p : Nat) : List Str × Nat := suLF (xs.length - p) xs p
theorem suLF_fuel (f : Nat) : ∀ (xs : List Str) (p : Nat), xs.length - p ≤ f → suLF f xs p = suL xs p := by
  induction f using Nat.strongRecOn with
  | ind f ih =>
    intro xs p h
    unfold suL
    cases e : xs.length - p with
    | zero =>
      cases f with
      | zero => rfl
      | succ f => rw [suLF, suLF, if_neg (by omega)]
    | succ g =>
      cases f with
      | zero => omega
      | succ f =>
        rw [suLF, suLF]
        split
        · have hg := suC_gt (xs := xs) (p := p)
          have hl : (xs.set p (xs.getD (suC xs p) Str.empty)).length - suC xs p ≤ g := by rw [List.length_set]; omega
          rw [ih f (Nat.lt_succ_self f) _ _ (by omega), ih g (by omega) _ _ hl]
        · rfl
theorem suL_go {xs : List Str} {p : Nat} (h : 2 * p + 1 < xs.length) : suL xs p = suL (xs.set p (xs.getD (suC xs p) Str.empty)) (suC xs p) := by
  have hg := suC_gt (xs := xs) (p := p)
  obtain ⟨g, e⟩ : ∃ g, xs.length - p = g + 1 := ⟨xs.length - p - 1, by omega⟩
  rw [← suLF_fuel g (xs.set p (xs.getD (suC xs p) Str.empty)) (suC xs p) (by rw [List.length_set]; omega), suL, e, suLF, if_pos h]
theorem suL_end {xs : List Str} {p : Nat} (h : ¬ 2 * p + 1 < xs.length) : suL xs p = (xs, p) := by
  unfold suL
  cases xs.length - p with
  | zero => rfl
  | succ g => rw [suLF, if_neg h]
theorem suL_ind {M : List Str → Nat → List Str × Nat → Prop} (c1 : ∀ xs p r, 2 * p + 1 < xs.length → M (xs.set p (xs.getD (suC xs p) Str.empty)) (suC xs p) r → M xs p r)
    (c2 : ∀ xs p, ¬ 2 * p + 1 < xs.length → M xs p (xs, p)) (xs : List Str) (p : Nat) : M xs p (suL xs p) := by
  generalize e : xs.length - p = n
  induction n using Nat.strongRecOn generalizing xs p with
  | ind n ih =>
    by_cases h : 2 * p + 1 < xs.length
    · rw [suL_go h]
      have hg := suC_gt (xs := xs) (p := p)
      exact c1 _ _ _ h (ih _ (by rw [List.length_set]; omega) _ _ rfl)
    · rw [suL_end h]; exact c2 _ _ h
/-- _siftup from 0 -/
noncomputable def siftup (xs : List Str) : List Str := sd ((suL xs 0).1.set (suL xs 0).2 (xs.getD 0 Str.empty)) (xs.getD 0 Str.empty) (suL xs 0).2
theorem suC_l {xs : List Str} {p : Nat} (h : ¬ 2 * p + 1 + 1 < xs.length) : suC xs p = 2 * p + 1 := by unfold suC; rw [if_neg (fun q => h q.1)]
theorem suC_m {xs : List Str} {p : Nat} (h : (xs.getD (2 * p + 1) Str.empty).cps.toList < (xs.getD (2 * p + 1 + 1) Str.empty).cps.toList) : suC xs p = 2 * p + 1 := by
  unfold suC; rw [if_neg (fun q => by have := q.2; rw [ltS, decide_eq_true h] at this; cases this)]
theorem suC_r {xs : List Str} {p : Nat} (h1 : 2 * p + 1 + 1 < xs.length) (h : ¬ (xs.getD (2 * p + 1) Str.empty).cps.toList < (xs.getD (2 * p + 1 + 1) Str.empty).cps.toList) : suC xs p = 2 * p + 1 + 1 := by
  unfold suC; rw [if_pos ⟨h1, by simpa [ltS] using h⟩]
inductive suJ (res : List Str × Nat) (len : Nat) (H : Addr) (k : Nat) (led : Led) (m₀ : Str → Option Value) (_ : Led) (n : Nat) (m : Str → Option Value) (led' : Led) : Prop
  | mk (p : Nat) (t1 t2 : Tok) (vs : List Value) (xs : List Str) (ro : Option Value) (s : StrsAre vs xs) (l : xs.length = len) (lt : p < len) (en : n = len - p) (e : suL xs p = res) (el : led' = (H, listOf vs.toArray k) :: led)
    (em : m = fun y => if y = Str.ofString "pos" then some (.int (p : Int) t1) else if y = Str.ofString "childpos" then some (.int ((2 * p + 1 : Nat) : Int) t2) else if y = Str.ofString "rightpos" then ro else m₀ y)
theorem siftup_c (H : Addr) (vs : List Value) (xs : List Str) (k : Nat) (t : Tok) (led : Led) (hs : StrsAre vs xs) (hp : 0 < xs.length) (hl : xs.length ≤ 1000000) (hne : ∀ q ∈ led, q.1 ≠ H) :
    Con w mean mg mb 249 [.ref H, .int 0 t] ((H, listOf vs.toArray k) :: led) 2 70 (HPost H (siftup xs) (fun _ => .none) led) := by
  refine' Con.body (binds := [(Str.ofString "heap", .ref H), (Str.ofString "pos", .int 0 t)]) ?ho ?hcd ?hbind ?hloc ?hD ?_ ?c2 ?c3 ?c4 ?c5
  ((((((case ho => k_is); (case hcd => k_is); (case hbind => exact rfl); (case hloc => exact rfl); (case hD => decide); (case c2 => exact rfl); (case c3 => exact rfl); (case c4 => exact rfl); (case c5 => decide)))); intro _ _ _ _ _ _ _ _ _ _ _ _ _ _ _ _))
  (repeat' (first | ((with_reducible show wpAny _ _ (call (Value.ref _) _) _ _ _); first | (((with_reducible show wpAny _ _ (call (Value.ref 242) [Value.ref _, Value.int 0 _, Value.int _ _]) _ _ _); (refine' Con.use_heap (siftdown_c _ _ _ _ _ _ _ _ ?s ?p9 ?l ?n) ?B ?F ?X ?N ?T ?hk ?hd ?hu ?_); (case B => k_asm); (case F => k_asm); (case X => k_asm); (case N => assumption); (case T => k_asm); (case hk => exact rfl); (case hd => omega); (case hu => omega); (case s => assumption); (case p9 => walk_at "LT"); (case l => walk_at "LT"); (case n => assumption); intro _ _ _ _ _ _ _ _; (try dsimp only); (try k_sweep)))) | walk1 | (dsimp only; walk1)))
  unfold Stop
  rename Fr _ _ _ _ => F1
  rename News _ _ _ _ => N1
  refine while_inv (suJ (suL xs 0) xs.length H k led) (n₀ := xs.length) F1 N1 ?j0 ?turn
  case j0 => exact ⟨0, _, _, vs, xs, _, by assumption, rfl, hp, rfl, rfl, rfl, m_cov3 _ _ _ rfl rfl rfl⟩
  case turn =>
    rintro n m₁ led₁ h₁ tk₁ F2 N2 ⟨p, t1, t2, vs2, xs2, ro, hs2, hl2, hp2, hn2, hr2, rfl, rfl⟩
    clear F1 N1
    (repeat' (first | ((with_reducible show wpAny _ _ (call (Value.ref _) _) _ _ _); first | (((with_reducible show wpAny _ _ (call (Value.ref 242) [Value.ref _, Value.int 0 _, Value.int _ _]) _ _ _); (refine' Con.use_heap (siftdown_c _ _ _ _ _ _ _ _ ?s ?p9 ?l ?n) ?B ?F ?X ?N ?T ?hk ?hd ?hu ?_); (case B => k_asm); (case F => k_asm); (case X => k_asm); (case N => assumption); (case T => k_asm); (case hk => exact rfl); (case hd => omega); (case hu => omega); (case s => assumption); (case p9 => walk_at "LT"); (case l => walk_at "LT"); (case n => assumption); intro _ _ _ _ _ _ _ _; (try dsimp only); (try k_sweep)))) | walk1 | (dsimp only; walk1)))
    · (((try dsimp only); first | ((with_reducible refine' wstep_next ?F ?N ?_); (case F => assumption); (case N => assumption)) | ((with_reducible refine' wstep_cont ?F ?N ?_); (case F => assumption); (case N => assumption))))
      refine ⟨_, _, ⟨2 * p + 1, _, _, _, _, _, by assumption, by simpa using hl2, by omega, rfl, ?_, rfl, m_keep3 _ _ _ rfl rfl rfl (by intro y h1 h2 h3; simp [h1, h2, h3])⟩, by omega, by (first | (intro p hp; exact hp) | (intro p hp; k_ownIn))⟩
      rw [← hr2, suL_go (xs := xs2) (p := p) (by omega), suC_m (by assumption)]
    · (((try dsimp only); first | ((with_reducible refine' wstep_next ?F ?N ?_); (case F => assumption); (case N => assumption)) | ((with_reducible refine' wstep_cont ?F ?N ?_); (case F => assumption); (case N => assumption))))
      refine ⟨_, _, ⟨2 * p + 1 + 1, _, _, _, _, _, by assumption, by simpa using hl2, by omega, rfl, ?_, rfl, m_keep3 _ _ _ rfl rfl rfl (by intro y h1 h2 h3; simp [h1, h2, h3])⟩, by omega, by (first | (intro p hp; exact hp) | (intro p hp; k_ownIn))⟩
      rw [← hr2, suL_go (xs := xs2) (p := p) (by omega), suC_r (by omega) (by assumption)]
    · (((try dsimp only); first | ((with_reducible refine' wstep_next ?F ?N ?_); (case F => assumption); (case N => assumption)) | ((with_reducible refine' wstep_cont ?F ?N ?_); (case F => assumption); (case N => assumption))))
      refine ⟨_, _, ⟨2 * p + 1, _, _, _, _, _, by assumption, by simpa using hl2, by omega, rfl, ?_, rfl, m_keep3 _ _ _ rfl rfl rfl (by intro y h1 h2 h3; simp [h1, h2, h3])⟩, by omega, by (first | (intro p hp; exact hp) | (intro p hp; k_ownIn))⟩
      rw [← hr2, suL_go (xs := xs2) (p := p) (by omega), suC_l (by omega)]
    · (((try dsimp only); (refine' Ends.heap (t := 0) ?_ ?F ?N ?v); (case F => assumption); (case N => assumption); (case v => exact rfl)))
      rename StrsAre _ (sd _ _ _) => key
      have e : suL xs 0 = (xs2, p) := by rw [← hr2, suL_end (by omega)]
      have e2 : (xs2.set p (xs.getD 0 Str.empty)).getD p Str.empty = xs.getD 0 Str.empty := by
        rw [List.getD_eq_getElem?_getD, List.getElem?_set_self (by omega)]; rfl
      rw [e2] at key
      unfold siftup
      rw [e]
      exact key
end SC4
example : True := by
  w_top off
  first
    | walk1
    | trivial
section SC5
local macro_rules | `(tactic| walk_at "binaryOp Sub int int") => `(tactic| ((with_reducible refine' sub_oneN ?h0 ?_); (case h0 => (simp only [List.length_append, List.length_cons, List.length_nil]; omega)); intro t9 k9))
local macro_rules | `(tactic| walk_at "LT") => `(tactic| first | assumption | omega | (simp only [List.length_set, List.length_append, List.length_cons, List.length_nil] at *; omega))
theorem heappush_c (H : Addr) (vs : List Value) (xs : List Str) (k : Nat) (y : Str) (t : Tok) (led : Led) (hs : StrsAre vs xs) (hl : xs.length ≤ 900000) (hne : ∀ q ∈ led, q.1 ≠ H) :
    Con w mean mg mb 207 [.ref H, .str y t] ((H, listOf vs.toArray k) :: led) 3 80 (HPost H (sd (xs ++ [y]) y xs.length) (fun _ => .none) led) := by
  refine' Con.body (binds := [(Str.ofString "heap", .ref H), (Str.ofString "item", .str y t)]) ?ho ?hcd ?hbind ?hloc ?hD ?_ ?c2 ?c3 ?c4 ?c5
  ((((((case ho => k_is); (case hcd => k_is); (case hbind => exact rfl); (case hloc => exact rfl); (case hD => decide); (case c2 => exact rfl); (case c3 => exact rfl); (case c4 => exact rfl); (case c5 => decide)))); intro _ _ _ _ _ _ _ _ _ _ _ _ _ _ _ _))
  (repeat' (first | ((with_reducible show wpAny _ _ (call (Value.ref _) _) _ _ _); first | (((with_reducible show wpAny _ _ (call (Value.ref 249) [Value.ref _, Value.int 0 _]) _ _ _); (refine' Con.use_heap (siftup_c _ _ _ _ _ _ ?s ?p9 ?l ?n) ?B ?F ?X ?N ?T ?hk ?hd ?hu ?_); (case B => k_asm); (case F => k_asm); (case X => k_asm); (case N => walk_at "NEWS"); (case T => k_asm); (case hk => exact rfl); (case hd => omega); (case hu => omega); (case s => assumption); (case p9 => walk_at "LT"); (case l => walk_at "LT"); (case n => assumption); intro _ _ _ _ _ _ _ _; (try dsimp only); (try k_sweep))) | (((with_reducible show wpAny _ _ (call (Value.ref 242) [Value.ref _, Value.int 0 _, Value.int _ _]) _ _ _); (refine' Con.use_heap (siftdown_c _ _ _ _ _ _ _ _ ?s ?p9 ?l ?n) ?B ?F ?X ?N ?T ?hk ?hd ?hu ?_); (case B => k_asm); (case F => k_asm); (case X => k_asm); (case N => walk_at "NEWS"); (case T => k_asm); (case hk => exact rfl); (case hd => omega); (case hu => omega); (case s => assumption); (case p9 => walk_at "LT"); (case l => walk_at "LT"); (case n => assumption); intro _ _ _ _ _ _ _ _; (try dsimp only); (try k_sweep)))) | walk1 | (dsimp only; walk1)))
  (((try dsimp only); (refine' Ends.heap (t := 0) ?_ ?F ?N ?v); (case F => assumption); (case N => assumption); (case v => exact rfl)))
  rename StrsAre _ (sd _ _ _) => key
  simpa using key
theorem heapreplace_c (H : Addr) (vs : List Value) (xs : List Str) (k : Nat) (y : Str) (t : Tok) (led : Led) (hs : StrsAre vs xs) (h0 : 0 < xs.length) (hl : xs.length ≤ 900000) (hne : ∀ q ∈ led, q.1 ≠ H) :
    Con w mean mg mb 221 [.ref H, .str y t] ((H, listOf vs.toArray k) :: led) 3 80 (HPost H (siftup (xs.set 0 y)) (fun t => .str (xs.getD 0 Str.empty) t) led) := by
  refine' Con.body (binds := [(Str.ofString "heap", .ref H), (Str.ofString "item", .str y t)]) ?ho ?hcd ?hbind ?hloc ?hD ?_ ?c2 ?c3 ?c4 ?c5
  ((((((case ho => k_is); (case hcd => k_is); (case hbind => exact rfl); (case hloc => exact rfl); (case hD => decide); (case c2 => exact rfl); (case c3 => exact rfl); (case c4 => exact rfl); (case c5 => decide)))); intro _ _ _ _ _ _ _ _ _ _ _ _ _ _ _ _))
  (repeat' (first | ((with_reducible show wpAny _ _ (call (Value.ref _) _) _ _ _); first | (((with_reducible show wpAny _ _ (call (Value.ref 249) [Value.ref _, Value.int 0 _]) _ _ _); (refine' Con.use_heap (siftup_c _ _ _ _ _ _ ?s ?p9 ?l ?n) ?B ?F ?X ?N ?T ?hk ?hd ?hu ?_); (case B => k_asm); (case F => k_asm); (case X => k_asm); (case N => walk_at "NEWS"); (case T => k_asm); (case hk => exact rfl); (case hd => omega); (case hu => omega); (case s => assumption); (case p9 => walk_at "LT"); (case l => walk_at "LT"); (case n => assumption); intro _ _ _ _ _ _ _ _; (try dsimp only); (try k_sweep))) | (((with_reducible show wpAny _ _ (call (Value.ref 242) [Value.ref _, Value.int 0 _, Value.int _ _]) _ _ _); (refine' Con.use_heap (siftdown_c _ _ _ _ _ _ _ _ ?s ?p9 ?l ?n) ?B ?F ?X ?N ?T ?hk ?hd ?hu ?_); (case B => k_asm); (case F => k_asm); (case X => k_asm); (case N => walk_at "NEWS"); (case T => k_asm); (case hk => exact rfl); (case hd => omega); (case hu => omega); (case s => assumption); (case p9 => walk_at "LT"); (case l => walk_at "LT"); (case n => assumption); intro _ _ _ _ _ _ _ _; (try dsimp only); (try k_sweep)))) | walk1 | (dsimp only; walk1)))
  (((try dsimp only); (refine' Ends.heap ?_ ?F ?N ?v); (case F => assumption); (case N => assumption); (case v => exact rfl)))
  assumption
theorem heappop_c (H : Addr) (vs : List Value) (ys : List Str) (z : Str) (k : Nat) (led : Led) (hs : StrsAre vs (ys ++ [z])) (hl : ys.length ≤ 900000) (hne : ∀ q ∈ led, q.1 ≠ H) :
    Con w mean mg mb 214 [.ref H] ((H, listOf vs.toArray k) :: led) 3 80 (HPost H (if 0 < ys.length then siftup (ys.set 0 z) else ys) (fun t => .str (if 0 < ys.length then ys.getD 0 Str.empty else z) t) led) := by
  refine' Con.body (binds := [(Str.ofString "heap", .ref H)]) ?ho ?hcd ?hbind ?hloc ?hD ?_ ?c2 ?c3 ?c4 ?c5
  ((((((case ho => k_is); (case hcd => k_is); (case hbind => exact rfl); (case hloc => exact rfl); (case hD => decide); (case c2 => exact rfl); (case c3 => exact rfl); (case c4 => exact rfl); (case c5 => decide)))); intro _ _ _ _ _ _ _ _ _ _ _ _ _ _ _ _))
  (repeat' (first | ((with_reducible show wpAny _ _ (call (Value.ref _) _) _ _ _); first | (((with_reducible show wpAny _ _ (call (Value.ref 249) [Value.ref _, Value.int 0 _]) _ _ _); (refine' Con.use_heap (siftup_c _ _ _ _ _ _ ?s ?p9 ?l ?n) ?B ?F ?X ?N ?T ?hk ?hd ?hu ?_); (case B => k_asm); (case F => k_asm); (case X => k_asm); (case N => walk_at "NEWS"); (case T => k_asm); (case hk => exact rfl); (case hd => omega); (case hu => omega); (case s => assumption); (case p9 => walk_at "LT"); (case l => walk_at "LT"); (case n => assumption); intro _ _ _ _ _ _ _ _; (try dsimp only); (try k_sweep))) | (((with_reducible show wpAny _ _ (call (Value.ref 242) [Value.ref _, Value.int 0 _, Value.int _ _]) _ _ _); (refine' Con.use_heap (siftdown_c _ _ _ _ _ _ _ _ ?s ?p9 ?l ?n) ?B ?F ?X ?N ?T ?hk ?hd ?hu ?_); (case B => k_asm); (case F => k_asm); (case X => k_asm); (case N => walk_at "NEWS"); (case T => k_asm); (case hk => exact rfl); (case hd => omega); (case hu => omega); (case s => assumption); (case p9 => walk_at "LT"); (case l => walk_at "LT"); (case n => assumption); intro _ _ _ _ _ _ _ _; (try dsimp only); (try k_sweep)))) | walk1 | (dsimp only; walk1)))
  refine' pop_strs ?F ?N ?s ?hf ?U
  (case F => assumption)
  (case N => assumption)
  (case s => assumption)
  (case hf => walk_at "LT")
  (case U =>
    intro us9
    refine' ⟨_, ?u, ?_⟩
    (case u => walk_at "UPD")
    intro h9 tz9 su9 F9 N9
    (repeat' (first | ((with_reducible show wpAny _ _ (call (Value.ref _) _) _ _ _); first | (((with_reducible show wpAny _ _ (call (Value.ref 249) [Value.ref _, Value.int 0 _]) _ _ _); (refine' Con.use_heap (siftup_c _ _ _ _ _ _ ?s ?p9 ?l ?n) ?B ?F ?X ?N ?T ?hk ?hd ?hu ?_); (case B => k_asm); (case F => k_asm); (case X => k_asm); (case N => walk_at "NEWS"); (case T => k_asm); (case hk => exact rfl); (case hd => omega); (case hu => omega); (case s => assumption); (case p9 => walk_at "LT"); (case l => walk_at "LT"); (case n => assumption); intro _ _ _ _ _ _ _ _; (try dsimp only); (try k_sweep))) | (((with_reducible show wpAny _ _ (call (Value.ref 242) [Value.ref _, Value.int 0 _, Value.int _ _]) _ _ _); (refine' Con.use_heap (siftdown_c _ _ _ _ _ _ _ _ ?s ?p9 ?l ?n) ?B ?F ?X ?N ?T ?hk ?hd ?hu ?_); (case B => k_asm); (case F => k_asm); (case X => k_asm); (case N => walk_at "NEWS"); (case T => k_asm); (case hk => exact rfl); (case hd => omega); (case hu => omega); (case s => assumption); (case p9 => walk_at "LT"); (case l => walk_at "LT"); (case n => assumption); intro _ _ _ _ _ _ _ _; (try dsimp only); (try k_sweep)))) | walk1 | (dsimp only; walk1)))
    · have h0 : 0 < ys.length := by assumption
      simp only [h0, if_true]
      (((try dsimp only); (refine' Ends.heap ?_ ?F ?N ?v); (case F => assumption); (case N => assumption); (case v => exact rfl)))
      assumption
    · have h0 : ¬ 0 < ys.length := by assumption
      simp only [h0, if_false]
      (((try dsimp only); (refine' Ends.heap ?_ ?F ?N ?v); (case F => assumption); (case N => assumption); (case v => exact rfl)))
      assumption)
theorem heappushpop_c (H : Addr) (vs : List Value) (xs : List Str) (k : Nat) (y : Str) (t : Tok) (led : Led) (hs : StrsAre vs xs) (hl : xs.length ≤ 900000) (hne : ∀ q ∈ led, q.1 ≠ H) :
    Con w mean mg mb 228 [.ref H, .str y t] ((H, listOf vs.toArray k) :: led) 3 80 (HPost H (if 0 < xs.length ∧ ltS (xs.getD 0 Str.empty) y = true then siftup (xs.set 0 y) else xs) (fun t => .str (if 0 < xs.length ∧ ltS (xs.getD 0 Str.empty) y = true then xs.getD 0 Str.empty else y) t) led) := by
  refine' Con.body (binds := [(Str.ofString "heap", .ref H), (Str.ofString "item", .str y t)]) ?ho ?hcd ?hbind ?hloc ?hD ?_ ?c2 ?c3 ?c4 ?c5
  ((((((case ho => k_is); (case hcd => k_is); (case hbind => exact rfl); (case hloc => exact rfl); (case hD => decide); (case c2 => exact rfl); (case c3 => exact rfl); (case c4 => exact rfl); (case c5 => decide)))); intro _ _ _ _ _ _ _ _ _ _ _ _ _ _ _ _))
  (repeat' (first | ((with_reducible show wpAny _ _ (call (Value.ref _) _) _ _ _); first | (((with_reducible show wpAny _ _ (call (Value.ref 249) [Value.ref _, Value.int 0 _]) _ _ _); (refine' Con.use_heap (siftup_c _ _ _ _ _ _ ?s ?p9 ?l ?n) ?B ?F ?X ?N ?T ?hk ?hd ?hu ?_); (case B => k_asm); (case F => k_asm); (case X => k_asm); (case N => walk_at "NEWS"); (case T => k_asm); (case hk => exact rfl); (case hd => omega); (case hu => omega); (case s => assumption); (case p9 => walk_at "LT"); (case l => walk_at "LT"); (case n => assumption); intro _ _ _ _ _ _ _ _; (try dsimp only); (try k_sweep))) | (((with_reducible show wpAny _ _ (call (Value.ref 242) [Value.ref _, Value.int 0 _, Value.int _ _]) _ _ _); (refine' Con.use_heap (siftdown_c _ _ _ _ _ _ _ _ ?s ?p9 ?l ?n) ?B ?F ?X ?N ?T ?hk ?hd ?hu ?_); (case B => k_asm); (case F => k_asm); (case X => k_asm); (case N => walk_at "NEWS"); (case T => k_asm); (case hk => exact rfl); (case hd => omega); (case hu => omega); (case s => assumption); (case p9 => walk_at "LT"); (case l => walk_at "LT"); (case n => assumption); intro _ _ _ _ _ _ _ _; (try dsimp only); (try k_sweep)))) | walk1 | (dsimp only; walk1)))
  · have h0 : 0 < xs.length := by assumption
    have h1 : ltS (xs.getD 0 Str.empty) y = true := by unfold ltS; exact decide_eq_true (by assumption)
    simp only [h0, h1, and_self, if_true]
    (((try dsimp only); (refine' Ends.heap ?_ ?F ?N ?v); (case F => assumption); (case N => assumption); (case v => exact rfl)))
    assumption
  · have h1 : ltS (xs.getD 0 Str.empty) y = false := by unfold ltS; exact decide_eq_false (by assumption)
    simp only [h1, Bool.false_eq_true, and_false, if_false]
    (((try dsimp only); (refine' Ends.heap ?_ ?F ?N ?v); (case F => assumption); (case N => assumption); (case v => exact rfl)))
    assumption
  · have h0 : ¬ 0 < xs.length := by assumption
    simp only [h0, false_and, if_false]
    (((try dsimp only); (refine' Ends.heap ?_ ?F ?N ?v); (case F => assumption); (case N => assumption); (case v => exact rfl)))
    assumption
end SC5
example : True := by
  w_top off
  first
    | walk1
    | trivial
end LA
example : True := by
  w_top off
  first
    | walk1
    | trivial
section SC6
theorem fdiv22 : Int.fdiv 2 2 = 1 := rfl
local macro_rules | `(tactic| walk_at "call type:reversed") => `(tactic| ((refine' reversed_one ?r ?b ?F ?N ?_); (case r => assumption); (case b => decide); (case F => assumption); (case N => assumption); intro I9 h9 hit9 hI9 hLI9 hn9 F9 N9; (try dsimp only)))
theorem heapify_c (H : Addr) (x y : Str) (tx ty : Tok) (k : Nat) (led : Led) (hne : ∀ q ∈ led, q.1 ≠ H) :
    Con w mean mg mb 235 [.ref H] ((H, listOf [Value.str x tx, .str y ty].toArray k) :: led) 3 80 (HPost H (siftup [x, y]) (fun _ => .none) led) := by
  refine' Con.body (binds := [(Str.ofString "x", .ref H)]) ?ho ?hcd ?hbind ?hloc ?hD ?_ ?c2 ?c3 ?c4 ?c5
  ((((((case ho => k_is); (case hcd => k_is); (case hbind => exact rfl); (case hloc => exact rfl); (case hD => decide); (case c2 => exact rfl); (case c3 => exact rfl); (case c4 => exact rfl); (case c5 => decide)))); intro _ _ _ _ _ _ _ _ _ _ _ _ _ _ _ _))
  have hS9 : StrsAre [Value.str x tx, .str y ty] [x, y] := .cons _ _ (.cons _ _ .nil)
  have hL9 : [x, y].length = 2 := rfl
  (repeat' (first | rw [fdiv22] | walk1 | (dsimp only; walk1)))
  try unfold Stop
  refine' for_one ?hit ?hI0 ?hLI ?hn rfl ?F ?N ?turn
  case hit => assumption
  case hI0 => assumption
  case hLI => assumption
  case F => assumption
  case N => assumption
  case hn => assumption
  case turn =>
    intro t h tk o hn9 F9 N9
    have hHI : H < _ := hn9 _ (List.mem_cons_self ..)
    (repeat' (first | ((with_reducible show wpAny _ _ (call (Value.ref _) _) _ _ _); first | (((with_reducible show wpAny _ _ (call (Value.ref 249) [Value.ref _, Value.int 0 _]) _ _ _); (refine' Con.use_heap (siftup_c _ _ _ _ _ _ ?s ?p9 ?l ?n) ?B ?F ?X ?N ?T ?hk ?hd ?hu ?_); (case B => k_asm); (case F => k_asm); (case X => k_asm); (case N => exact news_swap (by assumption)); (case T => k_asm); (case hk => exact rfl); (case hd => omega); (case hu => omega); (case s => assumption); (case p9 => walk_at "LT"); (case l => walk_at "LT"); (case n => exact List.forall_mem_cons.mpr ⟨Nat.ne_of_gt (by assumption), by assumption⟩); intro _ _ _ _ _ _ _ _; (try dsimp only); (try k_sweep)))) | walk1 | (dsimp only; walk1)))
    (((try dsimp only); first | (refine' TurnEnd.intro ?_ ?F ?N ?_ ?_; (case F => assumption); (case N => assumption); rotate_left) | (refine' TurnEnd.introC ?_ ?F ?N ?_ ?_; (case F => assumption); (case N => assumption); rotate_left)))
    · intro h5 tk5 F5 N5
      try unfold OneJ
      (repeat' (first | ((with_reducible show wpAny _ _ (call (Value.ref _) _) _ _ _); first | (((with_reducible show wpAny _ _ (call (Value.ref 249) [Value.ref _, Value.int 0 _]) _ _ _); (refine' Con.use_heap (siftup_c _ _ _ _ _ _ ?s ?p9 ?l ?n) ?B ?F ?X ?N ?T ?hk ?hd ?hu ?_); (case B => k_asm); (case F => k_asm); (case X => k_asm); (case N => exact news_swap (by assumption)); (case T => k_asm); (case hk => exact rfl); (case hd => omega); (case hu => omega); (case s => assumption); (case p9 => walk_at "LT"); (case l => walk_at "LT"); (case n => exact List.forall_mem_cons.mpr ⟨Nat.ne_of_gt (by assumption), by assumption⟩); intro _ _ _ _ _ _ _ _; (try dsimp only); (try k_sweep)))) | walk1 | (dsimp only; walk1)))
      (((try dsimp only); (refine' Ends.heap (t := 0) ?_ ?F ?N ?v); (case F => assumption); (case N => assumption); (case v => exact rfl)))
      assumption
    · intro p hp
      rcases List.mem_cons.mp hp with rfl | hp
      · exact .tail _ (.head _)
      · rcases List.mem_cons.mp hp with rfl | hp
        · exact .head _
        · exact .tail _ (.tail _ hp)
    · intro p hp
      rcases List.mem_cons.mp hp with rfl | hp
      · exact Nat.ne_of_lt hHI
      · exact Nat.ne_of_lt (hn9 _ (List.mem_cons_of_mem _ hp))
end SC6
example : True := by
  w_top off
  first
    | walk1
    | trivial
section LB
local macro_rules | `(tactic| walk_at "call builtin:len") => `(tactic| k_dflt ((refine' len_strs ?N ?m ?s ?hf ?_); (case N => assumption); (case m => walk_at "IN"); (case s => assumption); (case hf => walk_at "LT"); intro t9 k9))
example : True := by
  w_top off
  first
    | walk1
    | trivial
section SC10
noncomputable def ncStep (acc : List Str) (c : Str) : List Str := if c.length = 0 ∨ c = Str.ofString "." then acc else if c = Str.ofString ".." then acc.dropLast else acc ++ [c]
noncomputable def ncs (cs : List Str) : List Str := cs.foldl ncStep []
theorem ncs_take {cs : List Str} {i : Nat} {c : Str} (e : cs[i]? = some c) : ncs (cs.take (i + 1)) = ncStep (ncs (cs.take i)) c := by
  simp [ncs, List.take_add_one, e]
theorem ncs_free : ∀ (cs acc : List Str), (∀ c ∈ acc, c ≠ Str.ofString "..") → ∀ c ∈ cs.foldl ncStep acc, c ≠ Str.ofString ".."
  | [], _, h => h
  | d :: r, acc, h => ncs_free r (ncStep acc d) (by
      intro c hc
      unfold ncStep at hc
      split at hc
      · exact h c hc
      · split at hc
        · exact h c (List.dropLast_subset _ hc)
        · rcases List.mem_append.mp hc with hc | hc
          · exact h c hc
          · rw [List.mem_singleton.mp hc]; assumption)
theorem ncs_len : ∀ (cs acc : List Str), (cs.foldl ncStep acc).length ≤ acc.length + cs.length
  | [], _ => Nat.le_refl _
  | d :: r, acc => by
      have h1 := ncs_len r (ncStep acc d)
      have h2 : (ncStep acc d).length ≤ acc.length + 1 := by
        unfold ncStep
        split
        · omega
        · split
          · simp; omega
          · simp
      simp only [List.foldl_cons, List.length_cons]
      omega
theorem ncs_sub : ∀ (cs acc : List Str), ∀ c ∈ cs.foldl ncStep acc, c ∈ acc ∨ c ∈ cs
  | [], _, c, h => .inl h
  | d :: r, acc, c, h => by
      rcases ncs_sub r (ncStep acc d) c h with h1 | h1
      · unfold ncStep at h1
        split at h1
        · exact .inl h1
        · split at h1
          · exact .inl (List.dropLast_subset _ h1)
          · rcases List.mem_append.mp h1 with h1 | h1
            · exact .inl h1
            · exact .inr (by rw [List.mem_singleton.mp h1]; exact .head _)
      · exact .inr (.tail _ h1)
theorem join_long (c : Nat) : ∀ ps : List Str, ps.length ≤ (Str.join ⟨#[c]⟩ ps).length + 1 ∧ ((ps.map (·.length)).sum ≤ (Str.join ⟨#[c]⟩ ps).length) := by
  intro ps
  have e : ∀ y : Str, y.length = y.cps.toList.length := fun y => by simp [Str.length]
  rw [e, join_cps]
  cases ps with
  | nil => simp
  | cons p r =>
    have h1 : r.length + (r.map (·.length)).sum = (r.flatMap fun q => (⟨#[c]⟩ : Str).cps.toList ++ q.cps.toList).length := by
      induction r with
      | nil => rfl
      | cons q r ih => simp only [List.length_cons, List.map_cons, List.sum_cons, List.flatMap_cons, List.length_append, ← ih, ← e]; simp; omega
    have h2 := e p
    simp only [List.length_cons, List.map_cons, List.sum_cons, List.length_append, ← h1, ← e]
    omega
inductive npJ (nc : Addr) (rest : Led) (cs : List Str) (m₀ : Str → Option Value) (_ : Led) (_ : Addr) (i : Nat) (m : Str → Option Value) (led' : Led) : Prop
  | mk (vs' : List Value) (k' : Nat) (co : Option Value) (s : StrsAre vs' (ncs (cs.take i))) (el : led' = (nc, listOf vs'.toArray k') :: rest) (em : m = fun y => if y = Str.ofString "comp" then co else m₀ y)
local macro_rules | `(tactic| walk_at "binaryOp Add str str") => `(tactic| k_dflt ((refine' SB.add ?_ ?sz); (case sz => (have hc9 := sizeLine_eq; omega)); intro t9 k9))
local macro_rules | `(tactic| walk_at "call builtin:str.join") => `(tactic| k_dflt ((refine' join_strs ?N ?m ?s ?B ?x ?ok ?_); (case N => assumption); (case m => walk_at "IN"); (case s => assumption); (case B => assumption); (case x => decide +kernel); (case ok => omega); intro t9 k9))
theorem normpath_c (x : Str) (t : Tok) (hx : x.length ≤ 1000) (hx0 : 0 < x.length) (h1 : (Txt.slice x none (some 1) != Str.ofString "/") = false) (h2 : (Txt.slice x (some 1) (some 2) != Str.ofString "/") = true) (led : Led) :
    Con w mean mg mb 195 [.str x t] led 3 80 (fun r led' => (∃ t', r = .str (Str.ofString "/" ++ Str.join (Str.ofString "/") (ncs (Txt.split (Txt.slice x (some 1) none) (Str.ofString "/")))) t') ∧ led' = led) := by
  refine Con.gen fun P9 imp9 => ?_
  refine' Con.body (binds := [(Str.ofString "path", .str x t)]) ?ho ?hcd ?hbind ?hloc ?hD ?_ ?c2 ?c3 ?c4 ?c5
  ((((((case ho => k_is); (case hcd => k_is); (case hbind => exact rfl); (case hloc => exact rfl); (case hD => decide); (case c2 => exact rfl); (case c3 => exact rfl); (case c4 => exact rfl); (case c5 => decide)))); intro _ _ _ _ _ _ _ _ _ _ _ _ _ _ _ _))
  (repeat' (first | ((with_reducible show wpAny _ _ (call (Value.ref _) _) _ _ _); first | (((with_reducible show wpAny _ _ (call (Value.ref 188) [Value.str _ _]) _ _ _); (refine' Con.use_splitroot (splitroot_c _ _ ?x0 ?x1 ?x2 _) ?B ?F ?X ?N ?T ?hk ?hd ?hu ?_); (case x0 => assumption); (case x1 => assumption); (case x2 => assumption); ((((case B => k_asm); (case F => k_asm); (case X => k_asm); (case N => k_asm); (case T => k_asm); (case hk => exact rfl); (case hd => omega); (case hu => omega)))); intro _ _ _ _ _ _ _ _ _; (try dsimp only); (try k_sweep))) | (((with_reducible show wpAny _ _ (call (Value.ref 143) [Value.str _ _]) _ _ _); (refine' Con.use_val (fspath_c _ _ _) ?B ?F ?X ?N ?T ?hk ?hd ?hu ?_); ((((case B => k_asm); (case F => k_asm); (case X => k_asm); (case N => k_asm); (case T => k_asm); (case hk => exact rfl); (case hd => omega); (case hu => omega)))); intro _ _ _ _; (try dsimp only); (try k_sweep)))) | walk1 | (dsimp only; walk1)))
  · rename_i hh tk0 l0 h3 k0 hsplit hstrs hlens hisl h2' nc h1' l1 hA F9 N9
    try unfold Stop
    generalize strValues l0 = vs at *
    generalize List.map (fun x => x.fst) l0 = cs at *
    have hyl : (Txt.slice x (some 1) none).length ≤ 1000 := Nat.le_trans (PyProof.Txt.length_slice_le _ _ _) hx
    have hcn : cs.length ≤ 1001 := by
      have q1 := StrLaws.join_split (Txt.slice x (some 1) none) (Str.ofString "/")
      have q2 := (join_long 47 cs).1
      rw [← hsplit, show Str.ofString "/" = (⟨#[47]⟩ : Str) from by decide +kernel] at q1
      rw [q1] at q2
      omega
    have hne : ∀ p ∈ (hh.objs.size, listOf vs.toArray 0) :: led, p.1 ≠ nc := List.forall_mem_cons.mpr ⟨Nat.ne_of_lt l1.1, fun p hp => Nat.ne_of_lt (ktn_ltOf l1.2.2 p hp)⟩
    have N10 := news_sub (l' := (nc, listOf ([] : List Value).toArray 0) :: (hh.objs.size, listOf vs.toArray 0) :: led) N9 (by
      intro p hp
      rcases List.mem_cons.mp hp with rfl | hp
      · exact .head _
      · rcases List.mem_cons.mp hp with rfl | hp
        · exact .tail _ (.head _)
        · exact .tail _ (.tail _ (.tail _ hp)))
    refine for_list (npJ nc ((hh.objs.size, listOf vs.toArray 0) :: led) cs) rfl F9 N10 (List.Mem.tail _ (List.Mem.head _)) ?j0 ?jk ?turn ?done
    case j0 => intro I _; exact ⟨[], 0, _, .nil, rfl, m_cov1 _ rfl⟩
    case jk => rintro I i m' led' ⟨vs', k', co, _, rfl, _⟩; exact List.Mem.tail _ (List.Mem.head _)
    case turn =>
      rintro I i v m₁ led' h tk o hv ⟨vs', k', co, hs', rfl, rfl⟩ hneI F2 N2
      (revert F2; apply hide1 v; intro P9 b9); obtain ⟨c, tc, hc, rfl⟩ := strsAre_get hstrs hv; refine b9 _ ?_; clear b9 P9; intro F2
      clear N9 N10 F9
      have hcl : c.length ≤ 1000 := Nat.le_trans (hlens c (List.mem_of_getElem? hc)) hyl
      have hnl : (ncs (cs.take i)).length ≤ 1001 := by
        have q1 := ncs_len (cs.take i) []
        have q2 : (cs.take i).length ≤ cs.length := by rw [List.length_take]; omega
        simp only [List.length_nil] at q1
        show (List.foldl ncStep [] (cs.take i)).length ≤ _
        omega
      have hnf : ∀ c ∈ ncs (cs.take i), c ≠ Str.ofString ".." := ncs_free (cs.take i) [] (fun _ h => nomatch h)
      have hI : I ≠ nc := fun e => hneI _ (List.mem_cons_self ..) e.symm
      (repeat' (first | ((with_reducible show wpAny _ _ (call (Value.ref _) _) _ _ _); first | (((with_reducible show wpAny _ _ (call (Value.ref 188) [Value.str _ _]) _ _ _); (refine' Con.use_splitroot (splitroot_c _ _ ?x0 ?x1 ?x2 _) ?B ?F ?X ?N ?T ?hk ?hd ?hu ?_); (case x0 => assumption); (case x1 => assumption); (case x2 => assumption); ((((case B => k_asm); (case F => k_asm); (case X => k_asm); (case N => k_asm); (case T => k_asm); (case hk => exact rfl); (case hd => omega); (case hu => omega)))); intro _ _ _ _ _ _ _ _ _; (try dsimp only); (try k_sweep))) | (((with_reducible show wpAny _ _ (call (Value.ref 143) [Value.str _ _]) _ _ _); (refine' Con.use_val (fspath_c _ _ _) ?B ?F ?X ?N ?T ?hk ?hd ?hu ?_); ((((case B => k_asm); (case F => k_asm); (case X => k_asm); (case N => k_asm); (case T => k_asm); (case hk => exact rfl); (case hd => omega); (case hu => omega)))); intro _ _ _ _; (try dsimp only); (try k_sweep)))) | walk1 | (dsimp only; walk1)))
      · have e : ncStep (ncs (cs.take i)) c = ncs (cs.take i) := by unfold ncStep; rw [if_pos (.inr (eq_of_beq (by assumption)))]
        (((try dsimp only); first | ((with_reducible refine' turn_mk ?F ?N ?_); (case F => assumption); (case N => assumption)) | ((with_reducible refine' turn_mkC ?F ?N ?_); (case F => assumption); (case N => assumption))))
        exact ⟨_, ⟨_, _, _, by rw [ncs_take hc, e]; assumption, rfl, m_keep1 _ rfl (by intro y h1; simp [h1])⟩, by (first | (intro p hp; exact hp) | (intro p hp; k_ownIn)), List.forall_mem_cons.mpr ⟨hI.symm, fun p hp => hneI p (List.mem_cons_of_mem _ hp)⟩⟩
      · have e : ncStep (ncs (cs.take i)) c = ncs (cs.take i) ++ [c] := by
          unfold ncStep
          rw [if_neg (fun q => q.elim (fun q => by omega) (fun q => by subst q; simp_all)), if_neg (fun q => by subst q; simp_all)]
        (((try dsimp only); first | ((with_reducible refine' turn_mk ?F ?N ?_); (case F => assumption); (case N => assumption)) | ((with_reducible refine' turn_mkC ?F ?N ?_); (case F => assumption); (case N => assumption))))
        exact ⟨_, ⟨_, _, _, by rw [ncs_take hc, e]; assumption, rfl, m_keep1 _ rfl (by intro y h1; simp [h1])⟩, by (first | (intro p hp; exact hp) | (intro p hp; k_ownIn)), List.forall_mem_cons.mpr ⟨hI.symm, fun p hp => hneI p (List.mem_cons_of_mem _ hp)⟩⟩
      · exfalso
        rename ((ncs (cs.take i)).getD _ _ == _) = true => hq
        have h0 : 0 < (ncs (cs.take i)).length := by assumption
        have hq2 := eq_of_beq hq
        rw [List.getD_eq_getElem?_getD, List.getElem?_eq_getElem (by omega), Option.getD_some] at hq2
        exact hnf _ (List.getElem_mem _) hq2
      · have hn0 : ncs (cs.take i) ≠ [] := by
          intro q
          have h0 : 0 < (ncs (cs.take i)).length := by assumption
          rw [q] at h0
          exact absurd h0 (Nat.lt_irrefl _)
        obtain ⟨ys, z, ez⟩ : ∃ ys z, ncs (cs.take i) = ys ++ [z] := ⟨_, _, (List.dropLast_concat_getLast hn0).symm⟩
        have e : ncStep (ncs (cs.take i)) c = ys := by
          unfold ncStep
          rw [if_neg (fun q => q.elim (fun q => by omega) (fun q => by subst q; simp_all)), if_pos (by rename (c != _) = false => hq; simpa using hq), ez, List.dropLast_concat]
        rw [ez] at hs' hnl
        simp only [List.length_append, List.length_cons, List.length_nil] at hnl
        refine' pop_strs (n := k') ?F ?N hs' ?hf ?U
        (case F => assumption)
        (case N => assumption)
        (case hf => omega)
        (case U =>
        intro us9
        refine' ⟨(I, o) :: (nc, listOf us9.toArray (k' + 1)) :: (hh.objs.size, listOf vs.toArray 0) :: led, Upd.tail hI (Upd.head hne), ?_⟩
        intro h9 tz9 su9 F9 N9
        (repeat' (first | ((with_reducible show wpAny _ _ (call (Value.ref _) _) _ _ _); first | (((with_reducible show wpAny _ _ (call (Value.ref 188) [Value.str _ _]) _ _ _); (refine' Con.use_splitroot (splitroot_c _ _ ?x0 ?x1 ?x2 _) ?B ?F ?X ?N ?T ?hk ?hd ?hu ?_); (case x0 => assumption); (case x1 => assumption); (case x2 => assumption); ((((case B => k_asm); (case F => k_asm); (case X => k_asm); (case N => k_asm); (case T => k_asm); (case hk => exact rfl); (case hd => omega); (case hu => omega)))); intro _ _ _ _ _ _ _ _ _; (try dsimp only); (try k_sweep))) | (((with_reducible show wpAny _ _ (call (Value.ref 143) [Value.str _ _]) _ _ _); (refine' Con.use_val (fspath_c _ _ _) ?B ?F ?X ?N ?T ?hk ?hd ?hu ?_); ((((case B => k_asm); (case F => k_asm); (case X => k_asm); (case N => k_asm); (case T => k_asm); (case hk => exact rfl); (case hd => omega); (case hu => omega)))); intro _ _ _ _; (try dsimp only); (try k_sweep)))) | walk1 | (dsimp only; walk1)))
        (((try dsimp only); first | ((with_reducible refine' turn_mk ?F ?N ?_); (case F => assumption); (case N => assumption)) | ((with_reducible refine' turn_mkC ?F ?N ?_); (case F => assumption); (case N => assumption))))
        exact ⟨_, ⟨_, _, _, by rw [ncs_take hc, e]; assumption, rfl, m_keep1 _ rfl (by intro y h1; simp [h1])⟩, by (first | (intro p hp; exact hp) | (intro p hp; k_ownIn)), List.forall_mem_cons.mpr ⟨hI.symm, fun p hp => hneI p (List.mem_cons_of_mem _ hp)⟩⟩)
      · have e : ncStep (ncs (cs.take i)) c = ncs (cs.take i) := by
          unfold ncStep
          have hz : ncs (cs.take i) = [] := List.length_eq_zero_iff.mp (by omega)
          rw [hz]
          split
          · rfl
          · rw [if_pos (by rename (c != _) = false => hq; simpa using hq)]; rfl
        (((try dsimp only); first | ((with_reducible refine' turn_mk ?F ?N ?_); (case F => assumption); (case N => assumption)) | ((with_reducible refine' turn_mkC ?F ?N ?_); (case F => assumption); (case N => assumption))))
        exact ⟨_, ⟨_, _, _, by rw [ncs_take hc, e]; assumption, rfl, m_keep1 _ rfl (by intro y h1; simp [h1])⟩, by (first | (intro p hp; exact hp) | (intro p hp; k_ownIn)), List.forall_mem_cons.mpr ⟨hI.symm, fun p hp => hneI p (List.mem_cons_of_mem _ hp)⟩⟩
      · have e : ncStep (ncs (cs.take i)) c = ncs (cs.take i) := by unfold ncStep; rw [if_pos (.inl (by omega))]
        (((try dsimp only); first | ((with_reducible refine' turn_mk ?F ?N ?_); (case F => assumption); (case N => assumption)) | ((with_reducible refine' turn_mkC ?F ?N ?_); (case F => assumption); (case N => assumption))))
        exact ⟨_, ⟨_, _, _, by rw [ncs_take hc, e]; assumption, rfl, m_keep1 _ rfl (by intro y h1; simp [h1])⟩, by (first | (intro p hp; exact hp) | (intro p hp; k_ownIn)), List.forall_mem_cons.mpr ⟨hI.symm, fun p hp => hneI p (List.mem_cons_of_mem _ hp)⟩⟩
    case done =>
      rintro I m₁ led' h tk ⟨vs', k', co, hs', rfl, rfl⟩ F2 N2
      have hS : vs.length = cs.length := hstrs.len_eq
      rw [hS, List.take_length] at hs'
      clear N9 N10 F9
      have hnl : (ncs cs).length ≤ 1001 := by
        have q1 := ncs_len cs []
        simp only [List.length_nil] at q1
        show (List.foldl ncStep [] cs).length ≤ _
        omega
      have hnb : ∀ y ∈ ncs cs, y.length ≤ 1000 := fun y hy => (ncs_sub cs [] y hy).elim (fun q => nomatch q) fun q => Nat.le_trans (hlens y q) hyl
      have hok : (ncs cs).length * 1000 ≤ 1001 * 1000 := Nat.mul_le_mul_right _ hnl
      have hjl : (Str.join (Str.ofString "/") (ncs cs)).length ≤ 1002001 := by
        have q1 := StrLaws.join_length_le (Str.ofString "/") (ncs cs)
        have q2 := StrLaws.sumLen_le (ncs cs) hnb
        have q3 : (Str.ofString "/").length = 1 := by decide +kernel
        rw [q3] at q1
        omega
      have hsl : (Str.ofString "/").length = 1 := by decide +kernel
      (repeat' (first | ((with_reducible show wpAny _ _ (call (Value.ref _) _) _ _ _); first | (((with_reducible show wpAny _ _ (call (Value.ref 188) [Value.str _ _]) _ _ _); (refine' Con.use_splitroot (splitroot_c _ _ ?x0 ?x1 ?x2 _) ?B ?F ?X ?N ?T ?hk ?hd ?hu ?_); (case x0 => assumption); (case x1 => assumption); (case x2 => assumption); ((((case B => k_asm); (case F => k_asm); (case X => k_asm); (case N => k_asm); (case T => k_asm); (case hk => exact rfl); (case hd => omega); (case hu => omega)))); intro _ _ _ _ _ _ _ _ _; (try dsimp only); (try k_sweep))) | (((with_reducible show wpAny _ _ (call (Value.ref 143) [Value.str _ _]) _ _ _); (refine' Con.use_val (fspath_c _ _ _) ?B ?F ?X ?N ?T ?hk ?hd ?hu ?_); ((((case B => k_asm); (case F => k_asm); (case X => k_asm); (case N => k_asm); (case T => k_asm); (case hk => exact rfl); (case hd => omega); (case hu => omega)))); intro _ _ _ _; (try dsimp only); (try k_sweep)))) | walk1 | (dsimp only; walk1)))
      · (((try dsimp only); (refine' Ends.intro ?_ ?F ?N ?_); (case F => assumption); (case N => assumption); rotate_left))
        · exact imp9 _ _ ⟨⟨_, by rw [← hsplit]⟩, rfl⟩
        · intro p hp
          exact List.Mem.tail _ (List.Mem.tail _ hp)
      · exfalso
        rename (((_ ++ _ : Str).length : Int) = 0) => hq
        rw [Str.length_append] at hq
        omega
  all_goals (exfalso; omega)
end SC10
example : True := by
  w_top off
  first
    | walk1
    | trivial
section SC11
noncomputable def SpR (x a : Str) : Prop :=
  (Txt.rfind x (Str.ofString "/") < Txt.rfind x (Str.ofString ".") ∧ (∃ j : Int, Txt.rfind x (Str.ofString "/") + 1 ≤ j ∧ j < Txt.rfind x (Str.ofString ".") ∧ Txt.slice x (some j) (some (j + 1)) ≠ Str.ofString ".") ∧ a = Txt.slice x none (some (Txt.rfind x (Str.ofString ".")))) ∨
  ((Txt.rfind x (Str.ofString ".") ≤ Txt.rfind x (Str.ofString "/") ∨ ∀ j : Int, Txt.rfind x (Str.ofString "/") + 1 ≤ j → j < Txt.rfind x (Str.ofString ".") → Txt.slice x (some j) (some (j + 1)) = Str.ofString ".") ∧ a = x)
inductive SpPost (x : Str) (led : Led) (r : Value) (led' : Led) : Prop
  | mk (T : Addr) (a b : Str) (ta tb : Tok) (er : r = .ref T) (el : led' = (T, tupOf [.str a ta, .str b tb]) :: led) (l : ∀ p ∈ led, p.1 < T) (s : SpR x a)
inductive spJ (x : Str) (m₀ : Str → Option Value) (led₀ : Led) (n : Nat) (m : Str → Option Value) (led' : Led) : Prop
  | mk (fi : Int) (t : Tok) (el : led' = led₀) (en : n = (Txt.rfind x (Str.ofString ".") - fi).toNat) (l : Txt.rfind x (Str.ofString "/") + 1 ≤ fi) (s : ∀ j : Int, Txt.rfind x (Str.ofString "/") + 1 ≤ j → j < fi → Txt.slice x (some j) (some (j + 1)) = Str.ofString ".")
    (em : m = fun y => if y = Str.ofString "filenameIndex" then some (.int fi t) else m₀ y)
theorem splitext0_c (x : Str) (t t1 t2 : Tok) (hx : x.length ≤ 1000) (led : Led) :
    Con w mean mg mb 150 [.str x t, .str (Str.ofString "/") t1, .none, .str (Str.ofString ".") t2] led 1 60 (SpPost x led) := by
  refine' Con.body (binds := [(Str.ofString "p", .str x t), (Str.ofString "sep", .str (Str.ofString "/") t1), (Str.ofString "altsep", .none), (Str.ofString "extsep", .str (Str.ofString ".") t2)]) ?ho ?hcd ?hbind ?hloc ?hD ?_ ?c2 ?c3 ?c4 ?c5
  ((((((case ho => k_is); (case hcd => k_is); (case hbind => exact rfl); (case hloc => exact rfl); (case hD => decide); (case c2 => exact rfl); (case c3 => exact rfl); (case c4 => exact rfl); (case c5 => decide)))); intro _ _ _ _ _ _ _ _ _ _ _ _ _ _ _ _))
  (repeat' (first | walk1 | (dsimp only; walk1)))
  · unfold Stop
    rename Fr _ _ _ _ => F1
    rename News _ _ _ _ => N1
    refine while_inv (spJ x) (n₀ := (Txt.rfind x (Str.ofString ".") - (Txt.rfind x (Str.ofString "/") + 1)).toNat) F1 N1 ?j0 ?turn
    case j0 => exact ⟨_, _, rfl, rfl, Int.le_refl _, (by intro j h1 h2; omega), m_cov1 _ rfl⟩
    case turn =>
      rintro n m₁ led₁ h₁ tk₁ F2 N2 ⟨fi, t5, rfl, rfl, hfi, hall, rfl⟩
      clear F1 N1
      (repeat' (first | walk1 | (dsimp only; walk1)))
      · (((try dsimp only); (refine' Ends.intro ?_ ?F ?N ?S); (case F => assumption); (case N => assumption); (case S => exact fun p h => h)))
        exact ⟨_, _, _, _, _, rfl, rfl, by assumption, .inl ⟨by assumption, ⟨fi, hfi, by assumption, by rename (Txt.slice x (some fi) _ != _) = true => hq; simpa using hq⟩, rfl⟩⟩
      · (((try dsimp only); first | ((with_reducible refine' wstep_next ?F ?N ?_); (case F => assumption); (case N => assumption)) | ((with_reducible refine' wstep_cont ?F ?N ?_); (case F => assumption); (case N => assumption))))
        refine ⟨_, _, ⟨fi + 1, _, rfl, rfl, by omega, ?_, m_keep1 _ rfl (by intro y h1; simp [h1])⟩, by omega, by (first | (intro p hp; exact hp) | (intro p hp; k_ownIn))⟩
        intro j h1 h2
        by_cases e : j = fi
        · subst e
          rename (Txt.slice x (some j) _ != _) = false => hq
          simpa using hq
        · exact hall j h1 (by omega)
      · (((try dsimp only); (refine' Ends.intro ?_ ?F ?N ?S); (case F => assumption); (case N => assumption); (case S => exact fun p h => h)))
        exact ⟨_, _, _, _, _, rfl, rfl, by assumption, .inr ⟨.inr (fun j h1 h2 => hall j h1 (by omega)), rfl⟩⟩
  · (((try dsimp only); (refine' Ends.intro ?_ ?F ?N ?S); (case F => assumption); (case N => assumption); (case S => exact fun p h => h)))
    exact ⟨_, _, _, _, _, rfl, rfl, by assumption, .inr ⟨.inl (by omega), rfl⟩⟩
theorem Con.use_splitext {w : World} {mean : ExcName → Option Value} {mg mb : Str → Option Value} {f : Addr} {args : List Value} {led : Led} {D U : Nat} {x : Str} (C : Con w mean mg mb f args led D U (SpPost x led))
    {dp un : Nat} {gd : Option (List Code)} {cn : Str} {cs : Scope} {a : Addr} {ccd : Value} {cl : List (Str × Addr)} {outer : List Env} {A₀ : Around} {base h₀ : Heap} {L : Addr} {m : Str → Option Value} {s : Shared} {Q E : Value → Shared → Prop}
    (B : Below A₀ base outer h₀) (F : Fr h₀ L s.heap m) (X : (hd0.heap_1 w.params).In h₀) (N : News h₀ L s.heap led) (T : Top vw (looseW vw []) mean mg mb h₀) (hk : cs.kind = .function)
    (hd : dp + D < recursionLimit) (hu : un + U < cLine)
    (h : ∀ T a b ta tb h' tk', (∀ p ∈ led, p.1 < T) → SpR x a → Fr h₀ L h' m → News h₀ L h' ((T, tupOf [.str a ta, .str b tb]) :: led) → Q (.ref T) { s with heap := h', toks := tk' }) :
    wpAny (model pg w) (ktrTop dp un gd cn cs L a ccd cl outer) (call (.ref f) args) Q E s :=
  C.use B F X N T hk hd hu (by rintro r led' h' tk' ⟨T, a, b, ta, tb, rfl, rfl, hlt, hsp⟩ F' N'; exact h T a b ta tb h' tk' hlt hsp F' N')
theorem splitext_c (x : Str) (t : Tok) (hx : x.length ≤ 1000) (led : Led) : Con w mean mg mb 178 [.str x t] led 2 80 (SpPost x led) := by
  refine' Con.body (binds := [(Str.ofString "p", .str x t)]) ?ho ?hcd ?hbind ?hloc ?hD ?_ ?c2 ?c3 ?c4 ?c5
  ((((((case ho => k_is); (case hcd => k_is); (case hbind => exact rfl); (case hloc => exact rfl); (case hD => decide); (case c2 => exact rfl); (case c3 => exact rfl); (case c4 => exact rfl); (case c5 => decide)))); intro _ _ _ _ _ _ _ _ _ _ _ _ _ _ _ _))
  (repeat' (first | ((with_reducible show wpAny _ _ (call (Value.ref _) _) _ _ _); first | (((with_reducible show wpAny _ _ (call (Value.ref 150) [Value.str _ _, Value.str _ _, _, Value.str _ _]) _ _ _); (refine' Con.use_splitext (splitext0_c _ _ _ _ ?hx _) ?B ?F ?X ?N ?T ?hk ?hd ?hu ?_); (case hx => assumption); ((((case B => k_asm); (case F => k_asm); (case X => k_asm); (case N => k_asm); (case T => k_asm); (case hk => exact rfl); (case hd => omega); (case hu => omega)))); intro _ _ _ _ _ _ _ _ _ _ _; (try dsimp only); (try k_sweep))) | (((with_reducible show wpAny _ _ (call (Value.ref 143) [Value.str _ _]) _ _ _); (refine' Con.use_val (fspath_c _ _ _) ?B ?F ?X ?N ?T ?hk ?hd ?hu ?_); ((((case B => k_asm); (case F => k_asm); (case X => k_asm); (case N => k_asm); (case T => k_asm); (case hk => exact rfl); (case hd => omega); (case hu => omega)))); intro _ _ _ _; (try dsimp only); (try k_sweep)))) | walk1 | (dsimp only; walk1)))
  (((try dsimp only); (refine' Ends.intro ?_ ?F ?N ?S); (case F => assumption); (case N => assumption); (case S => exact fun p h => h)))
  exact ⟨_, _, _, _, _, rfl, rfl, by assumption, by assumption⟩
end SC11
example : True := by
  w_top off
  first
    | walk1
    | trivial
section GB
local macro_rules | `(tactic| walk_at "execs nil") => `(tactic| (refine wpAny_execs_nil ?_))
local macro_rules | `(tactic| walk_at "execs cons") => `(tactic| (refine wpAny_execs_cons ?_))
local macro_rules | `(tactic| walk_at "compareOp NotEq ref ref") => `(tactic| k_dflt ((refine' ne_empty ?N ?m ?b ?u ?_); (case N => assumption); (case m => walk_at "INN"); (case b => walk_at "INN"); (case u => first | ke_room | omega)))
example : True := by
  w_top off
  first
    | walk1
    | trivial
section SC13
theorem getD_out {α : Type} (l : List α) (n : Nat) (d : α) (h : l.length ≤ n) : l.getD n d = d := by
  rw [List.getD, List.getElem?_eq_none h]; rfl
theorem poolS_len : poolS.length = 8 := by simp only [poolS, List.length_map, List.length_cons, List.length_nil]
theorem pool_len (n : Nat) : (poolS.getD n Str.empty).length ≤ 8 := by
  by_cases h : n < 8
  · have : ∀ n, n < 8 → (poolS.getD n Str.empty).length ≤ 8 := by decide +kernel
    exact this n h
  · rw [getD_out _ _ _ (by rw [poolS_len]; omega)]
    decide +kernel
theorem getD_le {xs : List Str} {n : Nat} (h : ∀ y ∈ xs, y.length ≤ n) (i : Nat) : (xs.getD i Str.empty).length ≤ n := by
  rw [List.getD]
  cases e : xs[i]? with
  | none => exact Nat.zero_le _
  | some y => exact h y (List.mem_of_getElem? e)
theorem joinS_le (p : Str) (bs : List Str) (n : Nat) (h : ∀ b ∈ bs, b.length ≤ n) : (joinS p bs).length ≤ p.length + bs.length * (n + 1) := by
  induction bs generalizing p with
  | nil => simp [joinS]
  | cons b bs ih =>
    have h1 := ih (jn p b) (fun c hc => h c (.tail _ hc))
    have h2 : (jn p b).length ≤ p.length + (n + 1) := by
      have := h b (.head _)
      unfold jn
      split
      · omega
      split
      · rw [Str.length_append]; omega
      · rw [Str.length_append, Str.length_append]
        have : (Str.ofString "/").length = 1 := by decide +kernel
        omega
    show (joinS (jn p b) bs).length ≤ _
    rw [List.length_cons, Nat.succ_mul]
    omega
noncomputable def NormIf (n : Nat) (y : Str) : Prop := 0 < n → 0 < y.length ∧ (Txt.slice y none (some 1) != Str.ofString "/") = false ∧ (Txt.slice y (some 1) (some 2) != Str.ofString "/") = true
theorem normIf_a {n : Nat} {y : Str} (h : NormIf n y) (hn : 0 < n) : 0 < y.length := (h hn).1
theorem normIf_b {n : Nat} {y : Str} (h : NormIf n y) (hn : 0 < n) : (Txt.slice y none (some 1) != Str.ofString "/") = false := (h hn).2.1
theorem normIf_c {n : Nat} {y : Str} (h : NormIf n y) (hn : 0 < n) : (Txt.slice y (some 1) (some 2) != Str.ofString "/") = true := (h hn).2.2
noncomputable def popL (xs : List Str) : List Str := if 0 < xs.dropLast.length then siftup (xs.dropLast.set 0 (xs.getLastD Str.empty)) else xs.dropLast
theorem heappop'_c (H : Addr) (vs : List Value) (xs : List Str) (k : Nat) (led : Led) (hs : StrsAre vs xs) (h0 : 0 < xs.length) (hl : xs.length ≤ 900000) (hne : ∀ q ∈ led, q.1 ≠ H) :
    Con w mean mg mb 214 [.ref H] ((H, listOf vs.toArray k) :: led) 3 80 (HPost H (popL xs) (fun t => .str (xs.getD 0 Str.empty) t) led) := by
  rcases List.eq_nil_or_concat xs with rfl | ⟨ys, z, rfl⟩
  · simp at h0
  · rw [List.concat_eq_append] at hs hl ⊢
    have h := heappop_c (w := w) (mean := mean) (mg := mg) (mb := mb) H vs ys z k led hs (by rw [List.length_append] at hl; omega) hne
    have e1 : popL (ys ++ [z]) = if 0 < ys.length then siftup (ys.set 0 z) else ys := by simp [popL]
    have e2 : (ys ++ [z]).getD 0 Str.empty = if 0 < ys.length then ys.getD 0 Str.empty else z := by
      cases ys with
      | nil => rfl
      | cons a r => simp
    rw [e1, e2]
    exact h
noncomputable def pcS (k x : Int) : Str := wrS k (poolS.getD ((x.fdiv 8).fmod 8).toNat Str.empty)
noncomputable def otS (k x : Int) : Str := wrS k (poolS.getD ((x.fdiv 64).fmod 8).toNat Str.empty)
noncomputable def DeedR (cp : Str → Str → Str) (k x : Int) (xs : List Str) (r : Str) (xs' : List Str) : Prop :=
  if xs.length = 0 ∨ x.fmod 8 < 2 then r = joinS (Str.ofString "/") [pcS k x, otS k x] ∧ xs' = sd (xs ++ [joinS (Str.ofString "/") [pcS k x, otS k x]]) (joinS (Str.ofString "/") [pcS k x, otS k x]) xs.length
  else if x.fmod 8 = 2 then r = xs.getD 0 Str.empty ∧ xs' = siftup (xs.set 0 (joinS (xs.getD 0 Str.empty) [pcS k x]))
  else if x.fmod 8 = 3 then r = xs.getD 0 Str.empty ∧ xs' = siftup (xs.set 0 (Str.ofString "/" ++ Str.join (Str.ofString "/") (ncs (Txt.split (Txt.slice (joinS (xs.getD 0 Str.empty) [Str.ofString "..", pcS k x, Str.ofString ".", otS k x]) (some 1) none) (Str.ofString "/")))))
  else if x.fmod 8 = 4 then r = (if 0 < xs.length ∧ ltS (xs.getD 0 Str.empty) (joinS (Str.ofString "/") [pcS k x]) = true then xs.getD 0 Str.empty else joinS (Str.ofString "/") [pcS k x]) ∧
    xs' = (if 0 < xs.length ∧ ltS (xs.getD 0 Str.empty) (joinS (Str.ofString "/") [pcS k x]) = true then siftup (xs.set 0 (joinS (Str.ofString "/") [pcS k x])) else xs)
  else if x.fmod 8 = 5 then r = xs.getD 0 Str.empty ∧ ∃ a, SpR (xs.getD 0 Str.empty) a ∧ xs' = siftup (xs.set 0 a)
  else if x.fmod 8 = 6 ∧ (popL xs).length ≠ 0 then r = (popL xs).getD 0 Str.empty ∧ xs' = siftup ((popL xs).set 0 (cp (xs.getD 0 Str.empty) ((popL xs).getD 0 Str.empty)))
  else r = xs.getD 0 Str.empty ∧ xs' = popL xs
inductive DPost (cp : Str → Str → Str) (H : Addr) (k x : Int) (xs : List Str) (led : Led) (r : Value) (led' : Led) : Prop
  | mk (y : Str) (t : Tok) (vs' : List Value) (k' : Nat) (xs' : List Str) (er : r = .str y t) (s : StrsAre vs' xs') (el : led' = (H, listOf vs'.toArray k') :: led) (d : DeedR cp k x xs y xs')
theorem Ends.deed {g : Heap} {L : Addr} {s₀ : Shared} {cp : Str → Str → Str} {H : Addr} {k x : Int} {xs : List Str} {led : Led} {y : Str} {t : Tok} {vs' : List Value} {k' : Nat} {xs' : List Str} {h' : Heap} {tk : Nat} {m' : Str → Option Value} {now : Led}
    (hs : StrsAre vs' xs') (F : Fr g L h' m') (N : News g L h' now) (hsub : ∀ p ∈ (H, listOf vs'.toArray k') :: led, p ∈ now) (hr : DeedR cp k x xs y xs') : Ends g L s₀ (DPost cp H k x xs led) (.str y t) { s₀ with heap := h', toks := tk } :=
  ⟨h', tk, m', _, rfl, F, fun p hp => N p (hsub p hp), _, _, _, _, _, rfl, hs, rfl, hr⟩
theorem wr_len (k : Int) (n : Nat) : (wrS k (poolS.getD n Str.empty)).length ≤ 48 := by
  have key : ∀ n, n < 9 → (esc_cdata (poolS.getD n Str.empty)).length ≤ 48 ∧ (esc_attrib (poolS.getD n Str.empty)).length ≤ 48 ∧ (esc_html (poolS.getD n Str.empty)).length ≤ 48 ∧ (esc_c14n (poolS.getD n Str.empty)).length ≤ 48 ∧ (esc_attrC14n (poolS.getD n Str.empty)).length ≤ 48 := by decide +kernel
  have hn : poolS.getD n Str.empty = poolS.getD (min n 8) Str.empty := by
    by_cases h : n < 8
    · rw [Nat.min_eq_left (by omega)]
    · rw [Nat.min_eq_right (by omega), getD_out _ _ _ (by rw [poolS_len]; omega)]
      decide +kernel
  rw [hn]
  have := key (min n 8) (by omega)
  unfold wrS
  split
  · exact this.1
  split
  · exact this.2.1
  split
  · exact this.2.2.1
  split
  · exact this.2.2.2.1
  · exact this.2.2.2.2
structure PoolIs (ps : List Value) : Prop where
  h : StrsAre ps poolS
theorem Con.use_pool {w : World} {mean : ExcName → Option Value} {mg mb : Str → Option Value} {f : Addr} {args : List Value} {led : Led} {D U : Nat} (C : Con w mean mg mb f args led D U (fun r led' => ∃ P vs, r = .ref P ∧ StrsAre vs poolS ∧ led' = (P, listOf vs.toArray 0) :: led ∧ (∀ p ∈ led, p.1 < P)))
    {dp un : Nat} {gd : Option (List Code)} {cn : Str} {cs : Scope} {a : Addr} {ccd : Value} {cl : List (Str × Addr)} {outer : List Env} {A₀ : Around} {base h₀ : Heap} {L : Addr} {m : Str → Option Value} {s : Shared} {Q E : Value → Shared → Prop}
    (B : Below A₀ base outer h₀) (F : Fr h₀ L s.heap m) (X : (hd0.heap_1 w.params).In h₀) (N : News h₀ L s.heap led) (T : Top vw (looseW vw []) mean mg mb h₀) (hk : cs.kind = .function)
    (hd : dp + D < recursionLimit) (hu : un + U < cLine)
    (h : ∀ P vs h' tk', (∀ p ∈ led, p.1 < P) → PoolIs vs → Fr h₀ L h' m → News h₀ L h' ((P, listOf vs.toArray 0) :: led) → Q (.ref P) { s with heap := h', toks := tk' }) :
    wpAny (model pg w) (ktrTop dp un gd cn cs L a ccd cl outer) (call (.ref f) args) Q E s :=
  C.use B F X N T hk hd hu (by rintro r led' h' tk' ⟨P, vs, rfl, hs, rfl, hlt⟩ F' N'; exact h P vs h' tk' hlt ⟨hs⟩ F' N')
theorem kix0 (y : Int) : 0 ≤ y.fmod 8 := Int.fmod_nonneg_of_pos _ (by decide)
theorem kix1 (y : Int) : y.fmod 8 < (poolS.length : Int) := by rw [poolS_len]; exact Int.fmod_lt_of_pos _ (by decide)
local macro_rules | `(tactic| walk_at "subscriptTail Name BinOp ref int") => `(tactic| k_dflt ((refine' sub_strs (xs := poolS) ?N ?m (PoolIs.h ?s) (kix0 _) (kix1 _) ?hf ?_ ?hq); (case N => assumption); (case s => assumption); (case m => walk_at "INN"); (case hf => omega); (case hq => with_unfolding_all rfl); intro t9; (try dsimp only)))
local macro_rules | `(tactic| walk_at "compareOp Eq ref ref") => `(tactic| k_dflt ((refine' eq_empty ?N ?m ?b ?u ?_); (case N => assumption); (case m => walk_at "INN"); (case b => walk_at "INN"); (case u => first | ke_room | omega)))
theorem wr_le (k : Int) (n : Nat) : (wrS k (poolS.getD n Str.empty)).length ≤ 1000 := Nat.le_trans (wr_len k n) (by decide)
theorem len_lit (y : Str) (h : (decide (y.length ≤ 1000)) = true) : y.length ≤ 1000 := of_decide_eq_true h
theorem all1 {a : Str} (ha : a.length ≤ 1000) : ∀ b ∈ [a], b.length ≤ 1000 := List.forall_mem_cons.mpr ⟨ha, fun _ h => nomatch h⟩
theorem all2 {a b : Str} (ha : a.length ≤ 1000) (hb : b.length ≤ 1000) : ∀ c ∈ [a, b], c.length ≤ 1000 := List.forall_mem_cons.mpr ⟨ha, all1 hb⟩
theorem all4 {a b c d : Str} (ha : a.length ≤ 1000) (hb : b.length ≤ 1000) (hc : c.length ≤ 1000) (hd : d.length ≤ 1000) : ∀ e ∈ [a, b, c, d], e.length ≤ 1000 := List.forall_mem_cons.mpr ⟨ha, List.forall_mem_cons.mpr ⟨hb, all2 hc hd⟩⟩
section
variable {cp : Str → Str → Str} {k x : Int} {xs : List Str} {y : Str} {ys : List Str}
theorem no0 {a b : Prop} (h0 : ¬ a) (h2 : ¬ b) : ¬ (a ∨ b) := fun q => q.elim h0 h2
theorem deedR_0 (h : xs.length = 0 ∨ x.fmod 8 < 2) : DeedR cp k x xs (joinS (Str.ofString "/") [pcS k x, otS k x]) (sd (xs ++ [joinS (Str.ofString "/") [pcS k x, otS k x]]) (joinS (Str.ofString "/") [pcS k x, otS k x]) xs.length) := by
  unfold DeedR; rw [if_pos h]; exact ⟨rfl, rfl⟩
theorem deedR_2 (h0 : xs.length ≠ 0) (h : x.fmod 8 = 2) : DeedR cp k x xs (xs.getD 0 Str.empty) (siftup (xs.set 0 (joinS (xs.getD 0 Str.empty) [pcS k x]))) := by
  unfold DeedR; rw [if_neg (no0 h0 (by rw [h]; decide)), if_pos h]; exact ⟨rfl, rfl⟩
theorem deedR_3 (h0 : xs.length ≠ 0) (h : x.fmod 8 = 3) : DeedR cp k x xs (xs.getD 0 Str.empty) (siftup (xs.set 0 (Str.ofString "/" ++ Str.join (Str.ofString "/") (ncs (Txt.split (Txt.slice (joinS (xs.getD 0 Str.empty) [Str.ofString "..", pcS k x, Str.ofString ".", otS k x]) (some 1) none) (Str.ofString "/")))))) := by
  unfold DeedR; rw [if_neg (no0 h0 (by rw [h]; decide)), if_neg (by rw [h]; decide), if_pos h]; exact ⟨rfl, rfl⟩
theorem deedR_4 (h0 : xs.length ≠ 0) (h : x.fmod 8 = 4) : DeedR cp k x xs (if 0 < xs.length ∧ ltS (xs.getD 0 Str.empty) (joinS (Str.ofString "/") [pcS k x]) = true then xs.getD 0 Str.empty else joinS (Str.ofString "/") [pcS k x])
    (if 0 < xs.length ∧ ltS (xs.getD 0 Str.empty) (joinS (Str.ofString "/") [pcS k x]) = true then siftup (xs.set 0 (joinS (Str.ofString "/") [pcS k x])) else xs) := by
  unfold DeedR; rw [if_neg (no0 h0 (by rw [h]; decide)), if_neg (by rw [h]; decide), if_neg (by rw [h]; decide), if_pos h]; exact ⟨rfl, rfl⟩
theorem deedR_5 {a : Str} (h0 : xs.length ≠ 0) (h : x.fmod 8 = 5) (ha : SpR (xs.getD 0 Str.empty) a) : DeedR cp k x xs (xs.getD 0 Str.empty) (siftup (xs.set 0 a)) := by
  unfold DeedR; rw [if_neg (no0 h0 (by rw [h]; decide)), if_neg (by rw [h]; decide), if_neg (by rw [h]; decide), if_neg (by rw [h]; decide), if_pos h]; exact ⟨rfl, a, ha, rfl⟩
theorem deedR_6 (h0 : xs.length ≠ 0) (h : x.fmod 8 = 6) (hp : (popL xs).length ≠ 0) : DeedR cp k x xs ((popL xs).getD 0 Str.empty) (siftup ((popL xs).set 0 (cp (xs.getD 0 Str.empty) ((popL xs).getD 0 Str.empty)))) := by
  unfold DeedR; rw [if_neg (no0 h0 (by rw [h]; decide)), if_neg (by rw [h]; decide), if_neg (by rw [h]; decide), if_neg (by rw [h]; decide), if_neg (by rw [h]; decide), if_pos ⟨h, hp⟩]; exact ⟨rfl, rfl⟩
theorem deedR_7 (h0 : xs.length ≠ 0) (h2 : ¬ x.fmod 8 < 2) (h : ¬ x.fmod 8 = 2) (h3 : ¬ x.fmod 8 = 3) (h4 : ¬ x.fmod 8 = 4) (h5 : ¬ x.fmod 8 = 5) (hp : ¬ x.fmod 8 = 6 ∨ (popL xs).length = 0) : DeedR cp k x xs (xs.getD 0 Str.empty) (popL xs) := by
  unfold DeedR; rw [if_neg (no0 h0 h2), if_neg h, if_neg h3, if_neg h4, if_neg h5, if_neg (fun q => hp.elim (fun a => a q.1) (fun a => q.2 a))]; exact ⟨rfl, rfl⟩
end
noncomputable def CPat (w : World) (mean : ExcName → Option Value) (mg mb : Str → Option Value) (cp : Str → Str → Str) (x y : Str) : Prop :=
  ∀ (P : Addr) (tx ty : Tok) (k : Nat) (led : Led), Con w mean mg mb 200 [.ref P] ((P, listOf [.str x tx, .str y ty].toArray k) :: led) 4 120 (fun r led' => (∃ t', r = .str (cp x y) t') ∧ led' = (P, listOf [.str x tx, .str y ty].toArray k) :: led)
/-- commonpath of the two least, if there are two -/
structure CPIf (w : World) (mean : ExcName → Option Value) (mg mb : Str → Option Value) (cp : Str → Str → Str) (xs : List Str) : Prop where
  h : (popL xs).length ≠ 0 → CPat w mean mg mb cp (xs.getD 0 Str.empty) ((popL xs).getD 0 Str.empty)
theorem deed_c (cp : Str → Str → Str) (H : Addr) (k : Int) (u : Tok) (x : Int) (ux : Tok) (vs : List Value) (xs : List Str) (c : Nat) (led : Led) (hs : StrsAre vs xs) (hl : xs.length ≤ 1000) (hxl : ∀ y ∈ xs, y.length ≤ 700) (hne : ∀ q ∈ led, q.1 ≠ H)
    (hN : NormIf xs.length (joinS (xs.getD 0 Str.empty) [Str.ofString "..", wrS k (poolS.getD ((x.fdiv 8).fmod 8).toNat Str.empty), Str.ofString ".", wrS k (poolS.getD ((x.fdiv 64).fmod 8).toNat Str.empty)]))
    (hpl : (popL xs).length ≤ 1000) (hCP : CPIf w mean mg mb cp xs) :
    Con w mean mg mb 277 [.ref H, .int k u, .int x ux] ((H, listOf vs.toArray c) :: led) 6 140 (DPost cp H k x xs led) := by
  refine' Con.body (binds := [(Str.ofString "heap", .ref H), (Str.ofString "kind", .int k u), (Str.ofString "x", .int x ux)]) ?ho ?hcd ?hbind ?hloc ?hD ?_ ?c2 ?c3 ?c4 ?c5
  ((((((case ho => k_is); (case hcd => k_is); (case hbind => exact rfl); (case hloc => exact rfl); (case hD => decide); (case c2 => exact rfl); (case c3 => exact rfl); (case c4 => exact rfl); (case c5 => decide)))); intro _ _ _ _ _ _ _ _ _ _ _ _ _ _ _ _))
  have hpl9 := poolS_len
  have hvl9 : vs.length = xs.length := hs.length
  have hx09 : (xs.getD 0 Str.empty).length ≤ 700 := getD_le hxl 0
  (repeat' (first | ((with_reducible show wpAny _ _ (call (Value.ref _) _) _ _ _); first | (((with_reducible show wpAny _ _ (call (Value.ref 200) [Value.ref _]) _ _ _); (refine' Con.use_tok (CPIf.h ‹CPIf _ _ _ _ _ _› (by omega) _ _ _ _ _) ?B ?F ?X ?N ?T ?hk ?hd ?hu ?_); ((((case B => k_asm); (case F => k_asm); (case X => k_asm); (case N => k_asm); (case T => k_asm); (case hk => exact rfl); (case hd => omega); (case hu => omega)))); intro _ _ _ _ _; (try dsimp only); (try k_sweep))) | (((with_reducible show wpAny _ _ (call (Value.ref 214) [Value.ref _]) _ _ _); (refine' Con.use_heap (heappop'_c _ _ _ _ _ ?s ?p9 ?l ?n) ?B ?F ?X ?N ?T ?hk ?hd ?hu ?_); ((((case n => assumption); (case s => assumption); (case B => k_asm); (case F => k_asm); (case X => k_asm); (case N => (refine' news_sub ?N0 ?S0; (case N0 => assumption); (case S0 => (intro _ _; k_ownIn)))); (case T => k_asm); (case hk => exact rfl); (case hd => omega); (case hu => omega)))); (case p9 => omega); (case l => omega); intro _ _ _ _ _ hs' _ _; (have hv' := hs'.length); (try dsimp only); (try k_sweep))) | (((with_reducible show wpAny _ _ (call (Value.ref 228) [Value.ref _, Value.str _ _]) _ _ _); (refine' Con.use_heap (heappushpop_c _ _ _ _ _ _ _ ?s ?l ?n) ?B ?F ?X ?N ?T ?hk ?hd ?hu ?_); ((((case n => assumption); (case s => assumption); (case B => k_asm); (case F => k_asm); (case X => k_asm); (case N => (refine' news_sub ?N0 ?S0; (case N0 => assumption); (case S0 => (intro _ _; k_ownIn)))); (case T => k_asm); (case hk => exact rfl); (case hd => omega); (case hu => omega)))); (case l => omega); intro _ _ _ _ _ _ _ _; (try dsimp only); (try k_sweep))) | (((with_reducible show wpAny _ _ (call (Value.ref 221) [Value.ref _, Value.str _ _]) _ _ _); (refine' Con.use_heap (heapreplace_c _ _ _ _ _ _ _ ?s ?p9 ?l ?n) ?B ?F ?X ?N ?T ?hk ?hd ?hu ?_); ((((case n => assumption); (case s => assumption); (case B => k_asm); (case F => k_asm); (case X => k_asm); (case N => (refine' news_sub ?N0 ?S0; (case N0 => assumption); (case S0 => (intro _ _; k_ownIn)))); (case T => k_asm); (case hk => exact rfl); (case hd => omega); (case hu => omega)))); (case p9 => omega); (case l => omega); intro _ _ _ _ _ _ _ _; (try dsimp only); (try k_sweep))) | (((with_reducible show wpAny _ _ (call (Value.ref 207) [Value.ref _, Value.str _ _]) _ _ _); (refine' Con.use_heap (heappush_c _ _ _ _ _ _ _ ?s ?l ?n) ?B ?F ?X ?N ?T ?hk ?hd ?hu ?_); ((((case n => assumption); (case s => assumption); (case B => k_asm); (case F => k_asm); (case X => k_asm); (case N => (refine' news_sub ?N0 ?S0; (case N0 => assumption); (case S0 => (intro _ _; k_ownIn)))); (case T => k_asm); (case hk => exact rfl); (case hd => omega); (case hu => omega)))); (case l => omega); intro _ _ _ _ _ _ _ _; (try dsimp only); (try k_sweep))) | (((with_reducible show wpAny _ _ (call (Value.ref 178) [Value.str _ _]) _ _ _); (refine' Con.use_splitext (splitext_c _ _ ?hx _) ?B ?F ?X ?N ?T ?hk ?hd ?hu ?_); (case hx => omega); ((((case B => k_asm); (case F => k_asm); (case X => k_asm); (case N => k_asm); (case T => k_asm); (case hk => exact rfl); (case hd => omega); (case hu => omega)))); intro _ _ _ _ _ _ _ _ _ _ _; (try dsimp only); (try k_sweep))) | (((with_reducible show wpAny _ _ (call (Value.ref 195) [Value.str _ _]) _ _ _); (refine' Con.use_tok (normpath_c _ _ ?nx ?n0 ?n1 ?n2 _) ?B ?F ?X ?N ?T ?hk ?hd ?hu ?_); ((((case B => k_asm); (case F => k_asm); (case X => k_asm); (case N => k_asm); (case T => k_asm); (case hk => exact rfl); (case hd => omega); (case hu => omega)))); (case nx => (refine Nat.le_trans (joinS_le _ _ 48 ?_) ?_; (refine List.forall_mem_cons.mpr ⟨by decide +kernel, List.forall_mem_cons.mpr ⟨wr_len _ _, List.forall_mem_cons.mpr ⟨by decide +kernel, List.forall_mem_cons.mpr ⟨wr_len _ _, fun _ h => nomatch h⟩⟩⟩⟩); (simp only [List.length_cons, List.length_nil]; omega))); (case n0 => exact normIf_a (by assumption) (by omega)); (case n1 => exact normIf_b (by assumption) (by omega)); (case n2 => exact normIf_c (by assumption) (by omega)); intro _ _ _ _ _; (try dsimp only); (try k_sweep))) | (((with_reducible show wpAny _ _ (call (Value.ref 171) [Value.str _ _, Value.str _ _, Value.str _ _, Value.str _ _, Value.str _ _]) _ _ _); (refine' Con.use_tok (join_c _ _ [Value.str _ _, Value.str _ _, Value.str _ _, Value.str _ _] [_, _, _, _] (.cons _ _ (.cons _ _ (.cons _ _ (.cons _ _ .nil)))) (.inr (.inr rfl)) ?jx (all4 ?j1 ?j2 ?j3 ?j4) _) ?B ?F ?X ?N ?T ?hk ?hd ?hu ?_); ((((case B => k_asm); (case F => k_asm); (case X => k_asm); (case N => k_asm); (case T => k_asm); (case hk => exact rfl); (case hd => omega); (case hu => omega)))); (case jx => first | omega | decide +kernel); (case j1 => (first | exact wr_le _ _ | (exact len_lit _ (by decide +kernel)) | omega)); (case j2 => (first | exact wr_le _ _ | (exact len_lit _ (by decide +kernel)) | omega)); (case j3 => (first | exact wr_le _ _ | (exact len_lit _ (by decide +kernel)) | omega)); (case j4 => (first | exact wr_le _ _ | (exact len_lit _ (by decide +kernel)) | omega)); intro _ _ _ _ _; (try dsimp only); (try k_sweep))) | (((with_reducible show wpAny _ _ (call (Value.ref 171) [Value.str _ _, Value.str _ _, Value.str _ _]) _ _ _); (refine' Con.use_tok (join_c _ _ [Value.str _ _, Value.str _ _] [_, _] (.cons _ _ (.cons _ _ .nil)) (.inr (.inl rfl)) ?jx (all2 ?j1 ?j2) _) ?B ?F ?X ?N ?T ?hk ?hd ?hu ?_); ((((case B => k_asm); (case F => k_asm); (case X => k_asm); (case N => k_asm); (case T => k_asm); (case hk => exact rfl); (case hd => omega); (case hu => omega)))); (case jx => first | omega | decide +kernel); (case j1 => (first | exact wr_le _ _ | (exact len_lit _ (by decide +kernel)) | omega)); (case j2 => (first | exact wr_le _ _ | (exact len_lit _ (by decide +kernel)) | omega)); intro _ _ _ _ _; (try dsimp only); (try k_sweep))) | (((with_reducible show wpAny _ _ (call (Value.ref 171) [Value.str _ _, Value.str _ _]) _ _ _); (refine' Con.use_tok (join_c _ _ [Value.str _ _] [_] (.cons _ _ .nil) (.inl rfl) ?jx (all1 ?j1) _) ?B ?F ?X ?N ?T ?hk ?hd ?hu ?_); ((((case B => k_asm); (case F => k_asm); (case X => k_asm); (case N => k_asm); (case T => k_asm); (case hk => exact rfl); (case hd => omega); (case hu => omega)))); (case jx => first | omega | decide +kernel); (case j1 => (first | exact wr_le _ _ | (exact len_lit _ (by decide +kernel)) | omega)); intro _ _ _ _ _; (try dsimp only); (try k_sweep))) | (((with_reducible show wpAny _ _ (call (Value.ref 256) [Value.int _ _, Value.str _ _]) _ _ _); (refine' ConT.use_tok (written_c _ _ _ _ (pool_len _) _) ?B ?F ?X ?N ?T ?hk ?hd ?hu ?hT ?_); (((((((case B => k_asm); (case F => k_asm); (case X => k_asm); (case N => k_asm); (case T => k_asm); (case hk => exact rfl); (case hd => omega); (case hu => omega)))); (case hT => (first | assumption | omega | ((try dsimp only); omega) | ((try dsimp only at *); omega))); (intro _ _ _ _ _ _; (try dsimp only); (try k_sweep))))))) | (k_dflt ((show wpAny _ _ (call (Value.ref 270) []) _ _ _); (refine' Con.use_pool (pool_c _) ?B ?F ?X ?N ?T ?hk ?hd ?hu ?_); ((((case B => k_asm); (case F => k_asm); (case X => k_asm); (case N => k_asm); (case T => k_asm); (case hk => exact rfl); (case hd => omega); (case hu => omega)))); intro _ _ _ _ _ _ _ _; (try dsimp only); (try k_sweep)))) | walk1 | (dsimp only; walk1)))
  · (((try dsimp only); (refine' Ends.deed ?s ?F ?N ?S ?_); (case F => assumption); (case N => assumption); (case s => assumption); (case S => (intro _ _; k_ownIn))))
    exact deedR_0 (.inl (by omega))
  · (((try dsimp only); (refine' Ends.deed ?s ?F ?N ?S ?_); (case F => assumption); (case N => assumption); (case s => assumption); (case S => (intro _ _; k_ownIn))))
    exact deedR_0 (.inr (by omega))
  · (((try dsimp only); (refine' Ends.deed ?s ?F ?N ?S ?_); (case F => assumption); (case N => assumption); (case s => assumption); (case S => (intro _ _; k_ownIn))))
    exact deedR_2 (by omega) (by omega)
  · (((try dsimp only); (refine' Ends.deed ?s ?F ?N ?S ?_); (case F => assumption); (case N => assumption); (case s => assumption); (case S => (intro _ _; k_ownIn))))
    exact deedR_3 (by omega) (by omega)
  · (((try dsimp only); (refine' Ends.deed ?s ?F ?N ?S ?_); (case F => assumption); (case N => assumption); (case s => assumption); (case S => (intro _ _; k_ownIn))))
    exact deedR_4 (by omega) (by omega)
  · (((try dsimp only); (refine' Ends.deed ?s ?F ?N ?S ?_); (case F => assumption); (case N => assumption); (case s => assumption); (case S => (intro _ _; k_ownIn))))
    exact deedR_5 (by omega) (by omega) (by assumption)
  · (((try dsimp only); (refine' Ends.deed ?s ?F ?N ?S ?_); (case F => assumption); (case N => assumption); (case s => assumption); (case S => (intro _ _; k_ownIn))))
    exact deedR_7 (by omega) (by omega) (by omega) (by omega) (by omega) (by omega) (by omega)
  · (((try dsimp only); (refine' Ends.deed ?s ?F ?N ?S ?_); (case F => assumption); (case N => assumption); (case s => assumption); (case S => (intro _ _; k_ownIn))))
    exact deedR_6 (by omega) (by omega) (by omega)
  · (((try dsimp only); (refine' Ends.deed ?s ?F ?N ?S ?_); (case F => assumption); (case N => assumption); (case s => assumption); (case S => (intro _ _; k_ownIn))))
    exact deedR_7 (by omega) (by omega) (by omega) (by omega) (by omega) (by omega) (by omega)
end SC13
example : True := by
  w_top off
  first
    | walk1
    | trivial
section SP1
theorem sd_len (xs : List Str) (nw : Str) (p : Nat) : (sd xs nw p).length = xs.length := by
  exact sd_ind (M := fun xs _ r => r.length = xs.length) (fun _ => List.length_set) (fun _ _ _ _ _ e => e.trans List.length_set) (fun _ _ _ _ => List.length_set) xs p
theorem suL_len (xs : List Str) (p : Nat) : (suL xs p).1.length = xs.length := by
  exact suL_ind (M := fun xs _ r => r.1.length = xs.length) (fun _ _ _ _ e => e.trans List.length_set) (fun _ _ _ => rfl) xs p
theorem siftup_len (xs : List Str) : (siftup xs).length = xs.length := by
  unfold siftup; rw [sd_len, List.length_set, suL_len]
theorem popL_len (xs : List Str) : (popL xs).length = xs.length - 1 := by
  unfold popL; split
  · rw [siftup_len, List.length_set, List.length_dropLast]
  · rw [List.length_dropLast]
end SP1
section SC14
theorem Con.toT {f : Addr} {args : List Value} {led : Led} {D U : Nat} {post : Value → Led → Prop} (C : Con w mean mg mb f args led D U post) : ConT w mean mg mb f args led D U post := by
  intro dp un gd cn cs a ccd cl outer A₀ base h₀ L m s Q E B F X N T hkk hdp hun hT hret
  exact wpAny_with_toks hT (C dp un gd cn cs a ccd cl outer A₀ base h₀ L m s _ _ B F X N T hkk hdp hun fun r led' h' tk' hp F' N' ht => hret r led' h' tk' ht hp F' N')
theorem len_lit8 (y : Str) (h : (decide (y.length ≤ 8)) = true) : y.length ≤ 8 := of_decide_eq_true h
theorem wrL_le (k : Int) (y : Str) (h : (decide ((esc_cdata y).length ≤ 1000 ∧ (esc_attrib y).length ≤ 1000 ∧ (esc_html y).length ≤ 1000 ∧ (esc_c14n y).length ≤ 1000 ∧ (esc_attrC14n y).length ≤ 1000)) = true) : (wrS k y).length ≤ 1000 := by
  have := of_decide_eq_true h
  unfold wrS
  split
  · exact this.1
  split
  · exact this.2.1
  split
  · exact this.2.2.1
  split
  · exact this.2.2.2.1
  · exact this.2.2.2.2
local macro_rules | `(tactic| k_all) => `(tactic| first | exact List.forall_mem_nil _ | (have hk9 := ‹AllLt _ _›; exact hk9) | (refine' List.forall_mem_cons.mpr ⟨?a, ?b⟩; (case a => k_ne); (case b => k_all)))
local macro_rules | `(tactic| walk_at "subscriptTail Name Slice ref ref") => `(tactic| k_dflt ((refine' slice_one ?F ?N ?m ?hf ?_ ?s ?t); (case F => assumption); (case N => assumption); (case m => walk_at "INN"); (case hf => omega); (case s => with_unfolding_all rfl); (case t => kmk_pure); intro D9 h9 F9 N9 l9; (try k_lt l9); (try dsimp only); (try k_sweep)))
local macro_rules | `(tactic| walk_at "call builtin:list.extend") => `(tactic| k_dflt ((refine' extend_list ?F ?N ?b ?nw ?U ?hf ?_); (case F => assumption); (case N => assumption); (case U => (intro n'; exact Upd.tail (by k_ne) (Upd.head (by assumption)))); (case b => walk_at "INN"); (case hf => (simp only [List.length_append, List.length_cons, List.length_nil, List.length_take] at *; omega)); intro n9 h9 F9 N9; (try dsimp only); (try k_sweep)))
theorem strs_take {vs : List Value} {xs : List Str} (h : StrsAre vs xs) : ∀ n, StrsAre (vs.take n) (xs.take n) := by
  induction h with
  | nil => intro n; simp only [List.take_nil]; exact .nil
  | cons x t _ ih =>
    intro n
    cases n with
    | zero => exact .nil
    | succ n => exact .cons x t (ih n)
theorem allLt_ne {d : Addr} : ∀ {l : List (Addr × Obj)}, AllLt d l → ∀ p ∈ l, p.1 ≠ d
  | [], _, _, hp => nomatch hp
  | _ :: _, h, _, hp => by
    rcases List.mem_cons.mp hp with rfl | hp
    · exact Nat.ne_of_lt h.1
    · exact allLt_ne h.2 _ hp
theorem intsAre_get {vs : List Value} {ns : List Int} (h : IntsAre vs ns) : ∀ {i : Nat} {v : Value}, vs[i]? = some v → ∃ x t, ns[i]? = some x ∧ v = .int x t := by
  induction h with
  | nil => intro i v e; simp at e
  | cons x t _ ih =>
    intro i v e
    cases i with
    | zero => simp at e; exact ⟨x, t, rfl, e.symm⟩
    | succ i => simp at e; obtain ⟨y, u, h1, h2⟩ := ih e; exact ⟨y, u, by simpa using h1, h2⟩
noncomputable def RunR (cp : Str → Str → Str) (k : Int) : List Int → List Str → List Str → List Str → List Str → Prop
  | [], h, t, h', t' => h' = h ∧ t' = t
  | x :: ds, h, t, h', t' => ∃ r h1, DeedR cp k x h r h1 ∧ RunR cp k ds h1 (t ++ [r] ++ h1.take 1) h' t'
theorem RunR.snoc {cp : Str → Str → Str} {k x : Int} : ∀ {ds : List Int} {h t h' t' : List Str} {r : Str} {h1 : List Str}, RunR cp k ds h t h' t' → DeedR cp k x h' r h1 → RunR cp k (ds ++ [x]) h t h1 (t' ++ [r] ++ h1.take 1)
  | [], h, t, h', t', r, h1, e, hd => by obtain ⟨rfl, rfl⟩ := e; exact ⟨r, h1, hd, rfl, rfl⟩
  | y :: ds, h, t, h', t', r, h1, e, hd => by obtain ⟨q, h2, hq, e⟩ := e; exact ⟨q, h2, hq, e.snoc hd⟩
noncomputable def SideOK (w : World) (mean : ExcName → Option Value) (mg mb : Str → Option Value) (cp : Str → Str → Str) (k x : Int) (xs : List Str) : Prop :=
  xs.length ≤ 1000 ∧ (∀ y ∈ xs, y.length ≤ 700) ∧
    NormIf xs.length (joinS (xs.getD 0 Str.empty) [Str.ofString "..", wrS k (poolS.getD ((x.fdiv 8).fmod 8).toNat Str.empty), Str.ofString ".", wrS k (poolS.getD ((x.fdiv 64).fmod 8).toNat Str.empty)]) ∧
    (popL xs).length ≤ 1000 ∧ CPIf w mean mg mb cp xs
theorem deed_use {cp : Str → Str → Str} {H : Addr} {k : Int} {u : Tok} {x : Int} {ux : Tok} {vs : List Value} {xs : List Str} {c : Nat} {led : Led} (hs : StrsAre vs xs) (hok : SideOK w mean mg mb cp k x xs) (hne : ∀ q ∈ led, q.1 ≠ H)
    {dp un : Nat} {gd : Option (List Code)} {cn : Str} {cs : Scope} {a : Addr} {ccd : Value} {cl : List (Str × Addr)} {outer : List Env} {A₀ : Around} {base h₀ : Heap} {L : Addr} {m : Str → Option Value} {s : Shared} {Q E : Value → Shared → Prop}
    (B : Below A₀ base outer h₀) (F : Fr h₀ L s.heap m) (X : (hd0.heap_1 w.params).In h₀) (N : News h₀ L s.heap ((H, listOf vs.toArray c) :: led)) (T : Top vw (looseW vw []) mean mg mb h₀) (hk : cs.kind = .function)
    (hd : dp + 6 < recursionLimit) (hu : un + 140 < cLine)
    (h : ∀ y t vs' k' xs' h' tk', StrsAre vs' xs' → DeedR cp k x xs y xs' → Fr h₀ L h' m → News h₀ L h' ((H, listOf vs'.toArray k') :: led) → Q (.str y t) { s with heap := h', toks := tk' }) :
    wpAny (model pg w) (ktrTop dp un gd cn cs L a ccd cl outer) (call (.ref 277) [.ref H, .int k u, .int x ux]) Q E s :=
  Con.use (deed_c cp H k u x ux vs xs c led hs hok.1 hok.2.1 hne hok.2.2.1 hok.2.2.2.1 hok.2.2.2.2) B F X N T hk hd hu
    (by rintro r led' h' tk' ⟨y, t, vs', k', xs', rfl, hs', rfl, hr⟩ F' N'; exact h y t vs' k' xs' h' tk' hs' hr F' N')
inductive toldJ (cp : Str → Str → Str) (k : Int) (ds : List Int) (Inv : Nat → List Str → Prop) (h0 : List Str) (TD HP : Addr) (rest : Led) (m₀ : Str → Option Value) (_ : Led) (I : Addr) (i : Nat) (m : Str → Option Value) (led' : Led) : Prop
  | mk (vs : List Value) (k' : Nat) (xs : List Str) (ts : List Value) (kt : Nat) (txs : List Str) (co : Option Value) (s : StrsAre vs xs) (s2 : StrsAre ts txs) (r : RunR cp k (ds.take i) h0 [] xs txs) (v : Inv i xs) (l : txs.length ≤ 2 * i)
    (el : led' = (TD, listOf (List.toArray ts) kt) :: (HP, listOf (List.toArray vs) k') :: rest) (em : m = fun y => if y = Str.ofString "x" then co else m₀ y)
inductive DrR (xs : List Str) (t : List Str) : List Str → List Str → Prop
  | refl : DrR xs t xs t
  | step {ys u : List Str} : DrR xs t ys u → 0 < ys.length → DrR xs t (popL ys) (u ++ [ys.getD 0 Str.empty])
inductive drainJ (xs txs : List Str) (TD HP : Addr) (rest : Led) (m₀ : Str → Option Value) (_ : Led) (n : Nat) (m : Str → Option Value) (led' : Led) : Prop
  | mk (vs : List Value) (k' : Nat) (xs1 : List Str) (ts : List Value) (kt : Nat) (txs1 : List Str) (s : StrsAre vs xs1) (s2 : StrsAre ts txs1) (r : DrR xs txs xs1 txs1) (en : n = xs1.length)
    (el : led' = (TD, listOf (List.toArray ts) kt) :: (HP, listOf (List.toArray vs) k') :: rest) (em : m = m₀)
inductive ToldPost (cp : Str → Str → Str) (k : Int) (ds : List Int) (h0 : List Str) (rest : Led) (r : Value) (led' : Led) : Prop
  | mk (TD HP : Addr) (ts : List Value) (kt : Nat) (vs : List Value) (k' : Nat) (xs txs txsF : List Str) (er : r = .ref TD) (s : StrsAre ts txsF) (rr : RunR cp k ds h0 [] xs txs) (dr : DrR xs txs [] txsF)
    (el : led' = (TD, listOf (List.toArray ts) kt) :: (HP, listOf (List.toArray vs) k') :: rest) (l : AllLt TD rest)
theorem DrR.len {xs t ys u : List Str} (h : DrR xs t ys u) : ys.length + u.length = xs.length + t.length := by
  induction h with
  | refl => rfl
  | step _ h0 ih => rw [popL_len, List.length_append, List.length_singleton]; omega
theorem told_c (cp : Str → Str → Str) (DR : Addr) (k : Int) (u : Tok) (dv : List Value) (ds : List Int) (kd : Nat) (led : Led) (hdv : IntsAre dv ds) (hdl : dv.length ≤ 1000) (Inv : Nat → List Str → Prop)
    (hI0 : Inv 0 (siftup [joinS (Str.ofString "/") [wrS k (Str.ofString "a<"), wrS k (Str.ofString "&")], joinS (Str.ofString "/") [wrS k (Str.ofString "a"), wrS k (Str.ofString "\"")]]))
    (hI : ∀ i x xs, ds[i]? = some x → Inv i xs → SideOK w mean mg mb cp k x xs ∧ ∀ r xs', DeedR cp k x xs r xs' → Inv (i + 1) xs') (hIl : ∀ i xs, Inv i xs → xs.length ≤ 1000) :
    ConT w mean mg mb 284 [.ref DR, .int k u] ((DR, listOf dv.toArray kd) :: led) 8 200 (ToldPost cp k ds (siftup [joinS (Str.ofString "/") [wrS k (Str.ofString "a<"), wrS k (Str.ofString "&")], joinS (Str.ofString "/") [wrS k (Str.ofString "a"), wrS k (Str.ofString "\"")]]) ((DR, listOf dv.toArray kd) :: led)) := by
  refine ConT.gen fun P9 imp9 => ?_
  refine' ConT.body (binds := [(Str.ofString "draws", .ref DR), (Str.ofString "kind", .int k u)]) ?ho ?hcd ?hbind ?hloc ?hD ?_ ?c2 ?c3 ?c4 ?c5
  ((((((case ho => k_is); (case hcd => k_is); (case hbind => exact rfl); (case hloc => exact rfl); (case hD => decide); (case c2 => exact rfl); (case c3 => exact rfl); (case c4 => exact rfl); (case c5 => decide)))); intro _ _ _ _ _ _ _ _ _ _ _ _ _ _ _ _ _))
  (repeat' (first | ((with_reducible show wpAny _ _ (call (Value.ref _) _) _ _ _); first | (((with_reducible show wpAny _ _ (call (Value.ref 214) [Value.ref _]) _ _ _); (refine' Con.use_heap (heappop'_c _ _ _ _ _ ?s ?p9 ?l ?n) ?B ?F ?X ?N ?T ?hk ?hd ?hu ?_); ((((case n => assumption); (case s => assumption); (case B => k_asm); (case F => k_asm); (case X => k_asm); (case N => (refine' news_sub ?N0 ?S0; (case N0 => assumption); (case S0 => (intro _ _; k_ownIn)))); (case T => k_asm); (case hk => exact rfl); (case hd => omega); (case hu => omega)))); (case p9 => omega); (case l => omega); intro _ _ _ _ _ hs' _ _; (have hv' := hs'.length); (try dsimp only); (try k_sweep))) | (((with_reducible show wpAny _ _ (call (Value.ref 235) [Value.ref _]) _ _ _); (refine' Con.use_heap (heapify_c _ _ _ _ _ _ _ ?n) ?B ?F ?X ?N ?T ?hk ?hd ?hu ?_); (case B => k_asm); (case F => k_asm); (case X => k_asm); (case T => k_asm); (case hk => exact rfl); (case hd => omega); (case hu => omega); (case N => assumption); (case n => k_all); intro _ _ _ _ _ _ _ _; (try dsimp only); (try k_sweep))) | (((with_reducible show wpAny _ _ (call (Value.ref 171) [Value.str _ _, Value.str _ _, Value.str _ _]) _ _ _); (refine' ConT.use_tok (Con.toT (join_c _ _ [Value.str _ _, Value.str _ _] [_, _] (.cons _ _ (.cons _ _ .nil)) (.inr (.inl rfl)) ?jx (all2 ?j1 ?j2) _)) ?B ?F ?X ?N ?T ?hk ?hd ?hu ?hT ?_); (case jx => first | omega | decide +kernel); (case j1 => exact wrL_le _ _ (by decide +kernel)); (case j2 => exact wrL_le _ _ (by decide +kernel)); (((((((case B => k_asm); (case F => k_asm); (case X => k_asm); (case N => k_asm); (case T => k_asm); (case hk => exact rfl); (case hd => omega); (case hu => omega)))); (case hT => (first | assumption | omega | ((try dsimp only); omega) | ((try dsimp only at *); omega))); (intro _ _ _ _ _ _; (try dsimp only); (try k_sweep))))))) | (((with_reducible show wpAny _ _ (call (Value.ref 256) [Value.int _ _, Value.str _ _]) _ _ _); (refine' ConT.use_tok (written_c _ _ _ _ (len_lit8 _ (by decide +kernel)) _) ?B ?F ?X ?N ?T ?hk ?hd ?hu ?hT ?_); (((((((case B => k_asm); (case F => k_asm); (case X => k_asm); (case N => k_asm); (case T => k_asm); (case hk => exact rfl); (case hd => omega); (case hu => omega)))); (case hT => (first | assumption | omega | ((try dsimp only); omega) | ((try dsimp only at *); omega))); (intro _ _ _ _ _ _; (try dsimp only); (try k_sweep)))))))) | walk1 | (dsimp only; walk1)))
  · try unfold Stop
    rename Fr _ _ _ _ => F9
    rename News _ _ _ _ => N9
    rename StrsAre _ _ => S9
    rename_i HP h4 l11 h3 vsH kH tH h2 tk1 TD h1' l1 h''
    refine for_list (toldJ cp k ds Inv (siftup [joinS (Str.ofString "/") [wrS k (Str.ofString "a<"), wrS k (Str.ofString "&")], joinS (Str.ofString "/") [wrS k (Str.ofString "a"), wrS k (Str.ofString "\"")]]) TD HP ((DR, listOf dv.toArray kd) :: led)) rfl F9 N9 (List.Mem.tail _ (List.Mem.tail _ (List.Mem.head _))) ?j0 ?jk ?turn ?done
    case j0 => intro I _; exact ⟨_, _, _, [], 0, [], _, S9, .nil, ⟨rfl, rfl⟩, hI0, by simp, rfl, m_cov1 _ rfl⟩
    case jk => rintro I i m' led' ⟨vs, k', xs, ts, kt, txs, co, _, _, _, _, _, rfl, _⟩; exact List.Mem.tail _ (List.Mem.tail _ (List.Mem.head _))
    case turn =>
      rintro I i v m₁ led' h tk o hv ⟨vs, k', xs, ts, kt, txs, co, hs, hts, hrun, hinv, hlen, rfl, rfl⟩ hneI F2 N2
      (revert F2; apply hide1 v; intro P9 b9); obtain ⟨x, tx, hx, rfl⟩ := intsAre_get hdv hv; refine b9 _ ?_; clear b9 P9; intro F2
      clear N9 F9
      (repeat' (first | ((with_reducible show wpAny _ _ (call (Value.ref _) _) _ _ _); first | (((with_reducible show wpAny _ _ (call (Value.ref 214) [Value.ref _]) _ _ _); (refine' Con.use_heap (heappop'_c _ _ _ _ _ ?s ?p9 ?l ?n) ?B ?F ?X ?N ?T ?hk ?hd ?hu ?_); ((((case n => assumption); (case s => assumption); (case B => k_asm); (case F => k_asm); (case X => k_asm); (case N => (refine' news_sub ?N0 ?S0; (case N0 => assumption); (case S0 => (intro _ _; k_ownIn)))); (case T => k_asm); (case hk => exact rfl); (case hd => omega); (case hu => omega)))); (case p9 => omega); (case l => omega); intro _ _ _ _ _ hs' _ _; (have hv' := hs'.length); (try dsimp only); (try k_sweep))) | (((with_reducible show wpAny _ _ (call (Value.ref 235) [Value.ref _]) _ _ _); (refine' Con.use_heap (heapify_c _ _ _ _ _ _ _ ?n) ?B ?F ?X ?N ?T ?hk ?hd ?hu ?_); (case B => k_asm); (case F => k_asm); (case X => k_asm); (case T => k_asm); (case hk => exact rfl); (case hd => omega); (case hu => omega); (case N => assumption); (case n => k_all); intro _ _ _ _ _ _ _ _; (try dsimp only); (try k_sweep))) | (((with_reducible show wpAny _ _ (call (Value.ref 171) [Value.str _ _, Value.str _ _, Value.str _ _]) _ _ _); (refine' ConT.use_tok (Con.toT (join_c _ _ [Value.str _ _, Value.str _ _] [_, _] (.cons _ _ (.cons _ _ .nil)) (.inr (.inl rfl)) ?jx (all2 ?j1 ?j2) _)) ?B ?F ?X ?N ?T ?hk ?hd ?hu ?hT ?_); (case jx => first | omega | decide +kernel); (case j1 => exact wrL_le _ _ (by decide +kernel)); (case j2 => exact wrL_le _ _ (by decide +kernel)); (((((((case B => k_asm); (case F => k_asm); (case X => k_asm); (case N => k_asm); (case T => k_asm); (case hk => exact rfl); (case hd => omega); (case hu => omega)))); (case hT => (first | assumption | omega | ((try dsimp only); omega) | ((try dsimp only at *); omega))); (intro _ _ _ _ _ _; (try dsimp only); (try k_sweep))))))) | (((with_reducible show wpAny _ _ (call (Value.ref 256) [Value.int _ _, Value.str _ _]) _ _ _); (refine' ConT.use_tok (written_c _ _ _ _ (len_lit8 _ (by decide +kernel)) _) ?B ?F ?X ?N ?T ?hk ?hd ?hu ?hT ?_); (((((((case B => k_asm); (case F => k_asm); (case X => k_asm); (case N => k_asm); (case T => k_asm); (case hk => exact rfl); (case hd => omega); (case hu => omega)))); (case hT => (first | assumption | omega | ((try dsimp only); omega) | ((try dsimp only at *); omega))); (intro _ _ _ _ _ _; (try dsimp only); (try k_sweep)))))))) | walk1 | (dsimp only; walk1)))
      have hok := (hI i x xs hx hinv).1
      have hstep := (hI i x xs hx hinv).2
      have hxs9 := hIl i xs hinv
      have hi9 : i < dv.length := (List.getElem?_eq_some_iff.mp hv).1
      have q1 : TD ≠ I := hneI _ (.head _)
      have q2 : HP ≠ I := hneI _ (.tail _ (.head _))
      have q3 : ∀ p ∈ (DR, listOf dv.toArray kd) :: led, p.1 ≠ I := fun p hp => hneI p (.tail _ (.tail _ hp))
      have q4 : HP ≠ TD := Nat.ne_of_lt l1.1
      have q5 : ∀ p ∈ (DR, listOf dv.toArray kd) :: led, p.1 ≠ TD := List.forall_mem_cons.mpr ⟨Nat.ne_of_lt l1.2.1, allLt_ne l1.2.2⟩
      have q6 : ∀ p ∈ (DR, listOf dv.toArray kd) :: led, p.1 ≠ HP := List.forall_mem_cons.mpr ⟨Nat.ne_of_lt l11.1, allLt_ne l11.2⟩
      (show wpAny _ _ (call (Value.ref 277) [Value.ref HP, Value.int k _, Value.int x _]) _ _ _)
      refine' deed_use (led := (I, o) :: (TD, listOf ts.toArray kt) :: (DR, listOf dv.toArray kd) :: led) (vs := vs) (c := k') hs hok ?hne ?B ?F ?X ?N ?T ?hk ?hd ?hu ?_
      case hne => exact List.forall_mem_cons.mpr ⟨q2.symm, List.forall_mem_cons.mpr ⟨q4.symm, q6⟩⟩
      case B => k_asm
      case F => k_asm
      case X => k_asm
      case N =>
        refine' news_sub ?N0 ?S0
        case N0 => assumption
        case S0 =>
          intro p hp
          simp only [List.mem_cons] at hp ⊢
          rcases hp with e | e | e | e | e <;> simp [e]
      case T => k_asm
      case hk => exact rfl
      case hd => omega
      case hu => omega
      intro y ty vs' k2 xs' h' tk' hs' hr F3 N3
      have N4 : News _ _ h' ((TD, listOf ts.toArray kt) :: (HP, listOf vs'.toArray k2) :: (I, o) :: (DR, listOf dv.toArray kd) :: led) := news_sub N3 (by
        intro p hp
        simp only [List.mem_cons] at hp ⊢
        rcases hp with e | e | e | e | e <;> simp [e])
      clear N3 N2
      have q7 : ∀ p ∈ (HP, listOf vs'.toArray k2) :: (I, o) :: (DR, listOf dv.toArray kd) :: led, p.1 ≠ TD := List.forall_mem_cons.mpr ⟨q4, List.forall_mem_cons.mpr ⟨q1.symm, q5⟩⟩
      have hx9' := hIl _ _ (hstep _ _ hr)
      have hv9' : vs'.length = xs'.length := hs'.length
      have ht9' : ts.length = txs.length := hts.length
      try dsimp only
      (repeat' (first | ((with_reducible show wpAny _ _ (call (Value.ref _) _) _ _ _); first | (((with_reducible show wpAny _ _ (call (Value.ref 214) [Value.ref _]) _ _ _); (refine' Con.use_heap (heappop'_c _ _ _ _ _ ?s ?p9 ?l ?n) ?B ?F ?X ?N ?T ?hk ?hd ?hu ?_); ((((case n => assumption); (case s => assumption); (case B => k_asm); (case F => k_asm); (case X => k_asm); (case N => (refine' news_sub ?N0 ?S0; (case N0 => assumption); (case S0 => (intro _ _; k_ownIn)))); (case T => k_asm); (case hk => exact rfl); (case hd => omega); (case hu => omega)))); (case p9 => omega); (case l => omega); intro _ _ _ _ _ hs' _ _; (have hv' := hs'.length); (try dsimp only); (try k_sweep))) | (((with_reducible show wpAny _ _ (call (Value.ref 235) [Value.ref _]) _ _ _); (refine' Con.use_heap (heapify_c _ _ _ _ _ _ _ ?n) ?B ?F ?X ?N ?T ?hk ?hd ?hu ?_); (case B => k_asm); (case F => k_asm); (case X => k_asm); (case T => k_asm); (case hk => exact rfl); (case hd => omega); (case hu => omega); (case N => assumption); (case n => k_all); intro _ _ _ _ _ _ _ _; (try dsimp only); (try k_sweep))) | (((with_reducible show wpAny _ _ (call (Value.ref 171) [Value.str _ _, Value.str _ _, Value.str _ _]) _ _ _); (refine' ConT.use_tok (Con.toT (join_c _ _ [Value.str _ _, Value.str _ _] [_, _] (.cons _ _ (.cons _ _ .nil)) (.inr (.inl rfl)) ?jx (all2 ?j1 ?j2) _)) ?B ?F ?X ?N ?T ?hk ?hd ?hu ?hT ?_); (case jx => first | omega | decide +kernel); (case j1 => exact wrL_le _ _ (by decide +kernel)); (case j2 => exact wrL_le _ _ (by decide +kernel)); (((((((case B => k_asm); (case F => k_asm); (case X => k_asm); (case N => k_asm); (case T => k_asm); (case hk => exact rfl); (case hd => omega); (case hu => omega)))); (case hT => (first | assumption | omega | ((try dsimp only); omega) | ((try dsimp only at *); omega))); (intro _ _ _ _ _ _; (try dsimp only); (try k_sweep))))))) | (((with_reducible show wpAny _ _ (call (Value.ref 256) [Value.int _ _, Value.str _ _]) _ _ _); (refine' ConT.use_tok (written_c _ _ _ _ (len_lit8 _ (by decide +kernel)) _) ?B ?F ?X ?N ?T ?hk ?hd ?hu ?hT ?_); (((((((case B => k_asm); (case F => k_asm); (case X => k_asm); (case N => k_asm); (case T => k_asm); (case hk => exact rfl); (case hd => omega); (case hu => omega)))); (case hT => (first | assumption | omega | ((try dsimp only); omega) | ((try dsimp only at *); omega))); (intro _ _ _ _ _ _; (try dsimp only); (try k_sweep)))))))) | walk1 | (dsimp only; walk1)))
      (show wpAny _ _ (call (Value.builtin "list.extend") [Value.ref TD, Value.ref _]) _ _ _)
      (refine' extend_list ?F ?N ?b ?nw ?U ?hf ?_); (case F => assumption); (case N => assumption)
      (case U => (intro n'; refine Upd.tail ?_ (Upd.head ?_); k_ne; assumption))
      (case b => walk_at "INN")
      (case hf => (simp only [List.length_append, List.length_cons, List.length_nil, List.length_take] at *; omega))
      intro n9 h9 F9 N9
      (try dsimp only)
      (repeat' (first | ((with_reducible show wpAny _ _ (call (Value.ref _) _) _ _ _); first | (((with_reducible show wpAny _ _ (call (Value.ref 214) [Value.ref _]) _ _ _); (refine' Con.use_heap (heappop'_c _ _ _ _ _ ?s ?p9 ?l ?n) ?B ?F ?X ?N ?T ?hk ?hd ?hu ?_); ((((case n => assumption); (case s => assumption); (case B => k_asm); (case F => k_asm); (case X => k_asm); (case N => (refine' news_sub ?N0 ?S0; (case N0 => assumption); (case S0 => (intro _ _; k_ownIn)))); (case T => k_asm); (case hk => exact rfl); (case hd => omega); (case hu => omega)))); (case p9 => omega); (case l => omega); intro _ _ _ _ _ hs' _ _; (have hv' := hs'.length); (try dsimp only); (try k_sweep))) | (((with_reducible show wpAny _ _ (call (Value.ref 235) [Value.ref _]) _ _ _); (refine' Con.use_heap (heapify_c _ _ _ _ _ _ _ ?n) ?B ?F ?X ?N ?T ?hk ?hd ?hu ?_); (case B => k_asm); (case F => k_asm); (case X => k_asm); (case T => k_asm); (case hk => exact rfl); (case hd => omega); (case hu => omega); (case N => assumption); (case n => k_all); intro _ _ _ _ _ _ _ _; (try dsimp only); (try k_sweep))) | (((with_reducible show wpAny _ _ (call (Value.ref 171) [Value.str _ _, Value.str _ _, Value.str _ _]) _ _ _); (refine' ConT.use_tok (Con.toT (join_c _ _ [Value.str _ _, Value.str _ _] [_, _] (.cons _ _ (.cons _ _ .nil)) (.inr (.inl rfl)) ?jx (all2 ?j1 ?j2) _)) ?B ?F ?X ?N ?T ?hk ?hd ?hu ?hT ?_); (case jx => first | omega | decide +kernel); (case j1 => exact wrL_le _ _ (by decide +kernel)); (case j2 => exact wrL_le _ _ (by decide +kernel)); (((((((case B => k_asm); (case F => k_asm); (case X => k_asm); (case N => k_asm); (case T => k_asm); (case hk => exact rfl); (case hd => omega); (case hu => omega)))); (case hT => (first | assumption | omega | ((try dsimp only); omega) | ((try dsimp only at *); omega))); (intro _ _ _ _ _ _; (try dsimp only); (try k_sweep))))))) | (((with_reducible show wpAny _ _ (call (Value.ref 256) [Value.int _ _, Value.str _ _]) _ _ _); (refine' ConT.use_tok (written_c _ _ _ _ (len_lit8 _ (by decide +kernel)) _) ?B ?F ?X ?N ?T ?hk ?hd ?hu ?hT ?_); (((((((case B => k_asm); (case F => k_asm); (case X => k_asm); (case N => k_asm); (case T => k_asm); (case hk => exact rfl); (case hd => omega); (case hu => omega)))); (case hT => (first | assumption | omega | ((try dsimp only); omega) | ((try dsimp only at *); omega))); (intro _ _ _ _ _ _; (try dsimp only); (try k_sweep)))))))) | walk1 | (dsimp only; walk1)))
      rename StrsAre (_ ++ _) (_ ++ _) => hs9
      (((try dsimp only); first | ((with_reducible refine' turn_mk ?F ?N ?_); (case F => assumption); (case N => assumption)) | ((with_reducible refine' turn_mkC ?F ?N ?_); (case F => assumption); (case N => assumption))))
      refine ⟨(TD, listOf (ts ++ [Value.str y ty] ++ vs'.take 1).toArray n9) :: (HP, listOf vs'.toArray k2) :: (DR, listOf dv.toArray kd) :: led, ⟨vs', k2, xs', _, n9, _, _, hs', StrsAre.append' hs9 (strs_take hs' 1), ?_, (hstep _ _ hr), ?_, rfl, m_keep1 _ rfl (by intro y h1; simp [h1])⟩, ?_, ?_⟩
      · rw [List.take_succ, hx]
        exact hrun.snoc hr
      · simp only [List.length_append, List.length_cons, List.length_nil, List.length_take]; omega
      · intro p hp
        simp only [List.mem_cons] at hp ⊢
        rcases hp with e | e | e | e <;> simp [e]
      · exact List.forall_mem_cons.mpr ⟨q1, List.forall_mem_cons.mpr ⟨q2, q3⟩⟩
    case done =>
      rintro I m₁ led' h tk ⟨vs, k', xs, ts, kt, txs, co, hs, hts, hrun, hinv, hlen, rfl, rfl⟩ F2 N2
      clear N9 F9
      have q4 : HP ≠ TD := Nat.ne_of_lt l1.1
      have q5 : ∀ p ∈ (DR, listOf dv.toArray kd) :: led, p.1 ≠ TD := List.forall_mem_cons.mpr ⟨Nat.ne_of_lt l1.2.1, allLt_ne l1.2.2⟩
      have q6 : ∀ p ∈ (DR, listOf dv.toArray kd) :: led, p.1 ≠ HP := List.forall_mem_cons.mpr ⟨Nat.ne_of_lt l11.1, allLt_ne l11.2⟩
      (repeat' (first | ((with_reducible show wpAny _ _ (call (Value.ref _) _) _ _ _); first | (((with_reducible show wpAny _ _ (call (Value.ref 214) [Value.ref _]) _ _ _); (refine' Con.use_heap (heappop'_c _ _ _ _ _ ?s ?p9 ?l ?n) ?B ?F ?X ?N ?T ?hk ?hd ?hu ?_); ((((case n => assumption); (case s => assumption); (case B => k_asm); (case F => k_asm); (case X => k_asm); (case N => (refine' news_sub ?N0 ?S0; (case N0 => assumption); (case S0 => (intro _ _; k_ownIn)))); (case T => k_asm); (case hk => exact rfl); (case hd => omega); (case hu => omega)))); (case p9 => omega); (case l => omega); intro _ _ _ _ _ hs' _ _; (have hv' := hs'.length); (try dsimp only); (try k_sweep))) | (((with_reducible show wpAny _ _ (call (Value.ref 235) [Value.ref _]) _ _ _); (refine' Con.use_heap (heapify_c _ _ _ _ _ _ _ ?n) ?B ?F ?X ?N ?T ?hk ?hd ?hu ?_); (case B => k_asm); (case F => k_asm); (case X => k_asm); (case T => k_asm); (case hk => exact rfl); (case hd => omega); (case hu => omega); (case N => assumption); (case n => k_all); intro _ _ _ _ _ _ _ _; (try dsimp only); (try k_sweep))) | (((with_reducible show wpAny _ _ (call (Value.ref 171) [Value.str _ _, Value.str _ _, Value.str _ _]) _ _ _); (refine' ConT.use_tok (Con.toT (join_c _ _ [Value.str _ _, Value.str _ _] [_, _] (.cons _ _ (.cons _ _ .nil)) (.inr (.inl rfl)) ?jx (all2 ?j1 ?j2) _)) ?B ?F ?X ?N ?T ?hk ?hd ?hu ?hT ?_); (case jx => first | omega | decide +kernel); (case j1 => exact wrL_le _ _ (by decide +kernel)); (case j2 => exact wrL_le _ _ (by decide +kernel)); (((((((case B => k_asm); (case F => k_asm); (case X => k_asm); (case N => k_asm); (case T => k_asm); (case hk => exact rfl); (case hd => omega); (case hu => omega)))); (case hT => (first | assumption | omega | ((try dsimp only); omega) | ((try dsimp only at *); omega))); (intro _ _ _ _ _ _; (try dsimp only); (try k_sweep))))))) | (((with_reducible show wpAny _ _ (call (Value.ref 256) [Value.int _ _, Value.str _ _]) _ _ _); (refine' ConT.use_tok (written_c _ _ _ _ (len_lit8 _ (by decide +kernel)) _) ?B ?F ?X ?N ?T ?hk ?hd ?hu ?hT ?_); (((((((case B => k_asm); (case F => k_asm); (case X => k_asm); (case N => k_asm); (case T => k_asm); (case hk => exact rfl); (case hd => omega); (case hu => omega)))); (case hT => (first | assumption | omega | ((try dsimp only); omega) | ((try dsimp only at *); omega))); (intro _ _ _ _ _ _; (try dsimp only); (try k_sweep)))))))) | walk1 | (dsimp only; walk1)))
      try unfold Stop
      rename Fr _ _ _ _ => F3
      rename News _ _ _ _ => N3
      refine while_inv (drainJ xs txs TD HP ((DR, listOf dv.toArray kd) :: led)) (n₀ := xs.length) F3 N3 ?j0 ?turn
      case j0 => exact ⟨vs, k', xs, ts, kt, txs, hs, hts, .refl, rfl, rfl, rfl⟩
      case turn =>
        rintro n m₁ led₁ h₁ tk₁ F4 N4 ⟨vs1, k1, xs1, ts1, kt1, txs1, hs1, hts1, hdr, rfl, rfl, rfl⟩
        clear F3 N3
        have hv1 : vs1.length = xs1.length := hs1.length
        have q8 : ∀ p ∈ (TD, listOf ts1.toArray kt1) :: (DR, listOf dv.toArray kd) :: led, p.1 ≠ HP := List.forall_mem_cons.mpr ⟨q4.symm, q6⟩
        have hd1 := hdr.len
        have hxs9 := hIl _ xs hinv
        (repeat' (first | ((with_reducible show wpAny _ _ (call (Value.ref _) _) _ _ _); first | (((with_reducible show wpAny _ _ (call (Value.ref 214) [Value.ref _]) _ _ _); (refine' Con.use_heap (heappop'_c _ _ _ _ _ ?s ?p9 ?l ?n) ?B ?F ?X ?N ?T ?hk ?hd ?hu ?_); ((((case n => assumption); (case s => assumption); (case B => k_asm); (case F => k_asm); (case X => k_asm); (case N => (refine' news_sub ?N0 ?S0; (case N0 => assumption); (case S0 => (intro _ _; k_ownIn)))); (case T => k_asm); (case hk => exact rfl); (case hd => omega); (case hu => omega)))); (case p9 => omega); (case l => omega); intro _ _ _ _ _ hs' _ _; (have hv' := hs'.length); (try dsimp only); (try k_sweep))) | (((with_reducible show wpAny _ _ (call (Value.ref 235) [Value.ref _]) _ _ _); (refine' Con.use_heap (heapify_c _ _ _ _ _ _ _ ?n) ?B ?F ?X ?N ?T ?hk ?hd ?hu ?_); (case B => k_asm); (case F => k_asm); (case X => k_asm); (case T => k_asm); (case hk => exact rfl); (case hd => omega); (case hu => omega); (case N => assumption); (case n => k_all); intro _ _ _ _ _ _ _ _; (try dsimp only); (try k_sweep))) | (((with_reducible show wpAny _ _ (call (Value.ref 171) [Value.str _ _, Value.str _ _, Value.str _ _]) _ _ _); (refine' ConT.use_tok (Con.toT (join_c _ _ [Value.str _ _, Value.str _ _] [_, _] (.cons _ _ (.cons _ _ .nil)) (.inr (.inl rfl)) ?jx (all2 ?j1 ?j2) _)) ?B ?F ?X ?N ?T ?hk ?hd ?hu ?hT ?_); (case jx => first | omega | decide +kernel); (case j1 => exact wrL_le _ _ (by decide +kernel)); (case j2 => exact wrL_le _ _ (by decide +kernel)); (((((((case B => k_asm); (case F => k_asm); (case X => k_asm); (case N => k_asm); (case T => k_asm); (case hk => exact rfl); (case hd => omega); (case hu => omega)))); (case hT => (first | assumption | omega | ((try dsimp only); omega) | ((try dsimp only at *); omega))); (intro _ _ _ _ _ _; (try dsimp only); (try k_sweep))))))) | (((with_reducible show wpAny _ _ (call (Value.ref 256) [Value.int _ _, Value.str _ _]) _ _ _); (refine' ConT.use_tok (written_c _ _ _ _ (len_lit8 _ (by decide +kernel)) _) ?B ?F ?X ?N ?T ?hk ?hd ?hu ?hT ?_); (((((((case B => k_asm); (case F => k_asm); (case X => k_asm); (case N => k_asm); (case T => k_asm); (case hk => exact rfl); (case hd => omega); (case hu => omega)))); (case hT => (first | assumption | omega | ((try dsimp only); omega) | ((try dsimp only at *); omega))); (intro _ _ _ _ _ _; (try dsimp only); (try k_sweep)))))))) | walk1 | (dsimp only; walk1)))
        · have e0 : xs1 = [] := List.eq_nil_of_length_eq_zero (by omega)
          subst e0
          (((try dsimp only); (refine' Ends.intro ?_ ?F ?N ?_); (case F => assumption); (case N => assumption); rotate_left))
          · refine imp9 _ _ ⟨TD, HP, ts1, kt1, vs1, k1, xs, txs, txs1, rfl, hts1, ?_, hdr, rfl, l1.2⟩
            have e9 : ds.take dv.length = ds := List.take_of_length_le (by rw [hdv.length]; exact Nat.le_refl _)
            rw [e9] at hrun
            exact hrun
          · intro p hp
            exact .tail _ hp
        · have hx1 : 0 < xs1.length := by omega
          refine' Con.use_heap (heappop'_c HP vs1 xs1 k1 ((TD, listOf ts1.toArray kt1) :: (DR, listOf dv.toArray kd) :: led) hs1 hx1 (by omega) q8) ?B ?F ?X ?N ?T ?hk ?hd ?hu ?_
          case B => k_asm
          case F => k_asm
          case X => k_asm
          case N =>
            refine' news_sub ?N0 ?S0
            case N0 => assumption
            case S0 =>
              intro p hp
              simp only [List.mem_cons] at hp ⊢
              rcases hp with e | e | e | e <;> simp [e]
          case T => k_asm
          case hk => exact rfl
          case hd => omega
          case hu => omega
          intro vs' k2 t2 h' tk' hs' F3 N3
          have N5 : News _ _ h' ((TD, listOf ts1.toArray kt1) :: (HP, listOf vs'.toArray k2) :: (DR, listOf dv.toArray kd) :: led) := news_sub N3 (by
            intro p hp
            simp only [List.mem_cons] at hp ⊢
            rcases hp with e | e | e | e <;> simp [e])
          clear N3
          have q7 : ∀ p ∈ (HP, listOf vs'.toArray k2) :: (DR, listOf dv.toArray kd) :: led, p.1 ≠ TD := List.forall_mem_cons.mpr ⟨q4, q5⟩
          try dsimp only
          (repeat' (first | ((with_reducible show wpAny _ _ (call (Value.ref _) _) _ _ _); first | (((with_reducible show wpAny _ _ (call (Value.ref 214) [Value.ref _]) _ _ _); (refine' Con.use_heap (heappop'_c _ _ _ _ _ ?s ?p9 ?l ?n) ?B ?F ?X ?N ?T ?hk ?hd ?hu ?_); ((((case n => assumption); (case s => assumption); (case B => k_asm); (case F => k_asm); (case X => k_asm); (case N => (refine' news_sub ?N0 ?S0; (case N0 => assumption); (case S0 => (intro _ _; k_ownIn)))); (case T => k_asm); (case hk => exact rfl); (case hd => omega); (case hu => omega)))); (case p9 => omega); (case l => omega); intro _ _ _ _ _ hs' _ _; (have hv' := hs'.length); (try dsimp only); (try k_sweep))) | (((with_reducible show wpAny _ _ (call (Value.ref 235) [Value.ref _]) _ _ _); (refine' Con.use_heap (heapify_c _ _ _ _ _ _ _ ?n) ?B ?F ?X ?N ?T ?hk ?hd ?hu ?_); (case B => k_asm); (case F => k_asm); (case X => k_asm); (case T => k_asm); (case hk => exact rfl); (case hd => omega); (case hu => omega); (case N => assumption); (case n => k_all); intro _ _ _ _ _ _ _ _; (try dsimp only); (try k_sweep))) | (((with_reducible show wpAny _ _ (call (Value.ref 171) [Value.str _ _, Value.str _ _, Value.str _ _]) _ _ _); (refine' ConT.use_tok (Con.toT (join_c _ _ [Value.str _ _, Value.str _ _] [_, _] (.cons _ _ (.cons _ _ .nil)) (.inr (.inl rfl)) ?jx (all2 ?j1 ?j2) _)) ?B ?F ?X ?N ?T ?hk ?hd ?hu ?hT ?_); (case jx => first | omega | decide +kernel); (case j1 => exact wrL_le _ _ (by decide +kernel)); (case j2 => exact wrL_le _ _ (by decide +kernel)); (((((((case B => k_asm); (case F => k_asm); (case X => k_asm); (case N => k_asm); (case T => k_asm); (case hk => exact rfl); (case hd => omega); (case hu => omega)))); (case hT => (first | assumption | omega | ((try dsimp only); omega) | ((try dsimp only at *); omega))); (intro _ _ _ _ _ _; (try dsimp only); (try k_sweep))))))) | (((with_reducible show wpAny _ _ (call (Value.ref 256) [Value.int _ _, Value.str _ _]) _ _ _); (refine' ConT.use_tok (written_c _ _ _ _ (len_lit8 _ (by decide +kernel)) _) ?B ?F ?X ?N ?T ?hk ?hd ?hu ?hT ?_); (((((((case B => k_asm); (case F => k_asm); (case X => k_asm); (case N => k_asm); (case T => k_asm); (case hk => exact rfl); (case hd => omega); (case hu => omega)))); (case hT => (first | assumption | omega | ((try dsimp only); omega) | ((try dsimp only at *); omega))); (intro _ _ _ _ _ _; (try dsimp only); (try k_sweep)))))))) | walk1 | (dsimp only; walk1)))
          rename StrsAre (_ ++ _) (_ ++ _) => hs9
          (((try dsimp only); first | ((with_reducible refine' wstep_next ?F ?N ?_); (case F => assumption); (case N => assumption)) | ((with_reducible refine' wstep_cont ?F ?N ?_); (case F => assumption); (case N => assumption))))
          refine ⟨(popL xs1).length, (TD, listOf (List.toArray (ts1 ++ [Value.str (xs1.getD 0 Str.empty) t2])) (kt1 + 1)) :: (HP, listOf (List.toArray vs') k2) :: (DR, listOf dv.toArray kd) :: led, ⟨vs', k2, popL xs1, ts1 ++ [Value.str (xs1.getD 0 Str.empty) t2], kt1 + 1, txs1 ++ [xs1.getD 0 Str.empty], hs', hs9, DrR.step hdr hx1, rfl, rfl, rfl⟩, by rw [popL_len]; omega, fun p hp => hp⟩
end SC14
example : True := by
  w_top off
  first
    | walk1
    | trivial
end GB
example : True := by
  w_top off
  first
    | walk1
    | trivial
end LB
end LL
example : True := by
  w_top off
  first
    | walk1
    | trivial
section SC15
noncomputable def tabL (k : Int) : List (Str × Str) :=
  if k = 0 then [(Str.ofString "&", Str.ofString "&amp;"), (Str.ofString "<", Str.ofString "&lt;"), (Str.ofString ">", Str.ofString "&gt;")]
  else if k = 1 then [(Str.ofString "&", Str.ofString "&amp;"), (Str.ofString "<", Str.ofString "&lt;"), (Str.ofString ">", Str.ofString "&gt;"), (Str.ofString "\"", Str.ofString "&quot;"), (Str.ofString "\t", Str.ofString "&#09;"), (Str.ofString "\r", Str.ofString "&#13;")]
  else if k = 2 then [(Str.ofString "&", Str.ofString "&amp;"), (Str.ofString ">", Str.ofString "&gt;"), (Str.ofString "\"", Str.ofString "&quot;")]
  else if k = 3 then [(Str.ofString "&", Str.ofString "&amp;"), (Str.ofString "<", Str.ofString "&lt;"), (Str.ofString ">", Str.ofString "&gt;"), (Str.ofString "\r", Str.ofString "&#xD;")]
  else [(Str.ofString "&", Str.ofString "&amp;"), (Str.ofString "<", Str.ofString "&lt;"), (Str.ofString "\"", Str.ofString "&quot;"), (Str.ofString "\t", Str.ofString "&#x9;"), (Str.ofString "\r", Str.ofString "&#xD;")]
noncomputable def KvOf : List (Str × Value) → List (Str × Str) → Prop
  | [], [] => True
  | (x, v) :: r, (y, z) :: r' => x = y ∧ (∃ t, v = .str z t) ∧ KvOf r r'
  | _, _ => False
noncomputable def TabO (w : World) (k : Int) (o : Obj) : Prop := ∃ kvs, o.IsDictOf (PySem.strKind pg w) kvs ∧ KvOf kvs (tabL k)
noncomputable def tabG (l : List (Str × Str)) (x : Str) : Option Str := l.lookup x
theorem kvOf_at : ∀ {kvs : List (Str × Value)} {l : List (Str × Str)}, KvOf kvs l → ∀ x, (valueAt kvs x = none ∧ tabG l x = none) ∨ ∃ z t, valueAt kvs x = some (.str z t) ∧ tabG l x = some z
  | [], [], _, x => .inl ⟨rfl, rfl⟩
  | [], _ :: _, h, _ => h.elim
  | (_, _) :: _, [], h, _ => h.elim
  | (y, v) :: r, (y', z) :: r', h, x => by
    obtain ⟨rfl, ⟨t, rfl⟩, hr⟩ := h
    by_cases e : x = y
    · subst e
      right
      exact ⟨z, t, by simp [valueAt], by simp [tabG]⟩
    · have e2 : (x == y) = false := by simpa using e
      have := kvOf_at hr x
      simpa [valueAt, tabG, List.lookup, e2, e, Ne.symm e] using this
section
variable {A : Around} {E : Value → Shared → Prop} {s : Shared} {h₀ : Heap} {L T : Addr} {m : Str → Option Value} {news : Led} {k : Int} {o : Obj} {x : Str} {t t' : Tok} {Q : Value → Shared → Prop}
theorem in_tab (N : News h₀ L s.heap news) (hm : (T, o) ∈ news) (ho : TabO w k o) (hT : (T == sysModules) = false) (h : Q (.bool (tabG (tabL k) x).isSome) { s with toks := s.toks + 1 }) : wpAny (model pg w) A (compareOp .In (.str x t) (.ref T)) Q E s := by
  obtain ⟨kvs, hd, hk⟩ := ho
  have hdo : s.heap.DictOf (PySem.strKind pg w) T kvs := Heap.dictOf_iff.mpr ⟨o, (N _ hm).1, hd⟩
  refine wpAny_in_of (strKind_is pg w x t) hT hdo.mapOf ?_
  rcases kvOf_at hk x with ⟨e1, e2⟩ | ⟨z, u, e1, e2⟩
  · rw [e1]; rw [e2] at h; exact h
  · rw [e1]; rw [e2] at h; exact h
theorem get_tab (N : News h₀ L s.heap news) (hm : (T, o) ∈ news) (ho : TabO w k o) (hT : (T == sysModules) = false) (h : ∀ u, Q (.str ((tabG (tabL k) x).getD x) u) { s with toks := s.toks + 1 }) :
    wpAny (model pg w) A (call (.builtin "dict.get") [.ref T, .str x t, .str x t']) Q E s := by
  obtain ⟨kvs, hd, hk⟩ := ho
  have hdo : s.heap.DictOf (PySem.strKind pg w) T kvs := Heap.dictOf_iff.mpr ⟨o, (N _ hm).1, hd⟩
  refine call_meetsIn PySem.F.slot_dict_get hdo.mapOf.typeIs PySem.F.entry_dict_get (PySem.F.args_dict_get_3 _ _ _) (meets_dict_get_default (PySem.strKind pg w) T (strKind_is pg w x t) hT _) ⟨_, hdo.mapOf, ?_⟩
  rcases kvOf_at hk x with ⟨e1, e2⟩ | ⟨z, u, e1, e2⟩
  · rw [e1]; have := h t'; rw [e2] at this; exact this
  · rw [e1]; have := h u; rw [e2] at this; exact this
end
inductive TabPost (w : World) (k : Int) (led : Led) (r : Value) (led' : Led) : Prop
  | mk (T : Addr) (o : Obj) (er : r = .ref T) (t : TabO w k o) (hs : (T == sysModules) = false) (el : led' = (T, o) :: led) (l : ∀ p ∈ led, p.1 < T)
theorem table_c (k : Int) (u : Tok) (led : Led) : Con w mean mg mb 263 [.int k u] led 1 60 (TabPost w k led) := by
  refine Con.gen fun P9 imp9 => ?_
  refine' Con.body (binds := [(Str.ofString "kind", .int k u)]) ?ho ?hcd ?hbind ?hloc ?hD ?_ ?c2 ?c3 ?c4 ?c5
  ((((((case ho => k_is); (case hcd => k_is); (case hbind => exact rfl); (case hloc => exact rfl); (case hD => decide); (case c2 => exact rfl); (case c3 => exact rfl); (case c4 => exact rfl); (case c5 => decide)))); intro _ _ _ _ _ _ _ _ _ _ _ _ _ _ _ _))
  (repeat' (first | walk1 | (dsimp only; walk1)))
  all_goals (
    rename Obj.IsDictOf _ _ _ => hdd
    rename (_ == sysModules) = false => hlo
    ((((try dsimp only); (refine' Ends.intro ?_ ?F ?N ?S); (case F => assumption); (case N => assumption); (case S => exact fun p h => h))))
    refine imp9 _ _ ⟨_, _, rfl, ⟨_, hdd, ?_⟩, hlo, rfl, by assumption⟩
    simp only [tabL, *]
    repeat' (first | exact trivial | refine ⟨rfl, ⟨_, rfl⟩, ?_⟩))
end SC15
example : True := by
  w_top off
  first
    | walk1
    | trivial
section SC16
/-- the signs in their order -/
noncomputable def SG : Str := Str.ofString "\t\r&><\""
/-- what a sign stands as -/
noncomputable def keyOf (k : Int) (c : Nat) : Pair := if (tabG (tabL k) ⟨#[c]⟩).isSome = true then (38, Txt.find SG ⟨#[c]⟩) else ((c : Int), 0)
noncomputable def pathS (ns : List Str) : Str := Str.ofString "/" ++ Str.join (Str.ofString "/") ns
noncomputable def rowOf (k : Int) (ns : List Str) : List Pair := (pathS ns).cps.toList.map (keyOf k)
noncomputable def placeOf (k : Int) (ns : List Str) : Place := (rowOf k ns, ns)
theorem tabG_in {k : Int} {x : Str} (h : (tabG (tabL k) x).isSome = true) : x ∈ [Str.ofString "\t", Str.ofString "\r", Str.ofString "&", Str.ofString ">", Str.ofString "<", Str.ofString "\""] := by
  have key : ∀ l : List (Str × Str), (∀ p ∈ l, p.1 ∈ [Str.ofString "\t", Str.ofString "\r", Str.ofString "&", Str.ofString ">", Str.ofString "<", Str.ofString "\""]) → (tabG l x).isSome = true → x ∈ [Str.ofString "\t", Str.ofString "\r", Str.ofString "&", Str.ofString ">", Str.ofString "<", Str.ofString "\""] := by
    intro l hl
    induction l with
    | nil => intro h; cases h
    | cons p l ih =>
      intro h
      unfold tabG at h
      rw [List.lookup_cons] at h
      by_cases e : x = p.1
      · rw [e]; exact hl p (.head _)
      · have e2 : (x == p.1) = false := by simpa using e
        rw [e2] at h
        exact ih (fun q hq => hl q (.tail _ hq)) h
  refine key (tabL k) ?_ h
  unfold tabL
  split
  · decide +kernel
  split
  · decide +kernel
  split
  · decide +kernel
  split
  · decide +kernel
  · decide +kernel
theorem occ_ne {k : Int} {c : Nat} (h : (tabG (tabL k) ⟨#[c]⟩).isSome = true) : (Builtin.Str.occurrences SG ⟨#[c]⟩ 0 SG.length 1).isEmpty = false := by
  have h1 := tabG_in h
  have key : ∀ x ∈ [Str.ofString "\t", Str.ofString "\r", Str.ofString "&", Str.ofString ">", Str.ofString "<", Str.ofString "\""], (Builtin.Str.occurrences SG x 0 SG.length 1).isEmpty = false := by decide +kernel
  exact key _ h1
theorem keyOf_yes {k : Int} {c : Nat} (h : (tabG (tabL k) ⟨#[c]⟩).isSome = true) : keyOf k c = (38, Txt.find SG ⟨#[c]⟩) := by unfold keyOf; rw [if_pos h]
theorem keyOf_no {k : Int} {c : Nat} (h : (tabG (tabL k) ⟨#[c]⟩).isSome = false) : keyOf k c = ((c : Int), 0) := by unfold keyOf; rw [h, if_neg Bool.false_ne_true]
theorem row_take {k : Int} {x : Str} {i c : Nat} (hc : x.cps[i]? = some c) : ((x.cps.toList.take (i + 1)).map (keyOf k)).map pairD = ((x.cps.toList.take i).map (keyOf k)).map pairD ++ [pairD (keyOf k c)] := by
  have e : x.cps.toList[i]? = some c := by simpa using hc
  rw [List.take_add_one, e]
  simp
theorem strsD {vs : List Value} {ns : List Str} (h : StrsAre vs ns) (led : Led) : DatAll led vs (ns.map .str) := by
  induction h with
  | nil => exact .nil
  | cons x t _ ih => exact .cons (.str x t) ih
theorem append_val {A : Around} {E : Value → Shared → Prop} {s : Shared} {h₀ : Heap} {L D : Addr} {m : Str → Option Value} {news news' : Led} {vs : List Value} {n : Nat} {v : Value} {Q : Value → Shared → Prop} (F : Fr h₀ L s.heap m) (N : News h₀ L s.heap news)
    (U : Upd D (listOf vs.toArray n) (listOf (vs ++ [v]).toArray (n + 1)) news news') (hfit : vs.length ≤ 1000000) (h : ∀ h', Fr h₀ L h' m → News h₀ L h' news' → Q .none { s with heap := h' }) : wpAny (model pg w) A (call (.builtin "list.append") [.ref D, v]) Q E s :=
  append_K (its := vs.toArray) (n := n) F N (by simpa using U) h (by rw [sizeLine_eq, List.size_toArray]; omega)
theorem join_strsTn {A : Around} {E : Value → Shared → Prop} {s : Shared} {h₀ : Heap} {L D : Addr} {news : Led} {vs : List Value} {xs : List Str} {n B : Nat} {x : Str} {t : Tok} {Q : Value → Shared → Prop} (N : News h₀ L s.heap news) (hm : (D, ({ cls := .type "tuple", data := .seq vs.toArray n } : Obj)) ∈ news) (hs : StrsAre vs xs) (hB : ∀ y ∈ xs, y.length ≤ B) (hx : x.length ≤ 1) (hok : xs.length * B + xs.length ≤ 16777216)
    (h : ∀ t' k, Q (.str (Str.join x xs) t') { s with toks := k }) : wpAny (model pg w) A (call (.builtin "str.join") [.str x t, .ref D]) Q E s := by
  refine join_tuple (items := vs.toArray) (ys := xs) ⟨_, (N _ hm).1, rfl, _, rfl⟩ (by simpa using hs) ?_ (fun t' k => by rw [show Txt.join x xs = Str.join x xs from StrLaws.glued_eq_join _ _]; exact h t' k)
  have h1 := StrLaws.sumLen_le xs hB
  have h2 : xs.length * x.length ≤ xs.length * 1 := Nat.mul_le_mul_left _ hx
  omega
theorem names_open {led : Led} {v : Value} {ns : List Str} (h : DatIn led v (namesD ns)) : ∃ (a : Addr) (us : List Value) (n : Nat), v = .ref a ∧ (a, ({ cls := .type "tuple", data := .seq us.toArray n } : Obj)) ∈ led ∧ StrsAre us ns := by
  obtain ⟨a, vs, n, rfl, hm, r⟩ := datTup h
  refine ⟨_, _, _, rfl, hm, ?_⟩
  clear hm h
  induction ns generalizing vs with
  | nil => cases vs with
    | nil => exact .nil
    | cons _ _ => exact nomatch r.length
  | cons x ns ih =>
    obtain ⟨v, vs', rfl, h1, r'⟩ := datCons r
    obtain ⟨t, rfl⟩ := datStr h1
    exact .cons x t (ih vs' r')
inductive plJ (k : Int) (R : Addr) (led0 : Led) (x : Str) (m₀ : Str → Option Value) (_ : Led) (_ : Addr) (i : Nat) (m : Str → Option Value) (led' : Led) : Prop
  | mk (vs : List Value) (c : Nat) (nw : Led) (so : Option Value) (el : led' = (R, listOf (List.toArray vs) c) :: (nw ++ led0)) (d : DatAll nw vs (((x.cps.toList.take i).map (keyOf k)).map pairD)) (l : ∀ p ∈ nw, R < p.1) (l2 : ∀ p ∈ nw, ∀ q ∈ led0, q.1 < p.1)
    (em : m = fun y => if y = Str.ofString "sign" then so else m₀ y)
local macro_rules | `(tactic| walk_at "INN") => `(tactic| first | exact List.Mem.head _ | assumption | (refine' List.Mem.tail _ ?_; walk_at "INN"))
local macro_rules | `(tactic| walk_at "call builtin:str.join") => `(tactic| k_dflt ((refine' join_strsTn ?N ?m ?s ?B ?x ?ok ?_); (case N => assumption); (case m => walk_at "INN"); (case s => assumption); (case B => assumption); (case x => decide +kernel); (case ok => omega); intro t9 k9))
local macro_rules | `(tactic| walk_at "binaryOp Add str str") => `(tactic| k_dflt ((refine' SB.add ?_ ?sz); (case sz => (have hc9 := sizeLine_eq; omega)); intro t9 k9))
local macro_rules | `(tactic| walk_at "compareOp In str ref") => `(tactic| k_dflt ((refine' in_tab ?N ?m ?o ?l ?_); (case N => assumption); (case m => walk_at "INN"); (case o => assumption); (case l => assumption)))
local macro_rules | `(tactic| walk_at "call builtin:str.index") => `(tactic| k_dflt ((refine' PySem.SC.index (x := SG) ?o ?_); (case o => assumption)))
local macro_rules | `(tactic| walk_at "call builtin:ord") => `(tactic| k_dflt (refine' PySem.P.ord_of_char ?_))
noncomputable def PD (k : Int) (n : List Str) : Dat := placeD (placeOf k n)
inductive PlPost (Nm : Addr) (ns : List Str) (k : Int) (led : Led) (r : Value) (led' : Led) : Prop
  | mk (P : Addr) (nw : Led) (er : r = .ref P) (el : led' = nw ++ led) (d : ∀ sub, DatIn sub (.ref Nm) (namesD ns) → DatIn (nw ++ sub) (.ref P) (PD k ns)) (l : ∀ p ∈ nw, ∀ q ∈ led, q.1 < p.1)
theorem place_c (Nm T : Addr) (nv : List Value) (nn : Nat) (ns : List Str) (k : Int) (o : Obj) (led : Led) (hN : (Nm, ({ cls := .type "tuple", data := .seq nv.toArray nn } : Obj)) ∈ led) (hT : (T, o) ∈ led) (hs : StrsAre nv ns) (hb : ∀ y ∈ ns, y.length ≤ 8) (hl : ns.length ≤ 1000) (ho : TabO w k o) (hlo : (T == sysModules) = false) :
    Con w mean mg mb 291 [.ref Nm, .ref T] led 2 90 (PlPost Nm ns k led) := by
  refine Con.gen fun P9 imp9 => ?_
  refine' Con.body (binds := [(Str.ofString "names", .ref Nm), (Str.ofString "table", .ref T)]) ?ho ?hcd ?hbind ?hloc ?hD ?_ ?c2 ?c3 ?c4 ?c5
  ((((((case ho => k_is); (case hcd => k_is); (case hbind => exact rfl); (case hloc => exact rfl); (case hD => decide); (case c2 => exact rfl); (case c3 => exact rfl); (case c4 => exact rfl); (case c5 => decide)))); intro _ _ _ _ _ _ _ _ _ _ _ _ _ _ _ _))
  have hm9 : ns.length * 8 ≤ 1000 * 8 := Nat.mul_le_mul_right _ hl
  have hjl : (Str.join (Str.ofString "/") ns).length ≤ 9000 := by
    have q1 := StrLaws.join_length_le (Str.ofString "/") ns
    have q2 := StrLaws.sumLen_le ns hb
    have q3 : (Str.ofString "/").length = 1 := by decide +kernel
    rw [q3] at q1
    omega
  have hsl : (Str.ofString "/").length = 1 := by decide +kernel
  (repeat' (first | walk1 | (dsimp only; walk1)))
  unfold Stop
  rename Fr _ _ _ _ => F1
  rename News _ _ _ _ => N1
  rename (∀ p ∈ led, _) => lR
  rename_i R hA hB tkA t9A k9A tkB
  have hxl : (pathS ns).length ≤ 9001 := by unfold pathS; rw [Str.length_append]; omega
  refine for_str (plJ k R led (pathS ns)) rfl F1 N1 ?j0 ?turn ?done
  case j0 => intro I _; exact ⟨[], 0, [], _, rfl, .nil, (fun p hp => nomatch hp), (fun p hp => nomatch hp), m_cov1 _ rfl⟩
  case turn =>
    rintro I i c tv m₁ led' h tk o1 hc ⟨vs, cc, nw, so, rfl, hd, hR, hq, rfl⟩ hneI F2 N2
    clear F1 N1
    have hv : vs.length = i := by
      have q := hd.length
      have q2 : i < (pathS ns).cps.size := (Array.getElem?_eq_some_iff.mp hc).1
      simp only [List.length_map, List.length_take, Array.length_toList] at q
      rw [Nat.min_eq_left (Nat.le_of_lt q2)] at q
      exact q
    have hi9 : i < 9001 := by
      have q2 : i < (pathS ns).cps.size := (Array.getElem?_eq_some_iff.mp hc).1
      have : (pathS ns).length = (pathS ns).cps.size := rfl
      omega
    have hT2 : (T, o) ∈ nw ++ led := List.mem_append_right _ hT
    have hRI : R ≠ I := hneI _ (.head _)
    have hRt : ∀ p ∈ nw ++ led, p.1 ≠ R := fun p hp => by
      rcases List.mem_append.mp hp with hp | hp
      · exact Nat.ne_of_gt (hR p hp)
      · exact Nat.ne_of_lt (lR p hp)
    generalize htl : nw ++ led = tl at *
    (repeat' (first | walk1 | (dsimp only; walk1)))
    · exfalso
      have q1 := occ_ne ‹(tabG (tabL k) _).isSome = true›
      rename (_ = true) => q2
      exact absurd (q1.symm.trans q2) (by decide)
    · have hky := keyOf_yes (k := k) (c := c) (by assumption)
      rename_i D1 h1 F5 N5 l5
      refine hide fun P9 b9 => ?_
      obtain ⟨o5, t1, t2, ho5, N6⟩ : ∃ (o5 : Obj) (t1 t2 : Tok), o5 = { cls := .type "tuple", data := .seq #[.int 38 t1, .int (Txt.find SG ⟨#[c]⟩) t2] } ∧ News _ _ h1 ((D1, o5) :: (I, o1) :: (R, listOf vs.toArray cc) :: tl) := ⟨_, _, _, rfl, N5⟩
      refine b9 ?_
      clear b9 P9
      (refine' append_val F5 N6 (Upd.tail (Nat.ne_of_gt l5.2.1) (Upd.tail hRI.symm (Upd.head hRt))) (by omega) ?_)
      intro h9 F9 N9
      try dsimp only
      (repeat' (first | walk1 | (dsimp only; walk1)))
      (((try dsimp only); first | ((with_reducible refine' turn_mk ?F ?N ?_); (case F => assumption); (case N => assumption)) | ((with_reducible refine' turn_mkC ?F ?N ?_); (case F => assumption); (case N => assumption))))
      refine ⟨(R, listOf (List.toArray (vs ++ [Value.ref D1])) (cc + 1)) :: (((D1, o5) :: nw) ++ led), ⟨vs ++ [.ref D1], cc + 1, (D1, o5) :: nw, _, rfl, ?_, ?_, ?_, m_keep1 _ rfl (by intro y h1; simp [h1])⟩, ?_, ?_⟩
      · subst ho5
        rw [row_take (x := pathS ns) hc, hky]
        exact DatAll.append (DatAll.mono (fun p hp => .tail _ hp) hd) (.cons (.tuple (vs := [.int _ _, .int _ _]) (.head _) (.cons (.int _ _) (.cons (.int _ _) .nil))) .nil)
      · intro p hp
        rcases List.mem_cons.mp hp with rfl | hp
        · exact l5.2.1
        · exact hR p hp
      · intro p hp q hq'
        rcases List.mem_cons.mp hp with rfl | hp
        · exact ktn_ltOf l5.2.2 q (by rw [← htl]; exact List.mem_append_right _ hq')
        · exact hq p hp q hq'
      · intro p hp
        rw [List.cons_append, htl] at hp
        simp only [List.mem_cons] at hp ⊢
        rcases hp with e | e | e | e <;> simp [e]
      · intro p hp
        rw [List.cons_append, htl] at hp
        rcases List.mem_cons.mp hp with rfl | hp
        · exact hRI
        · rcases List.mem_cons.mp hp with rfl | hp
          · exact Nat.ne_of_gt l5.1
          · exact hneI p (.tail _ hp)
    · have hky := keyOf_no (k := k) (c := c) (by assumption)
      rename_i D1 h1 F5 N5 l5
      refine hide fun P9 b9 => ?_
      obtain ⟨o5, t1, t2, ho5, N6⟩ : ∃ (o5 : Obj) (t1 t2 : Tok), o5 = { cls := .type "tuple", data := .seq #[.int (c : Int) t1, .int 0 t2] } ∧ News _ _ h1 ((D1, o5) :: (I, o1) :: (R, listOf vs.toArray cc) :: tl) := ⟨_, _, _, rfl, N5⟩
      refine b9 ?_
      clear b9 P9
      (refine' append_val F5 N6 (Upd.tail (Nat.ne_of_gt l5.2.1) (Upd.tail hRI.symm (Upd.head hRt))) (by omega) ?_)
      intro h9 F9 N9
      try dsimp only
      (repeat' (first | walk1 | (dsimp only; walk1)))
      (((try dsimp only); first | ((with_reducible refine' turn_mk ?F ?N ?_); (case F => assumption); (case N => assumption)) | ((with_reducible refine' turn_mkC ?F ?N ?_); (case F => assumption); (case N => assumption))))
      refine ⟨(R, listOf (List.toArray (vs ++ [Value.ref D1])) (cc + 1)) :: (((D1, o5) :: nw) ++ led), ⟨vs ++ [.ref D1], cc + 1, (D1, o5) :: nw, _, rfl, ?_, ?_, ?_, m_keep1 _ rfl (by intro y h1; simp [h1])⟩, ?_, ?_⟩
      · subst ho5
        rw [row_take (x := pathS ns) hc, hky]
        exact DatAll.append (DatAll.mono (fun p hp => .tail _ hp) hd) (.cons (.tuple (vs := [.int _ _, .int _ _]) (.head _) (.cons (.int _ _) (.cons (.int _ _) .nil))) .nil)
      · intro p hp
        rcases List.mem_cons.mp hp with rfl | hp
        · exact l5.2.1
        · exact hR p hp
      · intro p hp q hq'
        rcases List.mem_cons.mp hp with rfl | hp
        · exact ktn_ltOf l5.2.2 q (by rw [← htl]; exact List.mem_append_right _ hq')
        · exact hq p hp q hq'
      · intro p hp
        rw [List.cons_append, htl] at hp
        simp only [List.mem_cons] at hp ⊢
        rcases hp with e | e | e | e <;> simp [e]
      · intro p hp
        rw [List.cons_append, htl] at hp
        rcases List.mem_cons.mp hp with rfl | hp
        · exact hRI
        · rcases List.mem_cons.mp hp with rfl | hp
          · exact Nat.ne_of_gt l5.1
          · exact hneI p (.tail _ hp)
  case done =>
    rintro I m₁ led' h tk ⟨vs, cc, nw, so, rfl, hd, hR, hq, rfl⟩ F2 N2
    clear F1 N1
    (repeat' (first | walk1 | (dsimp only; walk1)))
    rename_i D1 h1 F5 N5 l5
    (((try dsimp only); (refine' Ends.intro ?_ ?F ?N ?_); (case F => assumption); (case N => assumption); rotate_left))
    · refine imp9 _ _ ⟨D1, (D1, { cls := .type "tuple", data := .seq #[.ref R, .ref Nm] }) :: (R, listOf (List.toArray vs) cc) :: nw, rfl, rfl, ?_, ?_⟩
      · have e9 : (pathS ns).cps.toList.take (pathS ns).cps.size = (pathS ns).cps.toList := List.take_of_length_le (by simp)
        have hd2 : DatAll nw vs (((pathS ns).cps.toList.map (keyOf k)).map pairD) := by
          have := hd
          rw [show (Str.ofString "/" ++ Str.join (Str.ofString "/") ns).cps.size = (pathS ns).cps.size from rfl, e9] at this
          exact this
        intro sub hsub
        refine .tuple (vs := [.ref R, .ref Nm]) (.head _) (.cons (.list (vs := vs) (n := cc) (.tail _ (.head _)) (hd2.mono fun p hp => ?_)) (.cons (hsub.mono fun p hp => ?_) .nil))
        · exact .tail _ (.tail _ (List.mem_append_left _ hp))
        · exact .tail _ (.tail _ (List.mem_append_right _ hp))
      · intro p hp q hq'
        rcases List.mem_cons.mp hp with rfl | hp
        · exact ktn_ltOf l5.2 q (List.mem_append_right _ hq')
        · rcases List.mem_cons.mp hp with rfl | hp
          · exact lR q hq'
          · exact hq p hp q hq'
    · intro p hp
      exact hp
end SC16
example : True := by
  w_top off
  first
    | walk1
    | trivial
section SC17
theorem PD_inj {k : Int} {a b : List Str} : PD k a = PD k b ↔ a = b := by
  unfold PD
  rw [placeD_inj]
  constructor
  · intro h; exact congrArg Prod.snd h
  · rintro rfl; rfl
theorem PD_ok {k : Int} {n : List Str} (h : NmsStr n) : kqdOk 8 (PD k n) = true := placeD_ok 5 h
/-- a bag of places -/
noncomputable def Bag (k : Int) (led : Led) (vs : List Value) (nss : List (List Str)) : Prop := DatAll led vs (nss.map (PD k)) ∧ ∀ n ∈ nss, NmsStr n
noncomputable def lessN (k : Int) (nss : List (List Str)) (i j : Nat) : Bool := placeLt (placeOf k (nss.getD i [])) (placeOf k (nss.getD j []))
noncomputable def leastN (k : Int) (nss : List (List Str)) : List Str := nss.getD (argBest (lessN k nss) (nss.length - 1)) []
theorem argBest_le (bt : Nat → Nat → Bool) : ∀ n, argBest bt n ≤ n
  | 0 => Nat.le_refl _
  | n + 1 => by
    have := argBest_le bt n
    unfold argBest
    split
    · exact Nat.le_refl _
    · omega
theorem leastN_mem {k : Int} {nss : List (List Str)} (h : 0 < nss.length) : leastN k nss ∈ nss := by
  unfold leastN
  have := argBest_le (lessN k nss) (nss.length - 1)
  have h2 : argBest (lessN k nss) (nss.length - 1) < nss.length := by omega
  rw [List.getD_eq_getElem?_getD, List.getElem?_eq_getElem h2]
  exact List.getElem_mem _
theorem datAll_get' {led : Led} {vs : List Value} {nss : List (List Str)} {k : Int} (h : DatAll led vs (nss.map (PD k))) {i : Nat} {v : Value} (hv : vs[i]? = some v) : DatIn led v (PD k (nss.getD i [])) ∧ i < nss.length := by
  have hl := h.length
  rw [List.length_map] at hl
  have hi : i < nss.length := by rw [← hl]; exact (List.getElem?_eq_some_iff.mp hv).1
  obtain ⟨v', e, d⟩ := h.get (k := i) (by simpa using hi)
  rw [hv] at e
  cases e
  rw [List.getElem_map] at d
  refine ⟨?_, hi⟩
  rw [List.getD_eq_getElem?_getD, List.getElem?_eq_getElem hi]
  exact d
theorem getD_mem {nss : List (List Str)} {i : Nat} (h : i < nss.length) : nss.getD i [] ∈ nss := by
  rw [List.getD_eq_getElem?_getD, List.getElem?_eq_getElem h]; exact List.getElem_mem _
section
variable {A : Around} {E Q : Value → Shared → Prop} {s : Shared} {h₀ : Heap} {L B : Addr} {m : Str → Option Value} {news led : Led} {k : Int} {vs : List Value} {nss : List (List Str)} {c : Nat}
theorem bag_cmp (hb : Bag k led vs nss) (hsub : ∀ p ∈ led, p ∈ news) (hu : A.units + 60 < cLine) : CmpAt (fun h => News h₀ L h news) .Lt A vs (lessN k nss) := by
  intro s' i j vi vj N hi hj
  obtain ⟨d1, l1⟩ := datAll_get' hb.1 hi
  obtain ⟨d2, l2⟩ := datAll_get' hb.1 hj
  exact ltAt_place N (d1.mono hsub) (d2.mono hsub) (hb.2 _ (getD_mem l1)) (hb.2 _ (getD_mem l2)) hu
theorem min_bag (hh : A.in1.handled = none) (hb : Bag k led vs nss) (hsub : ∀ p ∈ led, p ∈ news) (hm : (B, listOf vs.toArray c) ∈ news) (hne : 0 < nss.length) (F : Fr h₀ L s.heap m) (N : News h₀ L s.heap news) (hu : A.units + 70 < cLine)
    (h : ∀ v h' tk, DatIn led v (PD k (leastN k nss)) → Fr h₀ L h' m → News h₀ L h' news → Q v { s with heap := h', toks := tk }) : wpAny (model pg w) A (call (.builtin "min") [.ref B]) Q E s := by
  have u1 := units_in1 A
  have hl := hb.1.length
  rw [List.length_map] at hl
  refine min_list hh (lessN k nss) (bag_cmp hb hsub (by omega)) F N hm (by omega) fun v h' tk hv F' N' => ?_
  refine h v h' tk ?_ F' N'
  rw [hl] at hv
  exact (datAll_get' hb.1 hv).1
theorem datAll_split {l1 l2 : List (List Str)} {n : List Str} : ∀ {vs : List Value}, DatAll led vs ((l1 ++ n :: l2).map (PD k)) → ∃ p y q, vs = p ++ y :: q ∧ DatAll led p (l1.map (PD k)) ∧ DatIn led y (PD k n) ∧ DatAll led q (l2.map (PD k)) := by
  induction l1 with
  | nil =>
    intro vs h
    cases h with
    | cons h r => exact ⟨[], _, _, rfl, .nil, h, r⟩
  | cons a l1 ih =>
    intro vs h
    cases h with
    | cons h r =>
      obtain ⟨p, y, q, rfl, hp, hy, hq⟩ := ih r
      exact ⟨_ :: p, y, q, rfl, .cons h hp, hy, hq⟩
theorem readOf_dat (N : News h₀ L s.heap news) {v : Value} {d : Dat} (hv : DatIn news v d) (hd : kqdOk 8 d = true) : SeqAt.readOf s.heap v = kqdP d := by
  obtain ⟨as, r⟩ := kqd_in N 8 hv hd
  exact SeqAt.readOf_eq (kqd_lay 8 d hd).1 r
open Classical in
theorem remove_bag (hb : Bag k led vs nss) (hsub : ∀ p ∈ led, p ∈ news) {v : Value} {n : List Str} (hv : DatIn led v (PD k n)) (hn : n ∈ nss) (F : Fr h₀ L s.heap m) (N : News h₀ L s.heap news) (hu : A.units + 70 < cLine) (hl : nss.length ≤ 1000000)
    (nw : List Value → Led) (U : ∀ vs' : List Value, Upd B (listOf vs.toArray c) (listOf vs'.toArray (c + 1)) news (nw vs'))
    (h : ∀ vs' h', Bag k led vs' (nss.erase n) → Fr h₀ L h' m → News h₀ L h' (nw vs') → Q .none { s with heap := h' }) : wpAny (model pg w) A (call (.builtin "list.remove") [.ref B, v]) Q E s := by
  obtain ⟨l1, l2, hni, he, hr⟩ := List.exists_erase_eq hn
  have hb1 := hb.1
  rw [he] at hb1
  obtain ⟨p, y, q, rfl, hp, hy, hq⟩ := datAll_split hb1
  have u1 := units_in1 A
  have hlen := hb.1.length
  rw [List.length_map] at hlen
  have okn : NmsStr n := hb.2 n hn
  have okl : ∀ x ∈ l1 ++ n :: l2, NmsStr x := by rw [← he]; exact hb.2
  have key : ∀ z x, DatIn led z (PD k x) → NmsStr x → (PyData.eqv (SeqAt.readOf s.heap z) (kqdP (PD k n)) = decide (PD k x = PD k n)) := by
    intro z x hz hx
    rw [readOf_dat N (hz.mono hsub) (PD_ok hx)]
    by_cases e : PD k x = PD k n
    · rw [decide_eq_true e]; exact (kqd_eqv 8 _ _ 8 (PD_ok hx) (PD_ok okn)).mpr e
    · rw [decide_eq_false e]; exact Bool.eq_false_iff.mpr fun g => e ((kqd_eqv 8 _ _ 8 (PD_ok hx) (PD_ok okn)).mp g)
  have mem : ∀ {ws : List Value} {ls : List (List Str)}, DatAll led ws (ls.map (PD k)) → ∀ z ∈ ws, ∃ x ∈ ls, DatIn led z (PD k x) := by
    intro ws ls hd z hz
    obtain ⟨i, hi, rfl⟩ := List.getElem_of_mem hz
    obtain ⟨d, li⟩ := datAll_get' hd (List.getElem?_eq_getElem hi)
    exact ⟨_, getD_mem li, d⟩
  refine remove_list' (fun z => PyData.eqv (SeqAt.readOf s.heap z) (kqdP (PD k n))) F N ?_ ?_ ?_ ?_ (U (p ++ q)) fun h' F' N' => ?_
  · intro z hz
    obtain ⟨x, hx, dz⟩ := mem hb1 z hz
    rw [key z x dz (okl x hx)]
    have := eqAt_dat (A := A.in1) N (dz.mono hsub) (hv.mono hsub) (PD_ok (okl x hx)) (PD_ok okn) (by omega)
    exact this
  · rw [key y n hy okn]; exact decide_eq_true rfl
  · intro z hz
    obtain ⟨x, hx, dz⟩ := mem hp z hz
    rw [key z x dz (okl x (List.mem_append_left _ hx))]
    refine decide_eq_false fun e => hni ?_
    rw [← PD_inj.mp e]; exact hx
  · rw [hlen]; exact hl
  · refine h _ h' ⟨?_, fun x hx => hb.2 x (List.mem_of_mem_erase hx)⟩ F' N'
    rw [hr, List.map_append]
    exact hp.append hq
theorem item_at {a : Addr} {us : List Value} {n : Nat} {value slice : PySem.Expr} {i : Nat} {u : Tok} {v : Value} (N : News h₀ L s.heap news) (hm : (a, ({ cls := .type "tuple", data := .seq us.toArray n } : Obj)) ∈ news) (hi : us[i]? = some v) (hl : us.length ≤ 1000000) (h : Q v s)
    (hq : subscripted slice false (.ref a) (.int (i : Int) u) = operate [.ref a, .int (i : Int) u] (getItem (.ref a) (.int (i : Int) u))) : wpAny (model pg w) A (subscriptTail value slice (.ref a) (.int (i : Int) u)) Q E s := by
  have hil : i < us.length := (List.getElem?_eq_some_iff.mp hi).1
  refine item_tupleT (l := us) (j := i) ⟨_, (N _ hm).1, rfl, _, rfl⟩ (by omega) (by omega) ?_ hi h hq
  unfold seqIndex?
  simp
  omega
end
theorem PD_open {k : Int} {led : Led} {v : Value} {n : List Str} (h : DatIn led v (PD k n)) : ∃ (a : Addr) (us : List Value) (c : Nat) (nm : Value), v = .ref a ∧ (a, ({ cls := .type "tuple", data := .seq us.toArray c } : Obj)) ∈ led ∧ us[1]? = some nm ∧ us.length = 2 ∧ DatIn led nm (namesD n) := by
  obtain ⟨a, us, c, rfl, hm, r⟩ := datTup h
  obtain ⟨v1, us1, rfl, h1, r1⟩ := datCons r
  obtain ⟨v2, us2, rfl, h2, r2⟩ := datCons r1
  have e : us2 = [] := List.eq_nil_of_length_eq_zero r2.length
  exact ⟨_, _, _, v2, rfl, hm, rfl, by rw [e]; rfl, h2⟩
inductive LeastPost (k : Int) (B : Addr) (nss : List (List Str)) (sub led : Led) (r : Value) (led' : Led) : Prop
  | mk (vs' : List Value) (c' : Nat) (el : led' = (B, listOf (List.toArray vs') c') :: led) (b : Bag k sub vs' (nss.erase (leastN k nss))) (d : DatIn sub r (namesD (leastN k nss)))
theorem least_c (B : Addr) (vs : List Value) (nss : List (List Str)) (c : Nat) (k : Int) (sub led : Led) (hs : ∀ p ∈ sub, p ∈ led) (hb : Bag k sub vs nss) (hne : 0 < nss.length) (hl : nss.length ≤ 1000000) (hB : ∀ q ∈ led, q.1 ≠ B) :
    Con w mean mg mb 298 [.ref B] ((B, listOf vs.toArray c) :: led) 2 120 (LeastPost k B nss sub led) := by
  refine' Con.body (binds := [(Str.ofString "bag", .ref B)]) ?ho ?hcd ?hbind ?hloc ?hD ?_ ?c2 ?c3 ?c4 ?c5
  ((((((case ho => k_is); (case hcd => k_is); (case hbind => exact rfl); (case hloc => exact rfl); (case hD => decide); (case c2 => exact rfl); (case c3 => exact rfl); (case c4 => exact rfl); (case c5 => decide)))); intro _ _ _ _ _ _ _ _ _ _ _ _ _ _ _ _))
  (repeat' (first | walk1 | (dsimp only; walk1)))
  refine min_bag rfl hb (fun p hp => .tail _ (hs p hp)) (.head _) hne (by assumption) (by assumption) (by first | ke_room | omega) ?_
  intro v h1 tk1 hv F1 N1
  obtain ⟨a, us, ca, nm, rfl, hma, hu1, hul, hnm⟩ := PD_open hv
  (repeat' (first | walk1 | (dsimp only; walk1)))
  refine remove_bag (led := sub) hb (fun p hp => .tail _ (hs p hp)) hv (leastN_mem hne) (by assumption) (by assumption) (by first | ke_room | omega) hl (fun vs' => (B, listOf (List.toArray vs') (c + 1)) :: led) (fun vs' => Upd.head hB) ?_
  intro vs' h2 hb2 F2 N2
  (repeat' (first | walk1 | (dsimp only; walk1)))
  refine item_at N2 (.tail _ (hs _ hma)) hu1 (by omega) ?_ ?_
  · (repeat' (first | walk1 | (dsimp only; walk1)))
    (((try dsimp only); (refine' Ends.intro ?_ ?F ?N ?S); (case F => assumption); (case N => assumption); (case S => exact fun p h => h)))
    exact ⟨vs', c + 1, rfl, hb2, hnm⟩
  · with_unfolding_all rfl
end SC17
example : True := by
  w_top off
  first
    | walk1
    | trivial
section GC
local macro_rules | `(tactic| walk_at "subscriptTail Name Slice ref ref") => `(tactic| k_dflt (refine stop_of ?_))
example : True := by
  w_top off
  first
    | walk1
    | trivial
section SC18
noncomputable def stemS (x : Str) : Str := if x = Str.ofString "a.&" then Str.ofString "a" else x
noncomputable def stemN (ns : List Str) : List Str := if ns = [] then [] else ns.dropLast ++ [stemS (ns.getLastD Str.empty)]
inductive NmPost (v : Value) (ns0 ns : List Str) (led : Led) (r : Value) (led' : Led) : Prop
  | mk (nw : Led) (el : led' = nw ++ led) (d : ∀ sub, DatIn sub v (namesD ns0) → DatIn (nw ++ sub) r (namesD ns)) (l : ∀ p ∈ nw, ∀ q ∈ led, q.1 < p.1)
theorem stemN_same {ys : List Str} {z : Str} (h : (z != Str.ofString "a.&") = true) : stemN (ys ++ [z]) = ys ++ [z] := by
  have h2 : z ≠ Str.ofString "a.&" := by simpa using h
  unfold stemN stemS
  rw [if_neg (by simp)]
  simp [h2]
theorem stemN_amp {ys : List Str} : stemN (ys ++ [Str.ofString "a.&"]) = ys ++ [Str.ofString "a"] := by
  unfold stemN stemS
  rw [if_neg (by simp)]
  simp
/-- the names that can be in a bag -/
noncomputable def allS : List Str := Str.ofString "&" :: poolS
theorem all3 : ∀ y ∈ allS, (Txt.rfind y (Str.ofString ".") = -1 ∧ (y != Str.ofString "a.&") = true) ∨ y = Str.ofString "a.&" ∨ y = Str.ofString "..<" := by decide +kernel
theorem stem_c (v : Value) (ns : List Str) (led : Led) (hv : DatIn led v (namesD ns)) (hp : ∀ n ∈ ns, n ∈ allS) (hl : ns.length ≤ 1000) : Con w mean mg mb 305 [v] led 2 90 (NmPost v ns (stemN ns) led) := by
  obtain ⟨a, us, n, rfl, hm, hs⟩ := names_open hv
  refine' Con.body (binds := [(Str.ofString "names", .ref a)]) ?ho ?hcd ?hbind ?hloc ?hD ?_ ?c2 ?c3 ?c4 ?c5
  ((((((case ho => k_is); (case hcd => k_is); (case hbind => exact rfl); (case hloc => exact rfl); (case hD => decide); (case c2 => exact rfl); (case c3 => exact rfl); (case c4 => exact rfl); (case c5 => decide)))); intro _ _ _ _ _ _ _ _ _ _ _ _ _ _ _ _))
  (repeat' (first | walk1 | (dsimp only; walk1)))
  rename News _ _ _ _ => N1
  rename (∀ p ∈ led, _) => lE
  have hlen : us.length = ns.length := hs.length
  refine eq_unit N1 (.tail _ hm) ⟨_, (N1 _ (.head _)).1, rfl, _, rfl⟩ (by first | ke_room | omega) ?_
  by_cases hz : us.length = 0
  · rw [decide_eq_true hz]
    have e0 : ns = [] := List.eq_nil_of_length_eq_zero (by omega)
    subst e0
    (repeat' (first | walk1 | (dsimp only; walk1)))
    (((try dsimp only); (refine' Ends.intro ?_ ?F ?N ?_); (case F => assumption); (case N => assumption); rotate_left))
    · exact ⟨[], rfl, fun _ h => h, fun p hp => nomatch hp⟩
    · exact fun p hp => .tail _ hp
  · rw [decide_eq_false hz]
    rcases List.eq_nil_or_concat ns with e0 | ⟨ys, z, e0⟩
    · subst e0; exact absurd hlen hz
    rw [List.concat_eq_append] at e0
    subst e0
    obtain ⟨ws, tz, rfl, hws⟩ := strsAre_last hs
    have hzp := hp z (List.mem_append_right _ (.head _))
    (repeat' (first | walk1 | (dsimp only; walk1)))
    have hui : (ws ++ [Value.str z tz])[(ws ++ [Value.str z tz]).length - 1]? = some (.str z tz) := by simp
    have hul : (ws ++ [Value.str z tz]).length ≤ 1000 := by rw [hlen]; exact hl
    refine tup_last (by assumption) (.tail _ hm) hui (by omega) ?_ (by with_unfolding_all rfl)
    rcases all3 z hzp with ⟨hz7, hzs⟩ | rfl | rfl
    · (repeat' (first | ((with_reducible show wpAny _ _ (call (Value.builtin "str.rfind") _) _ _ _); refine KXw.rfind hz7 ?_; intro _ _) | walk1 | (dsimp only; walk1)))
      (((try dsimp only); (refine' Ends.intro ?_ ?F ?N ?_); (case F => assumption); (case N => assumption); rotate_left))
      · refine ⟨[], rfl, ?_, fun p hp => nomatch hp⟩
        rw [stemN_same hzs]
        exact fun _ h => h
      · exact fun p hp => .tail _ hp
    · (repeat' (first | walk1 | (dsimp only; walk1)))
      have hpos : 0 < (ws ++ [Value.str (Str.ofString "a.&") tz]).length := by simp
      try unfold Stop
      refine tup_slice (b := (ws ++ [Value.str (Str.ofString "a.&") tz]).length - 1) (by assumption) (by assumption) (.tail _ hm) (adjust_neg1 hpos) (by omega) (by omega) ?_ ?_ (by with_unfolding_all rfl) (by kmk_pure)
      · intro _ D1 h1 F2 N2 lD
        have e1 : (ws ++ [Value.str (Str.ofString "a.&") tz]).take ((ws ++ [Value.str (Str.ofString "a.&") tz]).length - 1) = ws := by simp
        rw [e1] at N2
        (repeat' (first | walk1 | (dsimp only; walk1)))
        rename_i D2 h2 F3 N3 l3
        have lD2 := lD
        refine add_tuples (vs := ws) (ws := [.str (Str.ofString "a") _]) F3 N3 ⟨_, (N3 _ (.tail _ (.head _))).1, rfl, _, rfl⟩ ⟨_, (N3 _ (.head _)).1, rfl, _, rfl⟩ ?_ ?_ ?_ (by rw [sizeLine_eq]; simp only [List.length_append, List.length_cons, List.length_nil] at *; omega)
        · intro hw
          subst hw
          cases hws
          (((try dsimp only); (refine' Ends.intro ?_ ?F ?N ?S); (case F => assumption); (case N => assumption); (case S => exact fun p h => h)))
          refine ⟨_ :: _ :: _ :: [], rfl, ?_, ?_⟩
          · intro _ _
            exact .tuple (vs := [.str (Str.ofString "a") _]) (.head _) (.cons (.str _ _) .nil)
          · intro p hp q hq
            simp only [List.mem_cons, List.not_mem_nil, or_false] at hp
            rcases hp with rfl | rfl | rfl
            · exact ktn_ltOf l3.2.2 q hq
            · exact lD2 q (.tail _ hq)
            · exact lE q hq
        · intro _ hw; cases hw
        · intro _ _ h4 F4 N4
          have lN : ∀ q ∈ led, q.1 < h2.objs.size := fun q hq => Heap.lt_size (N3 q (.tail _ (.tail _ (.tail _ hq)))).1
          (((try dsimp only); (refine' Ends.intro ?_ ?F ?N ?S); (case F => assumption); (case N => assumption); (case S => exact fun p h => h)))
          refine ⟨_ :: _ :: _ :: _ :: [], rfl, ?_, ?_⟩
          · intro _ _
            rw [stemN_amp]
            unfold namesD
            rw [List.map_append]
            exact .tuple (vs := ws ++ [.str (Str.ofString "a") _]) (.head _) (DatAll.append (strsD hws _) (.cons (.str _ _) .nil))
          · intro p hp q hq
            simp only [List.mem_cons, List.not_mem_nil, or_false] at hp
            rcases hp with rfl | rfl | rfl | rfl
            · exact lN q hq
            · exact ktn_ltOf l3.2.2 q hq
            · exact lD2 q (.tail _ hq)
            · exact lE q hq
      · intro he; exact absurd he (by omega)
    · (repeat' (first | walk1 | (dsimp only; walk1)))
      (((try dsimp only); (refine' Ends.intro ?_ ?F ?N ?_); (case F => assumption); (case N => assumption); rotate_left))
      · refine ⟨[], rfl, ?_, fun p hp => nomatch hp⟩
        rw [stemN_same (by decide +kernel)]
        exact fun _ h => h
      · exact fun p hp => .tail _ hp
end SC18
example : True := by
  w_top off
  first
    | walk1
    | trivial
section SC19
inductive frJ (one two : List Str) (m₀ : Str → Option Value) (led : Led) (n : Nat) (m : Str → Option Value) (led' : Led) : Prop
  | mk (k : Nat) (t : Tok) (l : k ≤ one.length) (en : n = one.length - k) (e : one.take k = two.take k) (el : led' = led) (em : m = fun y => if y = Str.ofString "k" then some (.int (k : Int) t) else m₀ y)
theorem front_c (v1 v2 : Value) (one two : List Str) (led : Led) (hv1 : DatIn led v1 (namesD one)) (hv2 : DatIn led v2 (namesD two)) (hp1 : ∀ n ∈ one, n.length ≤ 1000) (hp2 : ∀ n ∈ two, n.length ≤ 1000) (hl1 : one.length ≤ 1000) (hl2 : two.length ≤ 1000)
    (hno : ∀ i, one.take i = two.take i → i < one.length → i < two.length) : Con w mean mg mb 312 [v1, v2] led 2 90 (NmPost v1 one (cpre one two) led) := by
  obtain ⟨a, us, n, rfl, hm, hs⟩ := names_open hv1
  obtain ⟨a2, us2, n2, rfl, hm2, hs2⟩ := names_open hv2
  have hlen : us.length = one.length := hs.length
  have hlen2 : us2.length = two.length := hs2.length
  refine' Con.body (binds := [(Str.ofString "one", .ref a), (Str.ofString "two", .ref a2)]) ?ho ?hcd ?hbind ?hloc ?hD ?_ ?c2 ?c3 ?c4 ?c5
  ((((((case ho => k_is); (case hcd => k_is); (case hbind => exact rfl); (case hloc => exact rfl); (case hD => decide); (case c2 => exact rfl); (case c3 => exact rfl); (case c4 => exact rfl); (case c5 => decide)))); intro _ _ _ _ _ _ _ _ _ _ _ _ _ _ _ _))
  (repeat' (first | walk1 | (dsimp only; walk1)))
  rename News _ _ _ _ => N1
  rename Fr _ _ _ _ => F1
  try unfold Stop
  refine while_inv (frJ one two) (n₀ := one.length) F1 N1 ?j0 ?turn
  case j0 => exact ⟨0, _, Nat.zero_le _, by omega, rfl, rfl, m_cov1 _ rfl⟩
  case turn =>
    rintro n' m₁ led₁ h₁ tk₁ F3 N3 ⟨k, t, hk, rfl, htk, rfl, rfl⟩
    clear F1 N1
    (repeat' (first | walk1 | (dsimp only; walk1)))
    rename_i l3 l2 l1
    refine len_tuple (items := us.toArray) ⟨_, (N3 _ hm).1, rfl, _, rfl⟩ (by simp; omega) ?_
    rw [List.size_toArray]
    try dsimp only
    (repeat' (first | walk1 | (dsimp only; walk1)))
    · rename (k : Int) < _ => hk1
      have hk2 : k < us.length := by omega
      have hk3 : k < us2.length := by rw [hlen2]; exact hno k htk (by omega)
      refine hide fun P9 b9 => ?_
      obtain ⟨c1, tc1, hc1, e1⟩ := strsAre_get hs (List.getElem?_eq_getElem hk2)
      obtain ⟨c2, tc2, hc2, e2⟩ := strsAre_get hs2 (List.getElem?_eq_getElem hk3)
      refine b9 ?_
      clear b9 P9
      have f1 : us[k]? = some (.str c1 tc1) := by rw [List.getElem?_eq_getElem hk2, e1]
      have f2 : us2[k]? = some (.str c2 tc2) := by rw [List.getElem?_eq_getElem hk3, e2]
      refine item_at N3 hm f1 (by omega) ?_ ?_
      · (repeat' (first | walk1 | (dsimp only; walk1)))
        refine item_at N3 hm2 f2 (by omega) ?_ ?_
        · (repeat' (first | walk1 | (dsimp only; walk1)))
          · (((try dsimp only); first | ((with_reducible refine' wstep_next ?F ?N ?_); (case F => assumption); (case N => assumption)) | ((with_reducible refine' wstep_cont ?F ?N ?_); (case F => assumption); (case N => assumption))))
            refine ⟨_, _, ⟨k + 1, _, by omega, rfl, ?_, rfl, m_keep1 _ rfl (by intro y h1; simp [h1])⟩, by omega, by (first | (intro p hp; exact hp) | (intro p hp; k_ownIn))⟩
            rename (c1 == c2) = true => hcc
            rw [List.take_add_one, List.take_add_one, htk, hc1, hc2, eq_of_beq hcc]
          · try unfold Stop
            refine tup_slice (b := k) (by assumption) (by assumption) hm (adjust_nat (by omega)) (by omega) (by omega) ?_ ?_ (by with_unfolding_all rfl) (by kmk_pure)
            · intro _ D1 h1 F2 N2 lD
              (repeat' (first | walk1 | (dsimp only; walk1)))
              (((try dsimp only); (refine' Ends.intro ?_ ?F ?N ?S); (case F => assumption); (case N => assumption); (case S => exact fun p h => h)))
              refine ⟨_ :: [], rfl, ?_, ?_⟩
              · rw [cpre_stop htk (by omega) (by omega) (by rw [List.getD_eq_getElem?_getD, List.getD_eq_getElem?_getD, hc1, hc2]; intro e; simp_all)]
                intro _ _
                exact .tuple (.head _) (strsD (hs.take' k) _)
              · intro p hp q hq
                simp only [List.mem_cons, List.not_mem_nil, or_false] at hp
                subst hp
                exact lD q hq
            · intro he; exact absurd he (by omega)
        · with_unfolding_all rfl
      · with_unfolding_all rfl
    · rename ¬ (k : Int) < _ => hk1
      try unfold Stop
      refine tup_slice (b := k) (by assumption) (by assumption) hm (adjust_nat (by omega)) (by omega) (by omega) ?_ ?_ (by with_unfolding_all rfl) (by kmk_pure)
      · intro he; exact absurd he (by omega)
      · intro he h4 F4 N4
        (repeat' (first | walk1 | (dsimp only; walk1)))
        (((try dsimp only); (refine' Ends.intro ?_ ?F ?N ?_); (case F => assumption); (case N => assumption); rotate_left))
        · refine ⟨[], rfl, ?_, fun p hp => nomatch hp⟩
          have hk9 : k = one.length := by omega
          rw [cpre_all (by rw [← hk9, ← htk, hk9, List.take_length])]
          exact fun _ h => h
        · exact fun p hp => hp
end SC19
example : True := by
  w_top off
  first
    | walk1
    | trivial
section SC19r
noncomputable def NewOver (B : Addr) (led pre : Led) : Prop := ∀ p ∈ pre, B < p.1 ∧ ∀ q ∈ led, q.1 < p.1
theorem NewOver.nil {B : Addr} {led : Led} : NewOver B led [] := fun _ h => nomatch h
theorem NewOver.add {B : Addr} {led pre : Led} {D : Addr} {o : Obj} (W : NewOver B led pre) (h1 : B < D) (h2 : ∀ q ∈ led, q.1 < D) : NewOver B led ((D, o) :: pre) := List.forall_mem_cons.mpr ⟨⟨h1, h2⟩, W⟩
theorem NewOver.app {B : Addr} {led pre ext : Led} (W : NewOver B led pre) (h : ∀ p ∈ ext, B < p.1 ∧ ∀ q ∈ led, q.1 < p.1) : NewOver B led (ext ++ pre) := List.forall_mem_append.mpr ⟨h, W⟩
theorem NewOver.ne {B : Addr} {led pre : Led} (W : NewOver B led pre) (hB : ∀ q ∈ led, q.1 ≠ B) : ∀ q ∈ pre ++ led, q.1 ≠ B := List.forall_mem_append.mpr ⟨fun p hp => Nat.ne_of_gt (W p hp).1, hB⟩
theorem Bag.mono {k : Int} {led led' : Led} {vs : List Value} {nss : List (List Str)} (h : Bag k led vs nss) (hs : ∀ p ∈ led, p ∈ led') : Bag k led' vs nss := ⟨h.1.mono hs, h.2⟩
theorem Bag.add {k : Int} {led : Led} {vs : List Value} {nss : List (List Str)} {v : Value} {n : List Str} (h : Bag k led vs nss) (hv : DatIn led v (PD k n)) (hn : NmsStr n) : Bag k led (vs ++ [v]) (nss ++ [n]) := by
  refine ⟨?_, ?_⟩
  · rw [List.map_append]; exact h.1.append (.cons hv .nil)
  · exact List.forall_mem_append.mpr ⟨h.2, fun x hx => by rw [List.mem_singleton.mp hx]; exact hn⟩
theorem subR {sub led pre : Led} (h : ∀ p ∈ sub, p ∈ led) : ∀ p ∈ pre ++ sub, p ∈ pre ++ led := fun p hp => (List.mem_append.mp hp).elim (fun e => List.mem_append_left _ e) fun e => List.mem_append_right _ (h p e)
theorem adjust_neg1' (n : Nat) : Builtin.Slice.sliceAdjust none (some (-1)) 1 (n : Int) = (0, ((n - 1 : Nat) : Int)) := by
  rcases Nat.eq_zero_or_pos n with rfl | h
  · decide
  · exact adjust_neg1 h
section
variable {dp un : Nat} {gd : Option (List Code)} {cn : Str} {cs : Scope} {a : Addr} {ccd : Value} {cl : List (Str × Addr)} {outer : List Env} {A₀ : Around} {base h₀ : Heap} {L : Addr} {m : Str → Option Value} {s : Shared} {Q E : Value → Shared → Prop}
  {B T : Addr} {ob o : Obj} {sub led pre news : Led} {v v2 : Value} {ns ns2 : List Str} {nss : List (List Str)} {k : Int}
theorem use_place (B0 : Below A₀ base outer h₀) (F : Fr h₀ L s.heap m) (X : (hd0.heap_1 w.params).In h₀) (N : News h₀ L s.heap news) (T0 : Top vw (looseW vw []) mean mg mb h₀) (hk : cs.kind = .function) (hd : dp + 2 < recursionLimit) (hu : un + 90 < cLine)
    (hsub : ∀ p ∈ (B, ob) :: (pre ++ led), p ∈ news) (W : NewOver B led pre) (hs : ∀ p ∈ sub, p ∈ led) (hT : (T, o) ∈ led) (ho : TabO w k o) (hlo : (T == sysModules) = false) (hv : DatIn (pre ++ sub) v (namesD ns)) (hp : ∀ y ∈ ns, y.length ≤ 8) (hl : ns.length ≤ 1000)
    (h : ∀ P pre' h' tk', (∀ p ∈ pre, p ∈ pre') → DatIn (pre' ++ sub) (.ref P) (PD k ns) → NewOver B led pre' → Fr h₀ L h' m → News h₀ L h' ((B, ob) :: (pre' ++ led)) → Q (.ref P) { s with heap := h', toks := tk' }) :
    wpAny (model pg w) (ktrTop dp un gd cn cs L a ccd cl outer) (call (.ref 291) [v, .ref T]) Q E s := by
  obtain ⟨b, us, n, rfl, hm, hs9⟩ := names_open hv
  refine (place_c b T us n ns k o ((B, ob) :: (pre ++ led)) (.tail _ (subR hs _ hm)) (.tail _ (List.mem_append_right _ hT)) hs9 hp hl ho hlo) dp un gd cn cs a ccd cl outer A₀ base h₀ L m s Q E B0 F X (news_sub N hsub) T0 hk hd hu ?_
  rintro r led' h' tk' ⟨P, nw, rfl, rfl, hD, hf⟩ F' N'
  refine h P (nw ++ pre) h' tk' (fun p hp => List.mem_append_right _ hp) ?_ (W.app fun p hp => ⟨hf p hp _ (.head _), fun q hq => hf p hp q (.tail _ (List.mem_append_right _ hq))⟩) F' ?_
  · rw [List.append_assoc]; exact hD _ hv
  · refine news_sub N' fun p hp => ?_
    simp only [List.mem_append, List.mem_cons] at hp ⊢
    rcases hp with e | (e | e) | e <;> simp [e]
theorem use_append {vs : List Value} {c : Nat} (F : Fr h₀ L s.heap m) (N : News h₀ L s.heap ((B, listOf vs.toArray c) :: led)) (hB : ∀ q ∈ led, q.1 ≠ B) (hb : Bag k sub vs nss) (hv : DatIn sub v (PD k ns)) (hn : NmsStr ns) (hfit : nss.length ≤ 1000000) {A : Around}
    (h : ∀ h', Bag k sub (vs ++ [v]) (nss ++ [ns]) → Fr h₀ L h' m → News h₀ L h' ((B, listOf (vs ++ [v]).toArray (c + 1)) :: led) → Q .none { s with heap := h' }) :
    wpAny (model pg w) A (call (.builtin "list.append") [.ref B, v]) Q E s := by
  have hl := hb.1.length
  rw [List.length_map] at hl
  exact append_val F N (Upd.head hB) (by omega) fun h' F' N' => h h' (hb.add hv hn) F' N'
theorem use_least {vs : List Value} {c : Nat} (B0 : Below A₀ base outer h₀) (F : Fr h₀ L s.heap m) (X : (hd0.heap_1 w.params).In h₀) (N : News h₀ L s.heap news) (T0 : Top vw (looseW vw []) mean mg mb h₀) (hk : cs.kind = .function) (hd : dp + 2 < recursionLimit) (hu : un + 120 < cLine)
    (hsub : ∀ p ∈ (B, listOf vs.toArray c) :: (pre ++ led), p ∈ news) (W : NewOver B led pre) (hs : ∀ p ∈ sub, p ∈ led) (hB : ∀ q ∈ led, q.1 ≠ B) (hb : Bag k (pre ++ sub) vs nss) (hne : 0 < nss.length) (hl : nss.length ≤ 1000000)
    (h : ∀ b vs' c' pre' h' tk', (∀ p ∈ pre, p ∈ pre') → NewOver B led pre' → DatIn (pre' ++ sub) (.ref b) (namesD (leastN k nss)) → Bag k (pre' ++ sub) vs' (nss.erase (leastN k nss)) → Fr h₀ L h' m → News h₀ L h' ((B, listOf (List.toArray vs') c') :: (pre' ++ led)) → Q (.ref b) { s with heap := h', toks := tk' }) :
    wpAny (model pg w) (ktrTop dp un gd cn cs L a ccd cl outer) (call (.ref 298) [.ref B]) Q E s := by
  refine (least_c B vs nss c k (pre ++ sub) (pre ++ led) (subR hs) hb hne hl (W.ne hB)) dp un gd cn cs a ccd cl outer A₀ base h₀ L m s Q E B0 F X (news_sub N hsub) T0 hk hd hu ?_
  rintro r led' h' tk' ⟨vs', c', rfl, hb', hr⟩ F' N'
  obtain ⟨b, us, n, rfl, hm, hs9⟩ := names_open hr
  exact h b vs' c' pre h' tk' (fun _ h => h) W hr hb' F' N'
theorem use_stem (B0 : Below A₀ base outer h₀) (F : Fr h₀ L s.heap m) (X : (hd0.heap_1 w.params).In h₀) (N : News h₀ L s.heap news) (T0 : Top vw (looseW vw []) mean mg mb h₀) (hk : cs.kind = .function) (hd : dp + 2 < recursionLimit) (hu : un + 90 < cLine)
    (hsub : ∀ p ∈ (B, ob) :: (pre ++ led), p ∈ news) (W : NewOver B led pre) (hs : ∀ p ∈ sub, p ∈ led) (hv : DatIn (pre ++ sub) v (namesD ns)) (hp : ∀ n ∈ ns, n ∈ allS) (hl : ns.length ≤ 1000)
    (h : ∀ b pre' h' tk', (∀ p ∈ pre, p ∈ pre') → DatIn (pre' ++ sub) (.ref b) (namesD (stemN ns)) → NewOver B led pre' → Fr h₀ L h' m → News h₀ L h' ((B, ob) :: (pre' ++ led)) → Q (.ref b) { s with heap := h', toks := tk' }) :
    wpAny (model pg w) (ktrTop dp un gd cn cs L a ccd cl outer) (call (.ref 305) [v]) Q E s := by
  refine (stem_c v ns ((B, ob) :: (pre ++ led)) (hv.mono fun p hp => .tail _ (subR hs p hp)) hp hl) dp un gd cn cs a ccd cl outer A₀ base h₀ L m s Q E B0 F X (news_sub N hsub) T0 hk hd hu ?_
  rintro r led' h' tk' ⟨nw, rfl, hD, hf⟩ F' N'
  obtain ⟨b, us, n, rfl, hm, hs9⟩ := names_open (hD _ hv)
  refine h b (nw ++ pre) h' tk' (fun p hp => List.mem_append_right _ hp) ?_ (W.app fun p hp => ⟨hf p hp _ (.head _), fun q hq => hf p hp q (.tail _ (List.mem_append_right _ hq))⟩) F' ?_
  · rw [List.append_assoc]; exact hD _ hv
  · refine news_sub N' fun p hp => ?_
    simp only [List.mem_append, List.mem_cons] at hp ⊢
    rcases hp with e | (e | e) | e <;> simp [e]
theorem use_front (B0 : Below A₀ base outer h₀) (F : Fr h₀ L s.heap m) (X : (hd0.heap_1 w.params).In h₀) (N : News h₀ L s.heap news) (T0 : Top vw (looseW vw []) mean mg mb h₀) (hk : cs.kind = .function) (hd : dp + 2 < recursionLimit) (hu : un + 90 < cLine)
    (hsub : ∀ p ∈ (B, ob) :: (pre ++ led), p ∈ news) (W : NewOver B led pre) (hs : ∀ p ∈ sub, p ∈ led) (hv : DatIn (pre ++ sub) v (namesD ns)) (hv2 : DatIn (pre ++ sub) v2 (namesD ns2)) (hp : ∀ n ∈ ns, n.length ≤ 1000) (hp2 : ∀ n ∈ ns2, n.length ≤ 1000) (hl : ns.length ≤ 1000) (hl2 : ns2.length ≤ 1000)
    (hno : ∀ i, ns.take i = ns2.take i → i < ns.length → i < ns2.length)
    (h : ∀ b pre' h' tk', (∀ p ∈ pre, p ∈ pre') → DatIn (pre' ++ sub) (.ref b) (namesD (cpre ns ns2)) → NewOver B led pre' → Fr h₀ L h' m → News h₀ L h' ((B, ob) :: (pre' ++ led)) → Q (.ref b) { s with heap := h', toks := tk' }) :
    wpAny (model pg w) (ktrTop dp un gd cn cs L a ccd cl outer) (call (.ref 312) [v, v2]) Q E s := by
  refine (front_c v v2 ns ns2 ((B, ob) :: (pre ++ led)) (hv.mono fun p hp => .tail _ (subR hs p hp)) (hv2.mono fun p hp => .tail _ (subR hs p hp)) hp hp2 hl hl2 hno) dp un gd cn cs a ccd cl outer A₀ base h₀ L m s Q E B0 F X (news_sub N hsub) T0 hk hd hu ?_
  rintro r led' h' tk' ⟨nw, rfl, hD, hf⟩ F' N'
  obtain ⟨b, us, n, rfl, hm, hs9⟩ := names_open (hD _ hv)
  refine h b (nw ++ pre) h' tk' (fun p hp => List.mem_append_right _ hp) ?_ (W.app fun p hp => ⟨hf p hp _ (.head _), fun q hq => hf p hp q (.tail _ (List.mem_append_right _ hq))⟩) F' ?_
  · rw [List.append_assoc]; exact hD _ hv
  · refine news_sub N' fun p hp => ?_
    simp only [List.mem_append, List.mem_cons] at hp ⊢
    rcases hp with e | (e | e) | e <;> simp [e]
end
section
variable {A : Around} {E Q : Value → Shared → Prop} {s : Shared} {h₀ : Heap} {L : Addr} {m : Str → Option Value} {news : Led} {t b : Addr} {ns ms : List Str}
theorem use_add {ws : List Value} {n : Nat} (F : Fr h₀ L s.heap m) (N : News h₀ L s.heap news) (hv : DatIn news (.ref t) (namesD ns)) (hm : (b, ({ cls := .type "tuple", data := .seq ws.toArray n } : Obj)) ∈ news) (hs : StrsAre ws ms) (hne : ms ≠ []) (hl : ns.length ≤ 1000) (hl2 : ms.length ≤ 1000)
    (h : ∀ r ext h', (∀ sub, DatIn sub (.ref t) (namesD ns) → DatIn sub (.ref b) (namesD ms) → DatIn (ext ++ sub) (.ref r) (namesD (ns ++ ms))) → (∀ p ∈ ext, ∀ q ∈ news, q.1 < p.1) → Fr h₀ L h' m → News h₀ L h' (ext ++ news) → Q (.ref r) { s with heap := h' }) :
    wpAny (model pg w) A (binaryOp .Add (.ref t) (.ref b)) Q E s := by
  obtain ⟨t', us, c, e, hm1, hs1⟩ := names_open hv
  cases e
  have q1 := hs1.length
  have q2 := hs.length
  refine add_tuples (vs := us) (ws := ws) F N ⟨_, (N _ hm1).1, rfl, _, rfl⟩ ⟨_, (N _ hm).1, rfl, _, rfl⟩ ?_ ?_ ?_ (by rw [sizeLine_eq]; omega)
  · rintro rfl
    cases hs1
    exact h b [] s.heap (fun sub _ h2 => h2) (fun _ h => nomatch h) F N
  · intro _ hw
    subst hw
    cases hs
    exact absurd rfl hne
  · intro _ _ h' F' N'
    refine h _ [_] h' (fun sub _ _ => ?_) (fun p hp q hq => ?_) F' N'
    · unfold namesD
      rw [List.map_append]
      exact .tuple (.head _) ((strsD hs1 _).append (strsD hs _))
    · rw [List.mem_singleton.mp hp]
      exact Heap.lt_size (N q hq).1
theorem use_init {value slice : PySem.Expr} {u : Tok} (F : Fr h₀ L s.heap m) (N : News h₀ L s.heap news) (hv : DatIn news (.ref t) (namesD ns)) (hl : ns.length ≤ 1000)
    (h : ∀ r ext h', (∀ sub, DatIn sub (.ref t) (namesD ns) → DatIn (ext ++ sub) (.ref r) (namesD ns.dropLast)) → (∀ p ∈ ext, ∀ q ∈ news, q.1 < p.1) → Fr h₀ L h' m → News h₀ L h' (ext ++ news) → Q (.ref r) { s with heap := h' })
    (hs : subscripted slice false (.ref t) (.ref s.heap.objs.size) = operate [.ref s.heap.objs.size, .ref t] (getItem (.ref t) (.ref s.heap.objs.size)))
    (hg : ∀ r, letTemporaryGo value (.ref t) r = pure ()) :
    wpAny (model pg w) A (subscriptTail value slice (.ref t) (.ref s.heap.objs.size)) Q E { s with heap := s.heap.push { cls := .type "slice", data := .fields #[.none, .int (-1) u, .none] } } := by
  obtain ⟨t', us, c, e, hm1, hs1⟩ := names_open hv
  cases e
  have q1 := hs1.length
  refine tup_slice (b := us.length - 1) F N hm1 (adjust_neg1' _) (by omega) (by omega) ?_ ?_ hs hg
  · intro _ D h' F' N' lD
    refine h D [_] h' (fun sub _ => ?_) (fun p hp q hq => ?_) F' N'
    · rw [List.dropLast_eq_take, ← q1]
      exact .tuple (.head _) (strsD (hs1.take' _) _)
    · rw [List.mem_singleton.mp hp]; exact lD q hq
  · intro e h' F' N'
    have e0 : ns = [] := List.eq_nil_of_length_eq_zero (by omega)
    subst e0
    exact h t [] h' (fun sub h => h) (fun _ h => nomatch h) F' N'
end
section
variable {h₀ h : Heap} {L : Addr} {led pre ext : Led} {x1 x2 x3 y : Addr × Obj}
theorem swapA (N : News h₀ L h (x1 :: x2 :: x3 :: y :: led)) : News h₀ L h (y :: ([x1, x2, x3] ++ led)) := news_sub N fun p hp => by
  simp only [List.mem_append, List.mem_cons, List.not_mem_nil, or_false] at hp ⊢
  rcases hp with e | (e | e | e) | e <;> simp [e]
theorem swapB (N : News h₀ L h (x1 :: x2 :: y :: led)) : News h₀ L h (y :: ([x1, x2] ++ led)) := news_sub N fun p hp => by
  simp only [List.mem_append, List.mem_cons, List.not_mem_nil, or_false] at hp ⊢
  rcases hp with e | (e | e) | e <;> simp [e]
theorem swapC (N : News h₀ L h (x1 :: y :: (pre ++ led))) : News h₀ L h (y :: ((x1 :: pre) ++ led)) := news_sub N fun p hp => by
  simp only [List.mem_append, List.mem_cons] at hp ⊢
  rcases hp with e | (e | e) | e <;> simp [e]
theorem swapD (N : News h₀ L h (ext ++ (x1 :: y :: (pre ++ led)))) : News h₀ L h (y :: ((ext ++ x1 :: pre) ++ led)) := news_sub N fun p hp => by
  simp only [List.mem_append, List.mem_cons] at hp ⊢
  rcases hp with e | (e | e | e) | e <;> simp [e]
theorem swapE (N : News h₀ L h (ext ++ (y :: (pre ++ led)))) : News h₀ L h (y :: ((ext ++ pre) ++ led)) := news_sub N fun p hp => by
  simp only [List.mem_append, List.mem_cons] at hp ⊢
  rcases hp with e | (e | e) | e <;> simp [e]
end
theorem subL {pre pre' led : Led} (h : ∀ p ∈ pre, p ∈ pre') : ∀ p ∈ pre ++ led, p ∈ pre' ++ led := fun p hp => (List.mem_append.mp hp).elim (fun e => List.mem_append_left _ (h p e)) fun e => List.mem_append_right _ e
theorem NewOver.all {B : Addr} {led pre : Led} {D : Addr} {o : Obj} (W : NewOver B led pre) (l : B < D ∧ AllLt D (pre ++ led)) : NewOver B led ((D, o) :: pre) := W.add l.1 fun q hq => ktn_ltOf l.2 q (List.mem_append_right _ hq)
theorem NewOver.ext1 {B D : Addr} {led pre ext : Led} {o ob : Obj} (W : NewOver B led ((D, o) :: pre)) (h : ∀ p ∈ ext, ∀ q ∈ (D, o) :: (B, ob) :: (pre ++ led), q.1 < p.1) : NewOver B led (ext ++ (D, o) :: pre) :=
  W.app fun p hp => ⟨h p hp _ (.tail _ (.head _)), fun q hq => h p hp q (.tail _ (.tail _ (List.mem_append_right _ hq)))⟩
theorem NewOver.ext0 {B : Addr} {led pre ext : Led} {ob : Obj} (W : NewOver B led pre) (h : ∀ p ∈ ext, ∀ q ∈ (B, ob) :: (pre ++ led), q.1 < p.1) : NewOver B led (ext ++ pre) :=
  W.app fun p hp => ⟨h p hp _ (.head _), fun q hq => h p hp q (.tail _ (List.mem_append_right _ hq))⟩
end SC19r
example : True := by
  w_top off
  first
    | walk1
    | trivial
end GC
example : True := by
  w_top off
  first
    | walk1
    | trivial
section SC20
local macro_rules | `(tactic| walk_at "subscriptTail Name BinOp ref int") => `(tactic| k_dflt ((refine' sub_strs (xs := poolS) ?N ?m (PoolIs.h ?s) (kix0 _) (kix1 _) ?hf ?_ ?hq); (case N => assumption); (case s => assumption); (case m => walk_at "INN"); (case hf => omega); (case hq => with_unfolding_all rfl); intro t9; (try dsimp only)))
local macro_rules | `(tactic| walk_at "compareOp Eq ref ref") => `(tactic| k_dflt ((refine' eq_empty ?N ?m ?b ?u ?_); (case N => assumption); (case m => walk_at "INN"); (case b => walk_at "INN"); (case u => first | ke_room | omega)))
local macro_rules | `(tactic| walk_at "compareOp NotEq ref ref") => `(tactic| k_dflt ((refine' ne_empty ?N ?m ?b ?u ?_); (case N => assumption); (case m => walk_at "INN"); (case b => walk_at "INN"); (case u => first | ke_room | omega)))
noncomputable def pcP (x : Int) : Str := poolS.getD ((x.fdiv 8).fmod 8).toNat Str.empty
noncomputable def otP (x : Int) : Str := poolS.getD ((x.fdiv 64).fmod 8).toNat Str.empty
noncomputable def PlainD (k x : Int) (nss : List (List Str)) : List Str × List (List Str) :=
  if nss.length = 0 ∨ x.fmod 8 < 2 then ([pcP x, otP x], nss ++ [[pcP x, otP x]])
  else if x.fmod 8 = 4 then (leastN k (nss ++ [[pcP x]]), (nss ++ [[pcP x]]).erase (leastN k (nss ++ [[pcP x]])))
  else if x.fmod 8 = 2 then (leastN k nss, nss.erase (leastN k nss) ++ [leastN k nss ++ [pcP x]])
  else if x.fmod 8 = 3 then (leastN k nss, nss.erase (leastN k nss) ++ [(leastN k nss).dropLast ++ [pcP x, otP x]])
  else if x.fmod 8 = 5 then (leastN k nss, nss.erase (leastN k nss) ++ [stemN (leastN k nss)])
  else if x.fmod 8 = 6 ∧ (nss.erase (leastN k nss)).length ≠ 0 then
    (leastN k (nss.erase (leastN k nss)), (nss.erase (leastN k nss)).erase (leastN k (nss.erase (leastN k nss))) ++ [cpre (leastN k nss) (leastN k (nss.erase (leastN k nss)))])
  else (leastN k nss, nss.erase (leastN k nss))
inductive BagPost (k : Int) (B : Addr) (nss : List (List Str)) (ns : List Str) (sub led : Led) (r : Value) (led' : Led) : Prop
  | mk (vs' : List Value) (c' : Nat) (nw : Led) (el : led' = (B, listOf (List.toArray vs') c') :: (nw ++ led)) (b : Bag k (nw ++ sub) vs' nss) (d : DatIn (nw ++ sub) r (namesD ns)) (l : ∀ p ∈ nw, B < p.1 ∧ ∀ q ∈ led, q.1 < p.1)
theorem pool_ix (y : Int) : poolS.getD (y.fmod 8).toNat Str.empty ∈ poolS := by
  have h1 := kix0 y
  have h2 := kix1 y
  have h3 : (y.fmod 8).toNat < poolS.length := by omega
  rw [List.getD_eq_getElem?_getD, List.getElem?_eq_getElem h3]
  exact List.getElem_mem _
theorem pcP_mem (x : Int) : pcP x ∈ allS := .tail _ (pool_ix _)
theorem otP_mem (x : Int) : otP x ∈ allS := .tail _ (pool_ix _)
theorem pool_8 : ∀ y ∈ allS, y.length ≤ 8 := by decide +kernel
theorem pool_ok : ∀ y ∈ allS, PyData.strOk y = true := by decide +kernel
theorem in1 {a : Str} (ha : a ∈ allS) : ∀ y ∈ [a], y ∈ allS := List.forall_mem_cons.mpr ⟨ha, fun _ h => nomatch h⟩
theorem in2 {a b : Str} (ha : a ∈ allS) (hb : b ∈ allS) : ∀ y ∈ [a, b], y ∈ allS := List.forall_mem_cons.mpr ⟨ha, in1 hb⟩
theorem in8 {ns : List Str} (h : ∀ y ∈ ns, y ∈ allS) : ∀ y ∈ ns, y.length ≤ 8 := fun y hy => pool_8 y (h y hy)
theorem inK {ns : List Str} (h : ∀ y ∈ ns, y ∈ allS) : ∀ y ∈ ns, y.length ≤ 1000 := fun y hy => Nat.le_trans (pool_8 y (h y hy)) (by decide)
theorem inOk {ns : List Str} (h : ∀ y ∈ ns, y ∈ allS) : NmsStr ns := fun y hy => pool_ok y (h y hy)
section
variable {k x : Int} {nss : List (List Str)}
theorem plainD_0 (h : nss.length = 0 ∨ x.fmod 8 < 2) : PlainD k x nss = ([pcP x, otP x], nss ++ [[pcP x, otP x]]) := by unfold PlainD; rw [if_pos h]
theorem plainD_4 (h0 : nss.length ≠ 0) (h : x.fmod 8 = 4) : PlainD k x nss = (leastN k (nss ++ [[pcP x]]), (nss ++ [[pcP x]]).erase (leastN k (nss ++ [[pcP x]]))) := by unfold PlainD; rw [if_neg (no0 h0 (by rw [h]; decide)), if_pos h]
theorem plainD_2 (h0 : nss.length ≠ 0) (h : x.fmod 8 = 2) : PlainD k x nss = (leastN k nss, nss.erase (leastN k nss) ++ [leastN k nss ++ [pcP x]]) := by unfold PlainD; rw [if_neg (no0 h0 (by rw [h]; decide)), if_neg (by rw [h]; decide), if_pos h]
theorem plainD_3 (h0 : nss.length ≠ 0) (h : x.fmod 8 = 3) : PlainD k x nss = (leastN k nss, nss.erase (leastN k nss) ++ [(leastN k nss).dropLast ++ [pcP x, otP x]]) := by unfold PlainD; rw [if_neg (no0 h0 (by rw [h]; decide)), if_neg (by rw [h]; decide), if_neg (by rw [h]; decide), if_pos h]
theorem plainD_5 (h0 : nss.length ≠ 0) (h : x.fmod 8 = 5) : PlainD k x nss = (leastN k nss, nss.erase (leastN k nss) ++ [stemN (leastN k nss)]) := by unfold PlainD; rw [if_neg (no0 h0 (by rw [h]; decide)), if_neg (by rw [h]; decide), if_neg (by rw [h]; decide), if_neg (by rw [h]; decide), if_pos h]
theorem plainD_6 (h0 : nss.length ≠ 0) (h : x.fmod 8 = 6) (h1 : (nss.erase (leastN k nss)).length ≠ 0) : PlainD k x nss = (leastN k (nss.erase (leastN k nss)), (nss.erase (leastN k nss)).erase (leastN k (nss.erase (leastN k nss))) ++ [cpre (leastN k nss) (leastN k (nss.erase (leastN k nss)))]) := by unfold PlainD; rw [if_neg (no0 h0 (by rw [h]; decide)), if_neg (by rw [h]; decide), if_neg (by rw [h]; decide), if_neg (by rw [h]; decide), if_neg (by rw [h]; decide), if_pos ⟨h, h1⟩]
theorem plainD_7 (h0 : nss.length ≠ 0) (h2 : ¬ x.fmod 8 < 2) (h : x.fmod 8 ≠ 2) (h3 : x.fmod 8 ≠ 3) (h4 : x.fmod 8 ≠ 4) (h5 : x.fmod 8 ≠ 5) (h6 : x.fmod 8 ≠ 6 ∨ (nss.erase (leastN k nss)).length = 0) : PlainD k x nss = (leastN k nss, nss.erase (leastN k nss)) := by
  unfold PlainD; rw [if_neg (no0 h0 h2), if_neg h4, if_neg h, if_neg h3, if_neg h5, if_neg (fun q => h6.elim (fun a => a q.1) (fun a => q.2 a))]
end
theorem stemN_in {ns : List Str} (h : ∀ y ∈ ns, y ∈ allS) : ∀ y ∈ stemN ns, y ∈ allS := by
  rcases List.eq_nil_or_concat ns with rfl | ⟨ys, z, rfl⟩
  · exact fun y hy => (nomatch hy)
  · rw [List.concat_eq_append] at h ⊢
    by_cases hz : z = Str.ofString "a.&"
    · subst hz
      rw [stemN_amp]
      refine List.forall_mem_append.mpr ⟨fun y hy => h y (List.mem_append_left _ hy), fun y hy => ?_⟩
      rw [List.mem_singleton.mp hy]
      decide +kernel
    · rw [stemN_same (by simpa using hz)]
      exact h
theorem stemN_len (ns : List Str) : (stemN ns).length ≤ ns.length := by
  unfold stemN
  split
  · simp
  · rename_i h
    have := List.length_pos_iff.mpr h
    simp; omega
theorem cpre_in : ∀ {a b : List Str}, (∀ y ∈ a, y ∈ allS) → ∀ y ∈ cpre a b, y ∈ allS
  | [], _, _ => by intro y hy; simp [cpre] at hy
  | _ :: _, [], _ => by intro y hy; simp [cpre] at hy
  | a :: as, b :: bs, h => by
    unfold cpre
    split
    · exact List.forall_mem_cons.mpr ⟨h a (.head _), cpre_in fun y hy => h y (.tail _ hy)⟩
    · exact fun y hy => (nomatch hy)
theorem cpre_len : ∀ (a b : List Str), (cpre a b).length ≤ a.length
  | [], _ => by simp [cpre]
  | _ :: _, [] => by simp [cpre]
  | a :: as, b :: bs => by
    have := cpre_len as bs
    unfold cpre
    split
    · simp; omega
    · simp
theorem Ends.bag {g : Heap} {L B : Addr} {s₀ : Shared} {k : Int} {nss : List (List Str)} {ns : List Str} {sub led pre : Led} {r : Value} {h' : Heap} {tk c : Nat} {m' : Str → Option Value} {vs : List Value}
    (hb : Bag k (pre ++ sub) vs nss) (hr : DatIn (pre ++ sub) r (namesD ns)) (W : NewOver B led pre) (F : Fr g L h' m') (N : News g L h' ((B, listOf vs.toArray c) :: (pre ++ led))) : Ends g L s₀ (BagPost k B nss ns sub led) r { s₀ with heap := h', toks := tk } :=
  ⟨h', tk, m', _, rfl, F, N, vs, c, pre, rfl, hb, hr, W⟩
local macro_rules | `(tactic| walk_at "subscriptTail Name Slice ref ref") => `(tactic| k_dflt (refine stop_of ?_))
theorem plain_c (B T : Addr) (vs : List Value) (nss : List (List Str)) (c : Nat) (k : Int) (o : Obj) (x : Int) (u : Tok) (sub led : Led) (hsl : ∀ p ∈ sub, p ∈ led) (hb : Bag k sub vs nss) (hT : (T, o) ∈ led) (ho : TabO w k o) (hlo : (T == sysModules) = false) (hB : ∀ q ∈ led, q.1 ≠ B)
    (hp : ∀ n ∈ nss, ∀ y ∈ n, y ∈ allS) (hl : ∀ n ∈ nss, n.length ≤ 900) (hn : nss.length ≤ 900000)
    (hno : (nss.erase (leastN k nss)).length ≠ 0 → ∀ i, (leastN k nss).take i = (leastN k (nss.erase (leastN k nss))).take i → i < (leastN k nss).length → i < (leastN k (nss.erase (leastN k nss))).length) :
    Con w mean mg mb 319 [.ref B, .ref T, .int x u] ((B, listOf vs.toArray c) :: led) 4 160 (BagPost k B (PlainD k x nss).2 (PlainD k x nss).1 sub led) := by
  refine' Con.body (binds := [(Str.ofString "bag", .ref B), (Str.ofString "table", .ref T), (Str.ofString "x", .int x u)]) ?ho ?hcd ?hbind ?hloc ?hD ?_ ?c2 ?c3 ?c4 ?c5
  ((((((case ho => k_is); (case hcd => k_is); (case hbind => exact rfl); (case hloc => exact rfl); (case hD => decide); (case c2 => exact rfl); (case c3 => exact rfl); (case c4 => exact rfl); (case c5 => decide)))); intro _ _ _ _ _ _ _ _ _ _ _ _ _ _ _ _))
  have hpl9 := poolS_len
  have hvl9 : vs.length = nss.length := by have := hb.1.length; simpa using this
  (repeat' (first | ((with_reducible show wpAny _ _ (call (Value.ref _) _) _ _ _); first | (k_dflt ((show wpAny _ _ (call (Value.ref 270) []) _ _ _); (refine' Con.use_pool (pool_c _) ?B ?F ?X ?N ?T ?hk ?hd ?hu ?_); ((((case B => k_asm); (case F => k_asm); (case X => k_asm); (case N => k_asm); (case T => k_asm); (case hk => exact rfl); (case hd => omega); (case hu => omega)))); intro _ _ _ _ _ _ _ _; (try dsimp only); (try k_sweep)))) | walk1 | (dsimp only; walk1)))
  · rename (_ < _ ∧ _ < _ ∧ _ < _ ∧ AllLt _ _) => lD
    rename (_ < _ ∧ _ < _ ∧ AllLt _ _) => lE
    rename (∀ p ∈ _ :: led, _) => lP
    rename News _ _ _ (_ :: _) => N0
    refine' use_place (ns := [pcP x, otP x]) (k := k) ?B0 ?F ?X (swapA N0) ?T0 ?hk ?hd ?hu (fun _ h => h) ?W hsl hT ho hlo ?hv (in8 (in2 (pcP_mem x) (otP_mem x))) (by simp) ?_
    (((case B0 => k_asm); (case F => k_asm); (case X => k_asm); (case T0 => k_asm); (case hk => exact rfl); (case hd => omega); (case hu => omega)))
    case W => exact ((NewOver.nil.add (lP _ (.head _)) (fun q hq => lP q (.tail _ hq))).add lE.2.1 (ktn_ltOf lE.2.2)).add lD.2.2.1 (ktn_ltOf lD.2.2.2)
    case hv => exact .tuple (vs := [.str _ _, .str _ _]) (.head _) (.cons (.str _ _) (.cons (.str _ _) .nil))
    intro P1 pre1 h1 tk1 hm1 d1 W1 F1 N1
    (repeat' (first | ((with_reducible show wpAny _ _ (call (Value.ref _) _) _ _ _); first | (k_dflt ((show wpAny _ _ (call (Value.ref 270) []) _ _ _); (refine' Con.use_pool (pool_c _) ?B ?F ?X ?N ?T ?hk ?hd ?hu ?_); ((((case B => k_asm); (case F => k_asm); (case X => k_asm); (case N => k_asm); (case T => k_asm); (case hk => exact rfl); (case hd => omega); (case hu => omega)))); intro _ _ _ _ _ _ _ _; (try dsimp only); (try k_sweep)))) | walk1 | (dsimp only; walk1)))
    refine use_append F1 N1 (W1.ne hB) (hb.mono (fun p hp => List.mem_append_right _ hp)) d1 (inOk (in2 (pcP_mem x) (otP_mem x))) (by omega) ?_
    intro h2 hb2 F2 N2
    (repeat' (first | ((with_reducible show wpAny _ _ (call (Value.ref _) _) _ _ _); first | (k_dflt ((show wpAny _ _ (call (Value.ref 270) []) _ _ _); (refine' Con.use_pool (pool_c _) ?B ?F ?X ?N ?T ?hk ?hd ?hu ?_); ((((case B => k_asm); (case F => k_asm); (case X => k_asm); (case N => k_asm); (case T => k_asm); (case hk => exact rfl); (case hd => omega); (case hu => omega)))); intro _ _ _ _ _ _ _ _; (try dsimp only); (try k_sweep)))) | walk1 | (dsimp only; walk1)))
    rename News _ _ _ ((_, _) :: (B, _) :: _) => N3
    rename (_ < _ ∧ AllLt _ _) => l3
    try dsimp only
    rw [plainD_0 (.inl (by omega))]
    refine' Ends.bag ?_ ?_ ?_ (by assumption) (swapC N3)
    · exact hb2.mono (fun p hp => .tail _ hp)
    · exact .tuple (vs := [.str _ _, .str _ _]) (.head _) (.cons (.str _ _) (.cons (.str _ _) .nil))
    · exact W1.add l3.1 fun q hq => ktn_ltOf l3.2 q (List.mem_append_right _ hq)
  · rename (_ < _ ∧ _ < _ ∧ _ < _ ∧ AllLt _ _) => lD
    rename (_ < _ ∧ _ < _ ∧ AllLt _ _) => lE
    rename (∀ p ∈ _ :: led, _) => lP
    rename News _ _ _ (_ :: _) => N0
    refine' use_place (ns := [pcP x, otP x]) (k := k) ?B0 ?F ?X (swapA N0) ?T0 ?hk ?hd ?hu (fun _ h => h) ?W hsl hT ho hlo ?hv (in8 (in2 (pcP_mem x) (otP_mem x))) (by simp) ?_
    (((case B0 => k_asm); (case F => k_asm); (case X => k_asm); (case T0 => k_asm); (case hk => exact rfl); (case hd => omega); (case hu => omega)))
    case W => exact ((NewOver.nil.add (lP _ (.head _)) (fun q hq => lP q (.tail _ hq))).add lE.2.1 (ktn_ltOf lE.2.2)).add lD.2.2.1 (ktn_ltOf lD.2.2.2)
    case hv => exact .tuple (vs := [.str _ _, .str _ _]) (.head _) (.cons (.str _ _) (.cons (.str _ _) .nil))
    intro P1 pre1 h1 tk1 hm1 d1 W1 F1 N1
    (repeat' (first | ((with_reducible show wpAny _ _ (call (Value.ref _) _) _ _ _); first | (k_dflt ((show wpAny _ _ (call (Value.ref 270) []) _ _ _); (refine' Con.use_pool (pool_c _) ?B ?F ?X ?N ?T ?hk ?hd ?hu ?_); ((((case B => k_asm); (case F => k_asm); (case X => k_asm); (case N => k_asm); (case T => k_asm); (case hk => exact rfl); (case hd => omega); (case hu => omega)))); intro _ _ _ _ _ _ _ _; (try dsimp only); (try k_sweep)))) | walk1 | (dsimp only; walk1)))
    refine use_append F1 N1 (W1.ne hB) (hb.mono (fun p hp => List.mem_append_right _ hp)) d1 (inOk (in2 (pcP_mem x) (otP_mem x))) (by omega) ?_
    intro h2 hb2 F2 N2
    (repeat' (first | ((with_reducible show wpAny _ _ (call (Value.ref _) _) _ _ _); first | (k_dflt ((show wpAny _ _ (call (Value.ref 270) []) _ _ _); (refine' Con.use_pool (pool_c _) ?B ?F ?X ?N ?T ?hk ?hd ?hu ?_); ((((case B => k_asm); (case F => k_asm); (case X => k_asm); (case N => k_asm); (case T => k_asm); (case hk => exact rfl); (case hd => omega); (case hu => omega)))); intro _ _ _ _ _ _ _ _; (try dsimp only); (try k_sweep)))) | walk1 | (dsimp only; walk1)))
    rename News _ _ _ ((_, _) :: (B, _) :: _) => N3
    rename (_ < _ ∧ AllLt _ _) => l3
    try dsimp only
    rw [plainD_0 (.inr (by omega))]
    refine' Ends.bag ?_ ?_ ?_ (by assumption) (swapC N3)
    · exact hb2.mono (fun p hp => .tail _ hp)
    · exact .tuple (vs := [.str _ _, .str _ _]) (.head _) (.cons (.str _ _) (.cons (.str _ _) .nil))
    · exact W1.add l3.1 fun q hq => ktn_ltOf l3.2 q (List.mem_append_right _ hq)
  · rename (_ < _ ∧ _ < _ ∧ _ < _ ∧ AllLt _ _) => lD
    rename (_ < _ ∧ _ < _ ∧ AllLt _ _) => lE
    rename (∀ p ∈ _ :: led, _) => lP
    rename News _ _ _ (_ :: _) => N0
    refine' use_place (ns := [pcP x]) (k := k) ?B0 ?F ?X (swapA N0) ?T0 ?hk ?hd ?hu (fun _ h => h) ?W hsl hT ho hlo ?hv (in8 (in1 (pcP_mem x))) (by simp) ?_
    (((case B0 => k_asm); (case F => k_asm); (case X => k_asm); (case T0 => k_asm); (case hk => exact rfl); (case hd => omega); (case hu => omega)))
    case W => exact ((NewOver.nil.add (lP _ (.head _)) (fun q hq => lP q (.tail _ hq))).add lE.2.1 (ktn_ltOf lE.2.2)).add lD.2.2.1 (ktn_ltOf lD.2.2.2)
    case hv => exact .tuple (vs := [.str _ _]) (.head _) (.cons (.str _ _) .nil)
    intro P1 pre1 h1 tk1 hm1 d1 W1 F1 N1
    (repeat' (first | ((with_reducible show wpAny _ _ (call (Value.ref _) _) _ _ _); first | (k_dflt ((show wpAny _ _ (call (Value.ref 270) []) _ _ _); (refine' Con.use_pool (pool_c _) ?B ?F ?X ?N ?T ?hk ?hd ?hu ?_); ((((case B => k_asm); (case F => k_asm); (case X => k_asm); (case N => k_asm); (case T => k_asm); (case hk => exact rfl); (case hd => omega); (case hu => omega)))); intro _ _ _ _ _ _ _ _; (try dsimp only); (try k_sweep)))) | walk1 | (dsimp only; walk1)))
    refine use_append F1 N1 (W1.ne hB) (hb.mono (fun p hp => List.mem_append_right _ hp)) d1 (inOk (in1 (pcP_mem x))) (by omega) ?_
    intro h2 hb2 F2 N2
    (repeat' (first | ((with_reducible show wpAny _ _ (call (Value.ref _) _) _ _ _); first | (k_dflt ((show wpAny _ _ (call (Value.ref 270) []) _ _ _); (refine' Con.use_pool (pool_c _) ?B ?F ?X ?N ?T ?hk ?hd ?hu ?_); ((((case B => k_asm); (case F => k_asm); (case X => k_asm); (case N => k_asm); (case T => k_asm); (case hk => exact rfl); (case hd => omega); (case hu => omega)))); intro _ _ _ _ _ _ _ _; (try dsimp only); (try k_sweep)))) | walk1 | (dsimp only; walk1)))
    refine' use_least (pre := pre1) ?B0 ?F ?X N2 ?T0 ?hk ?hd ?hu (fun _ h => h) W1 hsl hB hb2 (by simp) (by simp; omega) ?_
    (((case B0 => k_asm); (case F => k_asm); (case X => k_asm); (case T0 => k_asm); (case hk => exact rfl); (case hd => omega); (case hu => omega)))
    intro b vs' c' pre3 h3 tk3 hm3 W3 d3 hb3 F3 N3
    (repeat' (first | ((with_reducible show wpAny _ _ (call (Value.ref _) _) _ _ _); first | (k_dflt ((show wpAny _ _ (call (Value.ref 270) []) _ _ _); (refine' Con.use_pool (pool_c _) ?B ?F ?X ?N ?T ?hk ?hd ?hu ?_); ((((case B => k_asm); (case F => k_asm); (case X => k_asm); (case N => k_asm); (case T => k_asm); (case hk => exact rfl); (case hd => omega); (case hu => omega)))); intro _ _ _ _ _ _ _ _; (try dsimp only); (try k_sweep)))) | walk1 | (dsimp only; walk1)))
    try dsimp only
    rw [plainD_4 (by omega) (by assumption)]
    exact Ends.bag hb3 d3 W3 (by assumption) N3
  · rename (_ < _ ∧ _ < _ ∧ AllLt _ _) => lE
    rename (∀ p ∈ _ :: led, _) => lP
    rename News _ _ _ (_ :: _) => N0
    refine' use_least ?B0 ?F ?X (swapB N0) ?T0 ?hk ?hd ?hu (fun _ h => h) ?W hsl hB (hb.mono (fun p hp => List.mem_append_right _ hp)) (by omega) (by omega) ?_
    (((case B0 => k_asm); (case F => k_asm); (case X => k_asm); (case T0 => k_asm); (case hk => exact rfl); (case hd => omega); (case hu => omega)))
    case W => exact (NewOver.nil.add (lP _ (.head _)) (fun q hq => lP q (.tail _ hq))).add lE.2.1 (ktn_ltOf lE.2.2)
    have hlm := leastN_mem (k := k) (nss := nss) (by omega)
    have hll := hl _ hlm
    have hlp := hp _ hlm
    have hel : (nss.erase (leastN k nss)).length ≤ 900000 := by rw [List.length_erase_of_mem hlm]; omega
    intro b vs' c' pre3 h3 tk3 hm3 W3 d3 hb3 F3 N3
    have hvl3 : vs'.length = (nss.erase (leastN k nss)).length := by have := hb3.1.length; simpa using this
    clear N0
    (repeat' (first | ((with_reducible show wpAny _ _ (call (Value.ref _) _) _ _ _); first | (k_dflt ((show wpAny _ _ (call (Value.ref 270) []) _ _ _); (refine' Con.use_pool (pool_c _) ?B ?F ?X ?N ?T ?hk ?hd ?hu ?_); ((((case B => k_asm); (case F => k_asm); (case X => k_asm); (case N => k_asm); (case T => k_asm); (case hk => exact rfl); (case hd => omega); (case hu => omega)))); intro _ _ _ _ _ _ _ _; (try dsimp only); (try k_sweep)))) | walk1 | (dsimp only; walk1)))
    · rename News _ _ _ (_ :: _ :: _) => N0
      rename (_ < _ ∧ AllLt _ _) => l1
      refine use_add (ns := leastN k nss) (ms := [pcP x]) (ws := [.str _ _]) (by assumption) N0 (d3.mono fun p hp => .tail _ (.tail _ (subR hsl p hp))) (.head _) (.cons _ _ .nil) (by simp) (by omega) (by simp) ?_
      intro r ext h4 hD4 hx4 F4 N4
      (repeat' (first | ((with_reducible show wpAny _ _ (call (Value.ref _) _) _ _ _); first | (k_dflt ((show wpAny _ _ (call (Value.ref 270) []) _ _ _); (refine' Con.use_pool (pool_c _) ?B ?F ?X ?N ?T ?hk ?hd ?hu ?_); ((((case B => k_asm); (case F => k_asm); (case X => k_asm); (case N => k_asm); (case T => k_asm); (case hk => exact rfl); (case hd => omega); (case hu => omega)))); intro _ _ _ _ _ _ _ _; (try dsimp only); (try k_sweep)))) | walk1 | (dsimp only; walk1)))
      refine' use_place (ns := leastN k nss ++ [pcP x]) (k := k) ?B0 ?F ?X (swapD N4) ?T0 ?hk ?hd ?hu (fun _ h => h) ?W hsl hT ho hlo ?hv (in8 (List.forall_mem_append.mpr ⟨hlp, in1 (pcP_mem x)⟩)) ?hl9 ?_
      (((case B0 => k_asm); (case F => k_asm); (case X => k_asm); (case T0 => k_asm); (case hk => exact rfl); (case hd => omega); (case hu => omega)))
      case W => exact (W3.all l1).ext1 hx4
      case hv => (rw [List.append_assoc]; exact hD4 _ (d3.mono fun p hp => .tail _ hp) (.tuple (vs := [.str _ _]) (.head _) (.cons (.str _ _) .nil)))
      case hl9 => (simp; omega)
      intro P5 pre5 h5 tk5 hm5 d5 W5 F5 N5
      (repeat' (first | ((with_reducible show wpAny _ _ (call (Value.ref _) _) _ _ _); first | (k_dflt ((show wpAny _ _ (call (Value.ref 270) []) _ _ _); (refine' Con.use_pool (pool_c _) ?B ?F ?X ?N ?T ?hk ?hd ?hu ?_); ((((case B => k_asm); (case F => k_asm); (case X => k_asm); (case N => k_asm); (case T => k_asm); (case hk => exact rfl); (case hd => omega); (case hu => omega)))); intro _ _ _ _ _ _ _ _; (try dsimp only); (try k_sweep)))) | walk1 | (dsimp only; walk1)))
      refine use_append F5 N5 (W5.ne hB) (hb3.mono (subL fun p hp => hm5 p (List.mem_append_right _ (.tail _ hp)))) d5 (inOk (List.forall_mem_append.mpr ⟨hlp, in1 (pcP_mem x)⟩)) (by omega) ?_
      intro h6 hb6 F6 N6
      (repeat' (first | ((with_reducible show wpAny _ _ (call (Value.ref _) _) _ _ _); first | (k_dflt ((show wpAny _ _ (call (Value.ref 270) []) _ _ _); (refine' Con.use_pool (pool_c _) ?B ?F ?X ?N ?T ?hk ?hd ?hu ?_); ((((case B => k_asm); (case F => k_asm); (case X => k_asm); (case N => k_asm); (case T => k_asm); (case hk => exact rfl); (case hd => omega); (case hu => omega)))); intro _ _ _ _ _ _ _ _; (try dsimp only); (try k_sweep)))) | walk1 | (dsimp only; walk1)))
      all_goals first | (exfalso; omega) | skip
      try dsimp only
      rw [plainD_2 (by omega) (by assumption)]
      exact Ends.bag hb6 (d3.mono (subL fun p hp => hm5 p (List.mem_append_right _ (.tail _ hp)))) W5 (by assumption) N6
    · rename News _ _ _ _ => N0
      refine use_init (ns := leastN k nss) (by assumption) N0 (d3.mono fun p hp => .tail _ (subR hsl p hp)) (by omega) ?_ (by with_unfolding_all rfl) (by kmk_pure)
      intro r2 ext2 h7 hD7 hx7 F7 N7
      have N8 := swapE N7
      have W7 := W3.ext0 hx7
      have d7 := hD7 _ d3
      rw [← List.append_assoc] at d7
      clear N7 N0
      (repeat' (first | ((with_reducible show wpAny _ _ (call (Value.ref _) _) _ _ _); first | (k_dflt ((show wpAny _ _ (call (Value.ref 270) []) _ _ _); (refine' Con.use_pool (pool_c _) ?B ?F ?X ?N ?T ?hk ?hd ?hu ?_); ((((case B => k_asm); (case F => k_asm); (case X => k_asm); (case N => k_asm); (case T => k_asm); (case hk => exact rfl); (case hd => omega); (case hu => omega)))); intro _ _ _ _ _ _ _ _; (try dsimp only); (try k_sweep)))) | walk1 | (dsimp only; walk1)))
      rename News _ _ _ ((_, _) :: (B, _) :: _) => N0
      rename (_ < _ ∧ AllLt _ _) => l1
      refine use_add (ns := (leastN k nss).dropLast) (ms := [pcP x, otP x]) (ws := [.str _ _, .str _ _]) (by assumption) N0 (d7.mono fun p hp => .tail _ (.tail _ (subR hsl p hp))) (.head _) (.cons _ _ (.cons _ _ .nil)) (by simp) (by simp; omega) (by simp) ?_
      intro r ext h4 hD4 hx4 F4 N4
      (repeat' (first | ((with_reducible show wpAny _ _ (call (Value.ref _) _) _ _ _); first | (k_dflt ((show wpAny _ _ (call (Value.ref 270) []) _ _ _); (refine' Con.use_pool (pool_c _) ?B ?F ?X ?N ?T ?hk ?hd ?hu ?_); ((((case B => k_asm); (case F => k_asm); (case X => k_asm); (case N => k_asm); (case T => k_asm); (case hk => exact rfl); (case hd => omega); (case hu => omega)))); intro _ _ _ _ _ _ _ _; (try dsimp only); (try k_sweep)))) | walk1 | (dsimp only; walk1)))
      refine' use_place (ns := (leastN k nss).dropLast ++ [pcP x, otP x]) (k := k) ?B0 ?F ?X (swapD N4) ?T0 ?hk ?hd ?hu (fun _ h => h) ?W hsl hT ho hlo ?hv (in8 (List.forall_mem_append.mpr ⟨fun y hy => hlp y (List.dropLast_subset _ hy), in2 (pcP_mem x) (otP_mem x)⟩)) ?hl9 ?_
      (((case B0 => k_asm); (case F => k_asm); (case X => k_asm); (case T0 => k_asm); (case hk => exact rfl); (case hd => omega); (case hu => omega)))
      case W => exact (W7.all l1).ext1 hx4
      case hv => (rw [List.append_assoc]; exact hD4 _ (d7.mono fun p hp => .tail _ hp) (.tuple (vs := [.str _ _, .str _ _]) (.head _) (.cons (.str _ _) (.cons (.str _ _) .nil))))
      case hl9 => (simp; omega)
      intro P5 pre5 h5 tk5 hm5 d5 W5 F5 N5
      (repeat' (first | ((with_reducible show wpAny _ _ (call (Value.ref _) _) _ _ _); first | (k_dflt ((show wpAny _ _ (call (Value.ref 270) []) _ _ _); (refine' Con.use_pool (pool_c _) ?B ?F ?X ?N ?T ?hk ?hd ?hu ?_); ((((case B => k_asm); (case F => k_asm); (case X => k_asm); (case N => k_asm); (case T => k_asm); (case hk => exact rfl); (case hd => omega); (case hu => omega)))); intro _ _ _ _ _ _ _ _; (try dsimp only); (try k_sweep)))) | walk1 | (dsimp only; walk1)))
      refine use_append F5 N5 (W5.ne hB) (hb3.mono (subL fun p hp => hm5 p (List.mem_append_right _ (.tail _ (List.mem_append_right _ hp))))) d5 (inOk (List.forall_mem_append.mpr ⟨fun y hy => hlp y (List.dropLast_subset _ hy), in2 (pcP_mem x) (otP_mem x)⟩)) (by omega) ?_
      intro h6 hb6 F6 N6
      (repeat' (first | ((with_reducible show wpAny _ _ (call (Value.ref _) _) _ _ _); first | (k_dflt ((show wpAny _ _ (call (Value.ref 270) []) _ _ _); (refine' Con.use_pool (pool_c _) ?B ?F ?X ?N ?T ?hk ?hd ?hu ?_); ((((case B => k_asm); (case F => k_asm); (case X => k_asm); (case N => k_asm); (case T => k_asm); (case hk => exact rfl); (case hd => omega); (case hu => omega)))); intro _ _ _ _ _ _ _ _; (try dsimp only); (try k_sweep)))) | walk1 | (dsimp only; walk1)))
      all_goals first | (exfalso; omega) | skip
      try dsimp only
      rw [plainD_3 (by omega) (by assumption)]
      exact Ends.bag hb6 (d3.mono (subL fun p hp => hm5 p (List.mem_append_right _ (.tail _ (List.mem_append_right _ hp))))) W5 (by assumption) N6
    · rename News _ _ _ _ => N0
      refine' use_stem (ns := leastN k nss) ?B0 ?F ?X N0 ?T0 ?hk ?hd ?hu (fun _ h => h) W3 hsl d3 hlp (by omega) ?_
      (((case B0 => k_asm); (case F => k_asm); (case X => k_asm); (case T0 => k_asm); (case hk => exact rfl); (case hd => omega); (case hu => omega)))
      intro r pre4 h4 tk4 hm4 d4 W4 F4 N4
      (repeat' (first | ((with_reducible show wpAny _ _ (call (Value.ref _) _) _ _ _); first | (k_dflt ((show wpAny _ _ (call (Value.ref 270) []) _ _ _); (refine' Con.use_pool (pool_c _) ?B ?F ?X ?N ?T ?hk ?hd ?hu ?_); ((((case B => k_asm); (case F => k_asm); (case X => k_asm); (case N => k_asm); (case T => k_asm); (case hk => exact rfl); (case hd => omega); (case hu => omega)))); intro _ _ _ _ _ _ _ _; (try dsimp only); (try k_sweep)))) | walk1 | (dsimp only; walk1)))
      refine' use_place (ns := stemN (leastN k nss)) (k := k) ?B0 ?F ?X (N4) ?T0 ?hk ?hd ?hu (fun _ h => h) ?W hsl hT ho hlo ?hv (in8 (stemN_in hlp)) ?hl9 ?_
      (((case B0 => k_asm); (case F => k_asm); (case X => k_asm); (case T0 => k_asm); (case hk => exact rfl); (case hd => omega); (case hu => omega)))
      case W => exact W4
      case hv => exact d4
      case hl9 => (have := stemN_len (leastN k nss); omega)
      intro P5 pre5 h5 tk5 hm5 d5 W5 F5 N5
      (repeat' (first | ((with_reducible show wpAny _ _ (call (Value.ref _) _) _ _ _); first | (k_dflt ((show wpAny _ _ (call (Value.ref 270) []) _ _ _); (refine' Con.use_pool (pool_c _) ?B ?F ?X ?N ?T ?hk ?hd ?hu ?_); ((((case B => k_asm); (case F => k_asm); (case X => k_asm); (case N => k_asm); (case T => k_asm); (case hk => exact rfl); (case hd => omega); (case hu => omega)))); intro _ _ _ _ _ _ _ _; (try dsimp only); (try k_sweep)))) | walk1 | (dsimp only; walk1)))
      refine use_append F5 N5 (W5.ne hB) (hb3.mono (subL fun p hp => hm5 p (hm4 p hp))) d5 (inOk (stemN_in hlp)) (by omega) ?_
      intro h6 hb6 F6 N6
      (repeat' (first | ((with_reducible show wpAny _ _ (call (Value.ref _) _) _ _ _); first | (k_dflt ((show wpAny _ _ (call (Value.ref 270) []) _ _ _); (refine' Con.use_pool (pool_c _) ?B ?F ?X ?N ?T ?hk ?hd ?hu ?_); ((((case B => k_asm); (case F => k_asm); (case X => k_asm); (case N => k_asm); (case T => k_asm); (case hk => exact rfl); (case hd => omega); (case hu => omega)))); intro _ _ _ _ _ _ _ _; (try dsimp only); (try k_sweep)))) | walk1 | (dsimp only; walk1)))
      all_goals first | (exfalso; omega) | skip
      try dsimp only
      rw [plainD_5 (by omega) (by assumption)]
      exact Ends.bag hb6 (d3.mono (subL fun p hp => hm5 p (hm4 p hp))) W5 (by assumption) N6
    · rename News _ _ _ (_ :: (B, _) :: _) => N0
      rename (_ < _ ∧ AllLt _ _) => l1
      try dsimp only
      rw [plainD_7 (by omega) (by omega) (by omega) (by omega) (by omega) (by omega) (.inr (by omega))]
      refine' Ends.bag ?_ ?_ ?_ (by assumption) (swapC N0)
      · exact hb3.mono (fun p hp => .tail _ hp)
      · exact d3.mono (fun p hp => .tail _ hp)
      · exact W3.all l1
    · rename News _ _ _ (_ :: (B, _) :: _) => N0
      rename (_ < _ ∧ AllLt _ _) => l1
      have hsm := leastN_mem (k := k) (nss := nss.erase (leastN k nss)) (by omega)
      have hsl9 := hl _ (List.mem_of_mem_erase hsm)
      have hsp := hp _ (List.mem_of_mem_erase hsm)
      have hel2 : ((nss.erase (leastN k nss)).erase (leastN k (nss.erase (leastN k nss)))).length ≤ 900000 := by rw [List.length_erase_of_mem hsm]; omega
      refine' use_least ?B0 ?F ?X (swapC N0) ?T0 ?hk ?hd ?hu (fun _ h => h) ?W hsl hB (hb3.mono (fun p hp => .tail _ hp)) (by omega) (by omega) ?_
      (((case B0 => k_asm); (case F => k_asm); (case X => k_asm); (case T0 => k_asm); (case hk => exact rfl); (case hd => omega); (case hu => omega)))
      case W => exact W3.all l1
      intro b2 vs2 c2 pre7 h7 tk7 hm7 W7 d7 hb7 F7 N7
      clear N0
      (repeat' (first | ((with_reducible show wpAny _ _ (call (Value.ref _) _) _ _ _); first | (k_dflt ((show wpAny _ _ (call (Value.ref 270) []) _ _ _); (refine' Con.use_pool (pool_c _) ?B ?F ?X ?N ?T ?hk ?hd ?hu ?_); ((((case B => k_asm); (case F => k_asm); (case X => k_asm); (case N => k_asm); (case T => k_asm); (case hk => exact rfl); (case hd => omega); (case hu => omega)))); intro _ _ _ _ _ _ _ _; (try dsimp only); (try k_sweep)))) | walk1 | (dsimp only; walk1)))
      have hno2 := hno (by omega)
      refine' use_front (ns := leastN k nss) (ns2 := leastN k (nss.erase (leastN k nss))) ?B0 ?F ?X (by assumption) ?T0 ?hk ?hd ?hu (fun _ h => h) W7 hsl (d3.mono (subL fun p hp => hm7 p (.tail _ hp))) d7 (inK hlp) (inK hsp) (by omega) (by omega) hno2 ?_
      (((case B0 => k_asm); (case F => k_asm); (case X => k_asm); (case T0 => k_asm); (case hk => exact rfl); (case hd => omega); (case hu => omega)))
      intro r pre4 h4 tk4 hm4 d4 W4 F4 N4
      (repeat' (first | ((with_reducible show wpAny _ _ (call (Value.ref _) _) _ _ _); first | (k_dflt ((show wpAny _ _ (call (Value.ref 270) []) _ _ _); (refine' Con.use_pool (pool_c _) ?B ?F ?X ?N ?T ?hk ?hd ?hu ?_); ((((case B => k_asm); (case F => k_asm); (case X => k_asm); (case N => k_asm); (case T => k_asm); (case hk => exact rfl); (case hd => omega); (case hu => omega)))); intro _ _ _ _ _ _ _ _; (try dsimp only); (try k_sweep)))) | walk1 | (dsimp only; walk1)))
      refine' use_place (ns := cpre (leastN k nss) (leastN k (nss.erase (leastN k nss)))) (k := k) ?B0 ?F ?X (N4) ?T0 ?hk ?hd ?hu (fun _ h => h) ?W hsl hT ho hlo ?hv (in8 (cpre_in hlp)) ?hl9 ?_
      (((case B0 => k_asm); (case F => k_asm); (case X => k_asm); (case T0 => k_asm); (case hk => exact rfl); (case hd => omega); (case hu => omega)))
      case W => exact W4
      case hv => exact d4
      case hl9 => (have := cpre_len (leastN k nss) (leastN k (nss.erase (leastN k nss))); omega)
      intro P5 pre5 h5 tk5 hm5 d5 W5 F5 N5
      (repeat' (first | ((with_reducible show wpAny _ _ (call (Value.ref _) _) _ _ _); first | (k_dflt ((show wpAny _ _ (call (Value.ref 270) []) _ _ _); (refine' Con.use_pool (pool_c _) ?B ?F ?X ?N ?T ?hk ?hd ?hu ?_); ((((case B => k_asm); (case F => k_asm); (case X => k_asm); (case N => k_asm); (case T => k_asm); (case hk => exact rfl); (case hd => omega); (case hu => omega)))); intro _ _ _ _ _ _ _ _; (try dsimp only); (try k_sweep)))) | walk1 | (dsimp only; walk1)))
      refine use_append F5 N5 (W5.ne hB) (hb7.mono (subL fun p hp => hm5 p (hm4 p hp))) d5 (inOk (cpre_in hlp)) (by omega) ?_
      intro h6 hb6 F6 N6
      (repeat' (first | ((with_reducible show wpAny _ _ (call (Value.ref _) _) _ _ _); first | (k_dflt ((show wpAny _ _ (call (Value.ref 270) []) _ _ _); (refine' Con.use_pool (pool_c _) ?B ?F ?X ?N ?T ?hk ?hd ?hu ?_); ((((case B => k_asm); (case F => k_asm); (case X => k_asm); (case N => k_asm); (case T => k_asm); (case hk => exact rfl); (case hd => omega); (case hu => omega)))); intro _ _ _ _ _ _ _ _; (try dsimp only); (try k_sweep)))) | walk1 | (dsimp only; walk1)))
      all_goals first | (exfalso; omega) | skip
      try dsimp only
      rw [plainD_6 (by omega) (by assumption) (by omega)]
      exact Ends.bag hb6 (d7.mono (subL fun p hp => hm5 p (hm4 p hp))) W5 (by assumption) N6
    · rename News _ _ _ _ => N0
      try dsimp only
      rw [plainD_7 (by omega) (by omega) (by omega) (by omega) (by omega) (by omega) (.inl (by omega))]
      exact Ends.bag hb3 d3 W3 (by assumption) N0
end SC20
example : True := by
  w_top off
  first
    | walk1
    | trivial
section GD
local macro_rules | `(tactic| walk_at "exec Assign cons ListComp") => `(tactic| k_dflt (refine stop_of ?_))
local macro_rules | `(tactic| walk_at "eval ListComp") => `(tactic| k_dflt (refine stop_of ?_))
local macro_rules | `(tactic| lcg_src) => `(tactic| k_mem)
example : True := by
  w_top off
  first
    | walk1
    | trivial
section SC12
noncomputable def LedLt (l : List (Addr × Obj)) (d : Addr) : Prop := ∀ p ∈ l, p.1 < d
theorem ledLt_in {l : List (Addr × Obj)} {d : Addr} {q : Addr × Obj} (h : ∀ p ∈ q :: l, p.1 < d) : LedLt l d := fun p hp => h p (.tail _ hp)
theorem ledLt_ne {l : List (Addr × Obj)} {d a : Addr} (h : LedLt l d) (e : @LE.le Nat _ d a) : ∀ p ∈ l, p.1 ≠ a := fun p hp => Nat.ne_of_lt (Nat.lt_of_lt_of_le (h p hp) e)
theorem ledLt_lt {l : List (Addr × Obj)} {d a : Addr} (h : LedLt l d) (e : @LE.le Nat _ d a) : ∀ p ∈ l, p.1 < a := fun p hp => Nat.lt_of_lt_of_le (h p hp) e
theorem Con.bodyC {f : Addr} {args : List Value} {led : Led} {D U : Nat} {post : Value → Led → Prop}
    {name qual : Str} {params : Arguments} {body : List Stmt} {scope : Scope} {dV kV doc pm cdv ct oc : Value} {an od : Option Addr} {osl : Array (Option Value)} {binds : List (Str × Value)}
    (ho : (hd0.heap_1 w.params).lookup f = some ⟨oc, od, .func (fnOf name qual params body scope dV kV doc pm an cdv ct), osl⟩) (hcd : codeIn (hd0.heap_1 w.params) cdv qual = true)
    (hbind : bindArgs (fnOf name qual params body scope dV kV doc pm an cdv ct) ⟨args, []⟩ = pure binds) (hkind : (binds.all fun y => scope.names.lookup y.1 == some .local || scope.names.lookup y.1 == some .cell) = true)
    (hnd : ((cellsFrom 0 scope.names []).map (·.1)).Nodup)
    (hD : 1 ≤ D)
    (h : ∀ (dp un : Nat) (gd : Option (List Code)) (outer : List Env) (A₀ : Around) (base g : Heap) (L' : Addr) (s₀ : Shared) (cells : Led),
      Below A₀ base outer g → Fr g L' s₀.heap (bindL (envOfC qual scope L' f cdv).kindOf binds fun _ => none) → (hd0.heap_1 w.params).In g → News g L' s₀.heap (cells ++ led) →
      CellsAre (bindC (envOfC qual scope L' f cdv).kindOf binds fun _ => none) (cellsFrom (L' + 1) scope.names []) cells → (∀ p ∈ led, p.1 < L') → Top vw (looseW vw []) mean mg mb g →
      dp + D < recursionLimit + 1 → un + U < cLine + 3 →
      wpAny (model pg w) (ktrTop dp un gd qual scope L' f cdv (cellsFrom (L' + 1) scope.names []) outer) (execs body (envOfC qual scope L' f cdv))
        (fun fl s' => Ends g L' s₀ post (match fl with | .ret v => v | _ => .none) s') (fun _ _ => False) s₀)
    (hco : scope.isCoroutine = false) (hgen : scope.isGenerator = false) (hk : scope.kind = .function) :
    Con w mean mg mb f args led D U post := by
  intro dp un gd cn cs a ccd cl outer A₀ base h₀ L m s Q E B F X N T hkk hdp hun hret
  refine wpAny_call ?_
  refine code_defC B F X N T (A := ktrTop dp un gd cn cs L a ccd cl outer) rfl rfl hkk ho hcd (by show dp < recursionLimit; omega) (BindsTo.of_eq hbind) hkind hnd ?_ hco hgen hk
  intro g L' h₁ tk cells FG F' N' Y' B' X' T' l'
  have hb := h (dp + 1) (un + 3) gd (envX cn cs L a ccd cl :: outer) _ base g L' { s with heap := h₁, toks := tk } cells B' F' X' N' Y' l' T' (by omega) (by omega)
  refine wpAny_mono hb ?_ (fun _ _ x => x.elim)
  rintro fl s' ⟨h', tk', m', led', rfl, F₂, N₂, hp⟩
  exact leaveK_ F₂ N₂ fun k1 k2 => hret _ _ _ _ hp k1 k2
local macro_rules | `(tactic| k_all) => `(tactic| first | exact List.forall_mem_nil _ | exact ledLt_ne (by assumption) (by (try dsimp only); omega) | (refine' List.forall_mem_cons.mpr ⟨?a, ?b⟩; (case a => k_ne); (case b => k_all)))
theorem same_fspath {dp un : Nat} {gd : Option (List Code)} {cn : Str} {cs : Scope} {a : Addr} {ccd : Value} {cl : List (Str × Addr)} {outer : List Env} {A₀ : Around} {base h₀ : Heap} {L : Addr} {m : Str → Option Value} (x : Str) (t : Tok)
    (B : Below A₀ base outer h₀) (X : (hd0.heap_1 w.params).In h₀) (T : Top vw (looseW vw []) mean mg mb h₀) (hk : cs.kind = .function) (hd' : dp + 2 < recursionLimit) (hu : un + 20 < cLine) :
    Same (model pg w) (ktrTop dp un gd cn cs L a ccd cl outer).in1.in1.in1.in1 h₀ L m (.ref 143) (.str x t) := fun s news Q F N h => by
  show wpAny (model pg w) (ktrTop dp (un + 4) gd cn cs L a ccd cl outer) _ _ _ _
  refine Con.use_val (fspath_c x t news) B F X N T hk (by omega) (by omega) fun h' tk' F' N' => ?_
  exact h _ _ F' N'
local macro_rules | `(tactic| walk_at "call type:map") => `(tactic| k_dflt ((refine' call_map_N ?F ?N ?hl ?_); (case F => assumption); (case N => assumption); (case hl => k_mem); intro M' T' I' h' F' N' l1 l2 l3; (try k_lt l1); (try k_lt2 l2); (try k_lt2 l3); (try dsimp only); (try k_sweep)))
local macro_rules | `(tactic| walk_at "call type:tuple") => `(tactic| k_dflt ((refine' call_tuple_map2 ?hh ?F ?N ?hM ?hT ?hn ?hl ?hx ?hy ?_); (case hh => exact rfl); (case F => assumption); (case N => assumption); (case hM => k_ne); (case hT => k_ne); (case hn => k_all); (case hl => k_mem); (case hx => exact same_fspath _ _ (by assumption) (by assumption) (by assumption) (by exact rfl) (by omega) (by omega)); (case hy => exact same_fspath _ _ (by assumption) (by assumption) (by assumption) (by exact rfl) (by omega) (by omega)); intro t' h' tk' F' N' l1; (try k_lt l1); (try dsimp only); (try k_sweep)))
/-- a try that ends by a return alone -/
theorem try_ret {A : Around} {E : Value → Shared → Prop} {s : Shared} {env : Env} {body orelse : List Stmt} {h₀ : ExceptHandler} {hs : List ExceptHandler} {pos : Pos} {Q : Flow → Shared → Prop} {P : Value → Shared → Prop} (hq : ∀ v s', P v s' → Q (.ret v) s')
    (h : wpAny (model pg w) A (execs body env) (fun fl s' => match fl with | .ret v => P v s' | _ => False) (fun _ _ => False) s) : wpAny (model pg w) A (exec (.Try body (h₀ :: hs) orelse [] pos) env) Q E s :=
  wpAny_Try_except (wpAny_mono h (fun f s' q => by cases f <;> first | exact hq _ _ q | exact q.elim) (fun _ _ q => q.elim))
local macro_rules | `(tactic| walk_at "exec Try cons cons nil nil") => `(tactic| k_dflt ((with_reducible show wpAny _ _ (exec (Stmt.Try _ (_ :: _) _ [] _) _) _ _ _); (refine' try_ret ?tq ?_); (case tq => (dsimp only; exact fun _ _ h => h)); (try dsimp only)))
/-- a try that raises nothing -/
theorem try_calm {A : Around} {E : Value → Shared → Prop} {s : Shared} {env : Env} {body orelse : List Stmt} {h₀ : ExceptHandler} {hs : List ExceptHandler} {pos : Pos} {Q : Flow → Shared → Prop}
    (h : wpAny (model pg w) A (execs body env) (fun f s₁ => match f with | .next => wpAny (model pg w) A (execs orelse env) Q E s₁ | f => Q f s₁) (fun _ _ => False) s) : wpAny (model pg w) A (exec (.Try body (h₀ :: hs) orelse [] pos) env) Q E s :=
  wpAny_Try_except (wpAny_mono h (fun _ _ q => q) (fun _ _ q => q.elim))
local macro_rules | `(tactic| walk_at "exec Try cons cons nil nil") => `(tactic| k_dflt ((with_reducible show wpAny _ _ (exec (Stmt.Try [_] (_ :: _) _ [] _) _) _ _ _); (refine try_calm ?_)))
local macro_rules | `(tactic| walk_at "eval SetComp") => `(tactic| k_dflt (refine stop_of ?_))
noncomputable def keepC (c : Str) : Bool := decide (0 < c.length) && (c != Str.ofString ".")
theorem keepC_yes {c : Str} (h1 : (c.length : Int) ≠ 0) (h2 : (c != Str.ofString ".") = true) : keepC c = true := by unfold keepC; rw [h2, Bool.and_true]; exact decide_eq_true (by omega)
theorem keepC_no2 {c : Str} (h2 : (c != Str.ofString ".") = false) : ¬ keepC c = true := by unfold keepC; rw [h2, Bool.and_false]; exact Bool.false_ne_true
theorem keepC_no1 {c : Str} (h1 : (c.length : Int) = 0) : ¬ keepC c = true := by
  intro h
  unfold keepC at h
  have := of_decide_eq_true (Bool.and_eq_true_iff.mp h).1
  omega
theorem cs_len1 (x : Str) (hx : x.length ≤ 1000) : (Txt.split x (Str.ofString "/")).length ≤ 1001 := by
  have q1 := StrLaws.join_split x (Str.ofString "/")
  have q2 := (join_long 47 (Txt.split x (Str.ofString "/"))).1
  rw [show Str.ofString "/" = (⟨#[47]⟩ : Str) from by decide +kernel] at q1
  rw [show Str.ofString "/" = (⟨#[47]⟩ : Str) from by decide +kernel] at q2 ⊢
  have q3 : (Txt.split x ⟨#[47]⟩).length ≤ x.length + 1 := by
    rw [q1] at q2; exact q2
  omega
theorem cs_len (x : Str) (hx : x.length ≤ 1000) : (Txt.split x (Str.ofString "/")).length ≤ 1000000 := Nat.le_trans (cs_len1 x hx) (by decide)
noncomputable def ccs (x : Str) : List Str := (Txt.split x (Str.ofString "/")).filter keepC
/-- what commonpath gives back for two -/
noncomputable def cpS (x y : Str) : Str := Str.ofString "/" ++ Str.join (Str.ofString "/") (cpre (ccs x) (ccs y))
theorem join_bound {cs : List Str} (hb : ∀ y ∈ cs, y.length ≤ 1000) (hl : cs.length ≤ 1001) : (Str.join (Str.ofString "/") cs).length ≤ 1002001 := by
  have q1 := StrLaws.join_length_le (Str.ofString "/") cs
  have q2 := StrLaws.sumLen_le cs hb
  have q3 : (Str.ofString "/").length = 1 := by decide +kernel
  have q4 : cs.length * 1000 ≤ 1001 * 1000 := Nat.mul_le_mul_right _ hl
  rw [q3] at q1
  omega
theorem slash_len : (Str.ofString "/").length = 1 := by decide +kernel
local macro_rules | `(tactic| walk_at "binaryOp Add str str") => `(tactic| k_dflt ((refine' SB.add ?_ ?sz); (case sz => (have hc9 := sizeLine_eq; have hs9 := slash_len; omega)); intro t9 k9))
local macro_rules | `(tactic| walk_at "call builtin:str.join") => `(tactic| k_dflt ((refine' join_strs ?N ?m ?s ?B ?x ?ok ?_); (case N => assumption); (case m => walk_at "INN"); (case s => assumption); (case B => assumption); (case x => decide +kernel); (case ok => omega); intro t9 k9))
inductive cpJ (c1 c2 : List Str) (m₀ : Str → Option Value) (i : Nat) (m : Str → Option Value) : Prop
  | mk (e : c1.take i = c2.take i) (io co : Option Value) (em : m = fun y => if y = Str.ofString "i" then io else if y = Str.ofString "c" then co else m₀ y)
local macro_rules | `(tactic| walk_at "subscriptTail Name Name ref int") => `(tactic| k_dflt ((with_reducible refine' sub_strsN ?N ?m ?s ?h1 ?hf ?_ ?hq); (case N => assumption); (case m => walk_at "INN"); (case s => assumption); (case h1 => assumption); (case hf => assumption); (case hq => with_unfolding_all rfl); intro t9; (try dsimp only)))
local macro_rules | `(tactic| walk_at "subscriptTail Name Slice ref ref") => `(tactic| k_dflt ((refine' slice_take ?F ?N ?m ?hf ?_ ?s ?t); (case F => assumption); (case N => assumption); (case m => walk_at "INN"); (case hf => assumption); (case s => with_unfolding_all rfl); (case t => kmk_pure); intro D9 h9 F9 N9 l9; (try k_lt l9); (try dsimp only); (try k_sweep)))
local macro_rules | `(tactic| walk_at "call builtin:min") => `(tactic| k_dflt (refine stop_of ?_))
local macro_rules | `(tactic| walk_at "call builtin:max") => `(tactic| k_dflt (refine stop_of ?_))
theorem commonpath_c (P : Addr) (x y : Str) (tx ty : Tok) (k : Nat) (hx : x.length ≤ 1000) (hy : y.length ≤ 1000) (h1x : Txt.startswith x (Str.ofString "/") = true) (h1y : Txt.startswith y (Str.ofString "/") = true) (led : Led) :
    Con w mean mg mb 200 [.ref P] ((P, listOf [.str x tx, .str y ty].toArray k) :: led) 4 120 (fun r led' => (∃ t', r = .str (cpS x y) t') ∧ led' = (P, listOf [.str x tx, .str y ty].toArray k) :: led) := by
  refine Con.gen fun P9 imp9 => ?_
  refine' Con.bodyC (binds := [(Str.ofString "paths", .ref P)]) ?ho ?hcd ?hbind ?hkind ?hnd ?hD ?_ ?c2 ?c3 ?c4
  (((case ho => k_is); (case hcd => k_is); (case hbind => exact rfl); (case hkind => exact rfl); (case hnd => decide +kernel); (case hD => decide); (case c2 => exact rfl); (case c3 => exact rfl); (case c4 => exact rfl); intro _ _ _ _ _ _ _ _ _ _ _ _ _ N' Y' l1 _ _ _; (have hled := ledLt_in l1); (try k_lt l1); k_cells Y'; (try simp only [List.cons_append, List.nil_append] at N'); (try dsimp only)))
  (repeat' (first | ((with_reducible show wpAny _ _ (call (Value.ref _) _) _ _ _); first | (((with_reducible show wpAny _ _ (call (Value.ref 143) [Value.str _ _]) _ _ _); (refine' Con.use_val (fspath_c _ _ _) ?B ?F ?X ?N ?T ?hk ?hd ?hu ?_); ((((case B => k_asm); (case F => k_asm); (case X => k_asm); (case N => k_asm); (case T => k_asm); (case hk => exact rfl); (case hd => omega); (case hu => omega)))); intro _ _ _ _; (try dsimp only); (try k_sweep)))) | walk1 | (dsimp only; walk1)))
  unfold Stop
  rename Fr _ _ _ _ => F1
  rename_i N1
  refine' Assign_ListComp_G F1 rfl ?hsw ?hclos ?hcell ?hkind ?hnames ?hx ?hy ?hp ?hs ?_
  case hsw => with_unfolding_all rfl
  case hclos => with_unfolding_all rfl
  case hcell => decide
  case hkind => rfl
  case hnames => decide
  case hx => rfl
  case hy => rfl
  case hp => rfl
  case hs => intro _; with_unfolding_all rfl
  (repeat' (first | ((with_reducible show wpAny _ _ (call (Value.ref _) _) _ _ _); first | (((with_reducible show wpAny _ _ (call (Value.ref 143) [Value.str _ _]) _ _ _); (refine' Con.use_val (fspath_c _ _ _) ?B ?F ?X ?N ?T ?hk ?hd ?hu ?_); ((((case B => k_asm); (case F => k_asm); (case X => k_asm); (case N => k_asm); (case T => k_asm); (case hk => exact rfl); (case hd => omega); (case hu => omega)))); intro _ _ _ _; (try dsimp only); (try k_sweep)))) | walk1 | (dsimp only; walk1)))
  rename_i N2
  (refine' srcG_tuple (vs := [.str x tx, .str y ty]) rfl ?F ?N ?m ?z ?_; (case F => assumption); (case N => assumption); (case m => k_mem); (case z => (simp only [List.length_cons, List.length_nil]; omega)))
  intro g9
  refine LCg.CompRest.succ ?_
  intro v' I' oI' C' oC' D' m' h' tk' E' hv' hC' hx' F' N' off' ne'
  have hv9 : Value.str x tx = v' := by simpa using hv'
  subst hv9
  clear hv'
  simp only [LCg.Off3, and_true] at off'
  have hA9 := new_apart N'
  (repeat' (first | ((with_reducible show wpAny _ _ (call (Value.ref _) _) _ _ _); first | (((with_reducible show wpAny _ _ (call (Value.ref 143) [Value.str _ _]) _ _ _); (refine' Con.use_val (fspath_c _ _ _) ?B ?F ?X ?N ?T ?hk ?hd ?hu ?_); ((((case B => k_asm); (case F => k_asm); (case X => k_asm); (case N => k_asm); (case T => k_asm); (case hk => exact rfl); (case hd => omega); (case hu => omega)))); intro _ _ _ _; (try dsimp only); (try k_sweep)))) | walk1 | (dsimp only; walk1)))
  dsimp only at *
  rename StrsAre _ _ => hs1
  rename News _ _ _ _ => N4
  rename Fr _ _ _ _ => F4
  (show LCg.CompEnd _ _ _ _ _ _ _ _ _ _ _ _ _ _)
  refine' compEnd_new hA9 F4 N4 off' (by k_mem) ?_
  try dsimp only
  rename (List.map _ _ = Txt.split x _) => hsp1
  rw [hsp1] at hs1
  rename (∀ c ∈ List.map _ _, _) => hln1
  rw [hsp1] at hln1
  rename_i vl1
  generalize h'.objs.size = A1 at *
  generalize strValues _ = vs1 at *
  refine LCg.CompRest.succ ?_
  intro v' I' oI' C' oC' D' m' h' tk' E' hv' hC' hx' F' N' off' ne'
  have hv9 : Value.str y ty = v' := by simpa using hv'
  subst hv9
  clear hv'
  simp only [LCg.Off3] at off'
  have hA9 := new_apart N'
  (repeat' (first | ((with_reducible show wpAny _ _ (call (Value.ref _) _) _ _ _); first | (((with_reducible show wpAny _ _ (call (Value.ref 143) [Value.str _ _]) _ _ _); (refine' Con.use_val (fspath_c _ _ _) ?B ?F ?X ?N ?T ?hk ?hd ?hu ?_); ((((case B => k_asm); (case F => k_asm); (case X => k_asm); (case N => k_asm); (case T => k_asm); (case hk => exact rfl); (case hd => omega); (case hu => omega)))); intro _ _ _ _; (try dsimp only); (try k_sweep)))) | walk1 | (dsimp only; walk1)))
  dsimp only at *
  rename StrsAre _ _ => hs2
  rename News _ _ _ _ => N4
  rename Fr _ _ _ _ => F4
  (show LCg.CompEnd _ _ _ _ _ _ _ _ _ _ _ _ _ _)
  refine' compEnd_new hA9 F4 N4 off' (by k_mem) ?_
  try dsimp only
  rename (List.map _ _ = Txt.split y _) => hsp2
  rw [hsp2] at hs2
  rename (∀ c ∈ List.map _ _, _) => hln2
  rw [hsp2] at hln2
  generalize h'.objs.size = A2 at *
  generalize strValues _ = vs2 at *
  refine LCg.CompRest.zero ?_
  unfold LCg.FinA
  intro D' h' tk' F' N' o1'
  simp only [LCg.Off1] at o1'
  simp only [List.nil_append, List.cons_append] at N'
  try dsimp only
  (repeat' (first | ((with_reducible show wpAny _ _ (call (Value.ref _) _) _ _ _); first | (((with_reducible show wpAny _ _ (call (Value.ref 143) [Value.str _ _]) _ _ _); (refine' Con.use_val (fspath_c _ _ _) ?B ?F ?X ?N ?T ?hk ?hd ?hu ?_); ((((case B => k_asm); (case F => k_asm); (case X => k_asm); (case N => k_asm); (case T => k_asm); (case hk => exact rfl); (case hd => omega); (case hu => omega)))); intro _ _ _ _; (try dsimp only); (try k_sweep)))) | walk1 | (dsimp only; walk1)))
  unfold Stop
  clear N2 N4 F4
  refine' SetComp_G ‹Fr _ _ h' _› ?tclos ?tcell ?tkind ?tnames ?tx ?ts ?_
  case tclos => with_unfolding_all rfl
  case tcell => decide
  case tkind => rfl
  case tnames => decide
  case tx => rfl
  case ts => intro _; with_unfolding_all rfl
  (repeat' (first | ((with_reducible show wpAny _ _ (call (Value.ref _) _) _ _ _); first | (((with_reducible show wpAny _ _ (call (Value.ref 143) [Value.str _ _]) _ _ _); (refine' Con.use_val (fspath_c _ _ _) ?B ?F ?X ?N ?T ?hk ?hd ?hu ?_); ((((case B => k_asm); (case F => k_asm); (case X => k_asm); (case N => k_asm); (case T => k_asm); (case hk => exact rfl); (case hd => omega); (case hu => omega)))); intro _ _ _ _; (try dsimp only); (try k_sweep)))) | walk1 | (dsimp only; walk1)))
  (refine' srcG_tuple (vs := [.str x tx, .str y ty]) rfl ?sF ?sN ?sm ?sz ?_; (case sF => assumption); (case sN => assumption); (case sm => k_mem); (case sz => (simp only [List.length_cons, List.length_nil]; omega)))
  intro g9
  refine ⟨Nat.zero_lt_succ _, ?_, ?_⟩
  · intro i v I oI C oC D oD m₂ h tk E' hi hv hC hx hF hN off ne
    have hi2 : i = 0 ∨ i = 1 := by simp only [List.length_cons, List.length_nil] at hi; omega
    rcases hi2 with rfl | rfl
    · have hv9 : Value.str x tx = v := by simpa using hv
      subst hv9
      (repeat' (first | ((with_reducible show wpAny _ _ (call (Value.ref _) _) _ _ _); first | (((with_reducible show wpAny _ _ (call (Value.ref 143) [Value.str _ _]) _ _ _); (refine' Con.use_val (fspath_c _ _ _) ?B ?F ?X ?N ?T ?hk ?hd ?hu ?_); ((((case B => k_asm); (case F => k_asm); (case X => k_asm); (case N => k_asm); (case T => k_asm); (case hk => exact rfl); (case hd => omega); (case hu => omega)))); intro _ _ _ _; (try dsimp only); (try k_sweep)))) | walk1 | (dsimp only; walk1)))
      (show LCg.CompEnd _ _ _ _ _ _ _ _ _ _ _ _ _ _)
      exact compEnd_same (by assumption) (by assumption) (fun p hp => hp) off (by k_mem) ⟨by rw [h1x], rfl⟩
    · have hv9 : Value.str y ty = v := by simpa using hv
      subst hv9
      (repeat' (first | ((with_reducible show wpAny _ _ (call (Value.ref _) _) _ _ _); first | (((with_reducible show wpAny _ _ (call (Value.ref 143) [Value.str _ _]) _ _ _); (refine' Con.use_val (fspath_c _ _ _) ?B ?F ?X ?N ?T ?hk ?hd ?hu ?_); ((((case B => k_asm); (case F => k_asm); (case X => k_asm); (case N => k_asm); (case T => k_asm); (case hk => exact rfl); (case hd => omega); (case hu => omega)))); intro _ _ _ _; (try dsimp only); (try k_sweep)))) | walk1 | (dsimp only; walk1)))
      (show LCg.CompEnd _ _ _ _ _ _ _ _ _ _ _ _ _ _)
      exact compEnd_same (by assumption) (by assumption) (fun p hp => hp) off (by k_mem) ⟨by rw [h1y], rfl⟩
  · intro D h tk hF hN off
    simp only [LCg.Off1] at off
    clear N' F'
    (repeat' (first | ((with_reducible show wpAny _ _ (call (Value.ref _) _) _ _ _); first | (((with_reducible show wpAny _ _ (call (Value.ref 143) [Value.str _ _]) _ _ _); (refine' Con.use_val (fspath_c _ _ _) ?B ?F ?X ?N ?T ?hk ?hd ?hu ?_); ((((case B => k_asm); (case F => k_asm); (case X => k_asm); (case N => k_asm); (case T => k_asm); (case hk => exact rfl); (case hd => omega); (case hu => omega)))); intro _ _ _ _; (try dsimp only); (try k_sweep)))) | walk1 | (dsimp only; walk1)))
    refine' assign_set1 rfl ?aF ?aN ?am ?_
    case aF => assumption
    case aN => assumption
    case am => k_mem
    intro h5 hF5 hN5
    clear hN hF
    (repeat' (first | ((with_reducible show wpAny _ _ (call (Value.ref _) _) _ _ _); first | (((with_reducible show wpAny _ _ (call (Value.ref 143) [Value.str _ _]) _ _ _); (refine' Con.use_val (fspath_c _ _ _) ?B ?F ?X ?N ?T ?hk ?hd ?hu ?_); ((((case B => k_asm); (case F => k_asm); (case X => k_asm); (case N => k_asm); (case T => k_asm); (case hk => exact rfl); (case hd => omega); (case hu => omega)))); intro _ _ _ _; (try dsimp only); (try k_sweep)))) | walk1 | (dsimp only; walk1)))
    unfold Stop
    refine' Assign_ListComp_G ‹Fr _ _ _ _› rfl ?bsw ?bclos ?bcell ?bkind ?bnames ?bx ?by' ?bp ?bs ?_
    case bsw => with_unfolding_all rfl
    case bclos => with_unfolding_all rfl
    case bcell => decide
    case bkind => rfl
    case bnames => decide
    case bx => rfl
    case by' => rfl
    case bp => rfl
    case bs => intro _; with_unfolding_all rfl
    (repeat' (first | ((with_reducible show wpAny _ _ (call (Value.ref _) _) _ _ _); first | (((with_reducible show wpAny _ _ (call (Value.ref 143) [Value.str _ _]) _ _ _); (refine' Con.use_val (fspath_c _ _ _) ?B ?F ?X ?N ?T ?hk ?hd ?hu ?_); ((((case B => k_asm); (case F => k_asm); (case X => k_asm); (case N => k_asm); (case T => k_asm); (case hk => exact rfl); (case hd => omega); (case hu => omega)))); intro _ _ _ _; (try dsimp only); (try k_sweep)))) | walk1 | (dsimp only; walk1)))
    (refine' srcG_list (vs := [.ref A1, .ref A2]) (k := 2) rfl ?bF ?bN ?bm ?bz ?_; (case bF => assumption); (case bN => assumption); (case bm => k_mem); (case bz => (simp only [List.length_cons, List.length_nil]; omega)))
    intro g10
    refine LCg.CompRest.succ ?_
    intro v' I' oI' C' oC' D6 m' h' tk' E' hv' hC' hx' F' N' off' ne'
    have hv9 : Value.ref A1 = v' := by simpa using hv'
    subst hv9
    clear hv'
    simp only [LCg.Off3] at off'
    (repeat' (first | ((with_reducible show wpAny _ _ (call (Value.ref _) _) _ _ _); first | (((with_reducible show wpAny _ _ (call (Value.ref 143) [Value.str _ _]) _ _ _); (refine' Con.use_val (fspath_c _ _ _) ?B ?F ?X ?N ?T ?hk ?hd ?hu ?_); ((((case B => k_asm); (case F => k_asm); (case X => k_asm); (case N => k_asm); (case T => k_asm); (case hk => exact rfl); (case hd => omega); (case hu => omega)))); intro _ _ _ _; (try dsimp only); (try k_sweep)))) | walk1 | (dsimp only; walk1)))
    unfold Stop
    have hA10 := N'
    refine' ListComp_GT ‹Fr _ _ h' _› ?cclos ?ccell ?ckind ?cnames ?cx ?cs ?_
    case cclos => with_unfolding_all rfl
    case ccell => decide
    case ckind => rfl
    case cnames => decide
    case cx => rfl
    case cs => intro _; with_unfolding_all rfl
    (repeat' (first | ((with_reducible show wpAny _ _ (call (Value.ref _) _) _ _ _); first | (((with_reducible show wpAny _ _ (call (Value.ref 143) [Value.str _ _]) _ _ _); (refine' Con.use_val (fspath_c _ _ _) ?B ?F ?X ?N ?T ?hk ?hd ?hu ?_); ((((case B => k_asm); (case F => k_asm); (case X => k_asm); (case N => k_asm); (case T => k_asm); (case hk => exact rfl); (case hd => omega); (case hu => omega)))); intro _ _ _ _; (try dsimp only); (try k_sweep)))) | walk1 | (dsimp only; walk1)))
    (refine' srcG_list (vs := vs1) (k := 0) rfl ?dF ?dN ?dm ?dz ?_; (case dF => assumption); (case dN => assumption); (case dm => k_mem); (case dz => (rw [hs1.length]; exact cs_len x hx)))
    intro g11
    refine restT_keep (fun j zs => StrsAre zs (((Txt.split x (Str.ofString "/")).take j).filter keepC)) vs1.length ?j01 ?turn1 ?fin1
    case j01 => exact .nil
    case turn1 =>
      intro j zs v I oI C oC D7 m₂ h tk E'' hj hzs hv hC7 hx7 F7 N7 off7 ne7
      (revert hx7; apply hide1 v; intro P9 b9); obtain ⟨c, tc, hc, rfl⟩ := strsAre_get hs1 hv; refine b9 _ ?_; clear b9 P9; intro hx7
      have hcl : c.length ≤ 1000 := Nat.le_trans (hln1 c (List.mem_of_getElem? hc)) hx
      (repeat' (first | ((with_reducible show wpAny _ _ (call (Value.ref _) _) _ _ _); first | (((with_reducible show wpAny _ _ (call (Value.ref 143) [Value.str _ _]) _ _ _); (refine' Con.use_val (fspath_c _ _ _) ?B ?F ?X ?N ?T ?hk ?hd ?hu ?_); ((((case B => k_asm); (case F => k_asm); (case X => k_asm); (case N => k_asm); (case T => k_asm); (case hk => exact rfl); (case hd => omega); (case hu => omega)))); intro _ _ _ _; (try dsimp only); (try k_sweep)))) | walk1 | (dsimp only; walk1)))
      · rename (c != _) = true => q2
        refine compEnd_same (by assumption) (by assumption) (fun p hp => hp) off7 (by k_mem) ⟨?_, rfl⟩
        rw [take_succ_filter _ _ _ _ hc, if_pos (keepC_yes (by assumption) q2)]
        exact StrsAre.append' hzs (.cons _ _ .nil)
      · rename (c != _) = false => q2
        refine compEnd_same (by assumption) (by assumption) (fun p hp => hp) off7 (by k_mem) ⟨?_, rfl⟩
        rw [take_succ_filter _ _ _ _ hc, if_neg (keepC_no2 q2), List.append_nil]
        exact hzs
      · refine compEnd_same (by assumption) (by assumption) (fun p hp => hp) off7 (by k_mem) ⟨?_, rfl⟩
        rw [take_succ_filter _ _ _ _ hc, if_neg (keepC_no1 (by assumption)), List.append_nil]
        exact hzs
    intro zs1 hzs1
    have e9 : (Txt.split x (Str.ofString "/")).take vs1.length = Txt.split x (Str.ofString "/") := List.take_of_length_le (by rw [hs1.length]; exact Nat.le_refl _)
    rw [e9] at hzs1
    unfold LCg.FinE
    intro D8 h8 tk8 F8 N8 o8
    simp only [LCg.Off1] at o8
    clear hA10
    (show LCg.CompEnd _ _ _ _ _ _ _ _ _ _ _ _ _ _)
    refine' compEnd_new ⟨Ne.symm o8.1, Ne.symm o8.2.1, Ne.symm o8.2.2.1⟩ F8 N8 off' (by k_mem) ?_
    refine LCg.CompRest.succ ?_
    intro v' I' oI' C' oC' D6 m' h' tk' E' hv' hC' hx' F' N' off' ne'
    have hv9 : Value.ref A2 = v' := by simpa using hv'
    subst hv9
    clear hv'
    simp only [LCg.Off3] at off'
    try dsimp only
    (repeat' (first | ((with_reducible show wpAny _ _ (call (Value.ref _) _) _ _ _); first | (((with_reducible show wpAny _ _ (call (Value.ref 143) [Value.str _ _]) _ _ _); (refine' Con.use_val (fspath_c _ _ _) ?B ?F ?X ?N ?T ?hk ?hd ?hu ?_); ((((case B => k_asm); (case F => k_asm); (case X => k_asm); (case N => k_asm); (case T => k_asm); (case hk => exact rfl); (case hd => omega); (case hu => omega)))); intro _ _ _ _; (try dsimp only); (try k_sweep)))) | walk1 | (dsimp only; walk1)))
    unfold Stop
    refine' ListComp_GT ‹Fr _ _ h' _› ?eclos ?ecell ?ekind ?enames ?ex ?es ?_
    case eclos => with_unfolding_all rfl
    case ecell => decide
    case ekind => rfl
    case enames => decide
    case ex => rfl
    case es => intro _; with_unfolding_all rfl
    (repeat' (first | ((with_reducible show wpAny _ _ (call (Value.ref _) _) _ _ _); first | (((with_reducible show wpAny _ _ (call (Value.ref 143) [Value.str _ _]) _ _ _); (refine' Con.use_val (fspath_c _ _ _) ?B ?F ?X ?N ?T ?hk ?hd ?hu ?_); ((((case B => k_asm); (case F => k_asm); (case X => k_asm); (case N => k_asm); (case T => k_asm); (case hk => exact rfl); (case hd => omega); (case hu => omega)))); intro _ _ _ _; (try dsimp only); (try k_sweep)))) | walk1 | (dsimp only; walk1)))
    (refine' srcG_list (vs := vs2) (k := 0) rfl ?fF ?fN ?fm ?fz ?_; (case fF => assumption); (case fN => assumption); (case fm => k_mem); (case fz => (rw [hs2.length]; exact cs_len y hy)))
    intro g12
    refine restT_keep (fun j zs => StrsAre zs (((Txt.split y (Str.ofString "/")).take j).filter keepC)) vs2.length ?j02 ?turn2 ?fin2
    case j02 => exact .nil
    case turn2 =>
      intro j zs v I oI C oC D7 m₂ h tk E'' hj hzs hv hC7 hx7 F7 N7 off7 ne7
      (revert hx7; apply hide1 v; intro P9 b9); obtain ⟨c, tc, hc, rfl⟩ := strsAre_get hs2 hv; refine b9 _ ?_; clear b9 P9; intro hx7
      have hcl : c.length ≤ 1000 := Nat.le_trans (hln2 c (List.mem_of_getElem? hc)) hy
      (repeat' (first | ((with_reducible show wpAny _ _ (call (Value.ref _) _) _ _ _); first | (((with_reducible show wpAny _ _ (call (Value.ref 143) [Value.str _ _]) _ _ _); (refine' Con.use_val (fspath_c _ _ _) ?B ?F ?X ?N ?T ?hk ?hd ?hu ?_); ((((case B => k_asm); (case F => k_asm); (case X => k_asm); (case N => k_asm); (case T => k_asm); (case hk => exact rfl); (case hd => omega); (case hu => omega)))); intro _ _ _ _; (try dsimp only); (try k_sweep)))) | walk1 | (dsimp only; walk1)))
      · rename (c != _) = true => q2
        refine compEnd_same (by assumption) (by assumption) (fun p hp => hp) off7 (by k_mem) ⟨?_, rfl⟩
        rw [take_succ_filter _ _ _ _ hc, if_pos (keepC_yes (by assumption) q2)]
        exact StrsAre.append' hzs (.cons _ _ .nil)
      · rename (c != _) = false => q2
        refine compEnd_same (by assumption) (by assumption) (fun p hp => hp) off7 (by k_mem) ⟨?_, rfl⟩
        rw [take_succ_filter _ _ _ _ hc, if_neg (keepC_no2 q2), List.append_nil]
        exact hzs
      · refine compEnd_same (by assumption) (by assumption) (fun p hp => hp) off7 (by k_mem) ⟨?_, rfl⟩
        rw [take_succ_filter _ _ _ _ hc, if_neg (keepC_no1 (by assumption)), List.append_nil]
        exact hzs
    intro zs2 hzs2
    have e9 : (Txt.split y (Str.ofString "/")).take vs2.length = Txt.split y (Str.ofString "/") := List.take_of_length_le (by rw [hs2.length]; exact Nat.le_refl _)
    rw [e9] at hzs2
    unfold LCg.FinE
    intro D9 h9 tk9 F9 N9 o9
    simp only [LCg.Off1] at o9
    (show LCg.CompEnd _ _ _ _ _ _ _ _ _ _ _ _ _ _)
    refine' compEnd_new ⟨Ne.symm o9.1, Ne.symm o9.2.1, Ne.symm o9.2.2.1⟩ F9 N9 off' (by k_mem) ?_
    refine LCg.CompRest.zero ?_
    unfold LCg.FinA
    intro D10 h' tk' F' N' o1'
    simp only [LCg.Off1] at o1'
    simp only [List.nil_append, List.cons_append] at N'
    try dsimp only
    clear N8 N9 F8 F9
    (repeat' (first | ((with_reducible show wpAny _ _ (call (Value.ref _) _) _ _ _); first | (((with_reducible show wpAny _ _ (call (Value.ref 143) [Value.str _ _]) _ _ _); (refine' Con.use_val (fspath_c _ _ _) ?B ?F ?X ?N ?T ?hk ?hd ?hu ?_); ((((case B => k_asm); (case F => k_asm); (case X => k_asm); (case N => k_asm); (case T => k_asm); (case hk => exact rfl); (case hd => omega); (case hu => omega)))); intro _ _ _ _; (try dsimp only); (try k_sweep)))) | walk1 | (dsimp only; walk1)))
    try unfold Stop
    (refine' min_two' rfl ?mF ?mN ?ml ?ma hzs1 ?mb hzs2 ?mu ?_; (case mF => assumption); (case mN => assumption); (case ml => k_mem); (case ma => k_mem); (case mb => k_mem); (case mu => first | ke_room | omega))
    intro S1 z1 k1 c1 h11 tk11 hp1 hst1 F11 N11
    clear N' F'
    (repeat' (first | ((with_reducible show wpAny _ _ (call (Value.ref _) _) _ _ _); first | (((with_reducible show wpAny _ _ (call (Value.ref 143) [Value.str _ _]) _ _ _); (refine' Con.use_val (fspath_c _ _ _) ?B ?F ?X ?N ?T ?hk ?hd ?hu ?_); ((((case B => k_asm); (case F => k_asm); (case X => k_asm); (case N => k_asm); (case T => k_asm); (case hk => exact rfl); (case hd => omega); (case hu => omega)))); intro _ _ _ _; (try dsimp only); (try k_sweep)))) | walk1 | (dsimp only; walk1)))
    try unfold Stop
    (refine' max_two' rfl ?nF ?nN ?nl ?na hzs1 ?nb hzs2 ?nu ?_; (case nF => assumption); (case nN => assumption); (case nl => k_mem); (case na => k_mem); (case nb => k_mem); (case nu => first | ke_room | omega))
    intro S2 z2 k2 c2 h12 tk12 hp2 hst2 F12 N12
    clear N11 F11
    have hno := (pick_two hp1 hp2).1
    have hcp := (pick_two hp1 hp2).2
    have hcl1 : c1.length ≤ 1000000 := by
      rcases hp1 with ⟨_, _, _, _, rfl⟩ | ⟨_, _, _, _, rfl⟩
      · exact Nat.le_trans (List.length_filter_le _ _) (cs_len x hx)
      · exact Nat.le_trans (List.length_filter_le _ _) (cs_len y hy)
    have hcl2 : c2.length ≤ 1000000 := by
      rcases hp2 with ⟨_, _, _, _, rfl⟩ | ⟨_, _, _, _, rfl⟩
      · exact Nat.le_trans (List.length_filter_le _ _) (cs_len x hx)
      · exact Nat.le_trans (List.length_filter_le _ _) (cs_len y hy)
    have hcm1 : c1.length ≤ 1001 := by
      rcases hp1 with ⟨_, _, _, _, rfl⟩ | ⟨_, _, _, _, rfl⟩
      · exact Nat.le_trans (List.length_filter_le _ _) (cs_len1 x hx)
      · exact Nat.le_trans (List.length_filter_le _ _) (cs_len1 y hy)
    have hcb1 : ∀ c ∈ c1, c.length ≤ 1000 := by
      rcases hp1 with ⟨_, _, _, _, rfl⟩ | ⟨_, _, _, _, rfl⟩
      · exact fun c hc => Nat.le_trans (hln1 c ((List.mem_filter.mp hc).1)) hx
      · exact fun c hc => Nat.le_trans (hln2 c ((List.mem_filter.mp hc).1)) hy
    have hzl1 : z1.length ≤ 1000000 := by rw [hst1.length]; exact hcl1
    (repeat' (first | ((with_reducible show wpAny _ _ (call (Value.ref _) _) _ _ _); first | (((with_reducible show wpAny _ _ (call (Value.ref 143) [Value.str _ _]) _ _ _); (refine' Con.use_val (fspath_c _ _ _) ?B ?F ?X ?N ?T ?hk ?hd ?hu ?_); ((((case B => k_asm); (case F => k_asm); (case X => k_asm); (case N => k_asm); (case T => k_asm); (case hk => exact rfl); (case hd => omega); (case hu => omega)))); intro _ _ _ _; (try dsimp only); (try k_sweep)))) | walk1 | (dsimp only; walk1)))
    rename Fr _ _ _ _ => F13
    rename News _ _ _ _ => N13
    refine' for_enum (cpJ c1 c2) rfl F13 N13 (l := S1) ?pl ?p0 ?pturn ?pdone
    case pl => k_mem
    case p0 => exact ⟨rfl, _, _, m_cov2 _ _ rfl rfl⟩
    case pturn =>
      rintro i v t m₁ h tk own hv ⟨htk, io, co, rfl⟩ F14 N14
      (revert F14; apply hide1 v; intro P9 b9); obtain ⟨c, tc, hc, rfl⟩ := strsAre_get hst1 hv; refine b9 _ ?_; clear b9 P9; intro F14
      have hil : i < c1.length := (List.getElem?_eq_some_iff.mp hc).1
      have hi2 : i < c2.length := by
        refine Nat.lt_of_not_le fun hq => ?_
        have := lexLt_pre hq htk hil
        rw [hno] at this; cases this
      have N15 := news_sub N14 (fun p hp => List.mem_append.mpr ((List.mem_append.mp hp).symm))
      simp only [List.cons_append] at N15
      clear N14 N13 F13
      generalize hown : led ++ own = tl at N15
      (repeat' (first | ((with_reducible show wpAny _ _ (call (Value.ref _) _) _ _ _); first | (((with_reducible show wpAny _ _ (call (Value.ref 143) [Value.str _ _]) _ _ _); (refine' Con.use_val (fspath_c _ _ _) ?B ?F ?X ?N ?T ?hk ?hd ?hu ?_); ((((case B => k_asm); (case F => k_asm); (case X => k_asm); (case N => k_asm); (case T => k_asm); (case hk => exact rfl); (case hd => omega); (case hu => omega)))); intro _ _ _ _; (try dsimp only); (try k_sweep)))) | walk1 | (dsimp only; walk1)))
      · rename (c != _) = true => hcq
        have hcq2 : c1.getD i Str.empty ≠ c2.getD i Str.empty := by
          rw [List.getD_eq_getElem?_getD, hc]
          simpa using hcq
        have hst3 := hst1.take' i
        have hcb3 : ∀ y ∈ c1.take i, y.length ≤ 1000 := fun y hy => hcb1 y (List.mem_of_mem_take hy)
        have hl3 : (c1.take i).length ≤ 1001 := by rw [List.length_take]; omega
        have hok3 : (c1.take i).length * 1000 ≤ 1001 * 1000 := Nat.mul_le_mul_right _ hl3
        have hjl := join_bound hcb3 hl3
        dsimp only
        unfold EnumEnd
        dsimp only
        (repeat' (first | ((with_reducible show wpAny _ _ (call (Value.ref _) _) _ _ _); first | (((with_reducible show wpAny _ _ (call (Value.ref 143) [Value.str _ _]) _ _ _); (refine' Con.use_val (fspath_c _ _ _) ?B ?F ?X ?N ?T ?hk ?hd ?hu ?_); ((((case B => k_asm); (case F => k_asm); (case X => k_asm); (case N => k_asm); (case T => k_asm); (case hk => exact rfl); (case hd => omega); (case hu => omega)))); intro _ _ _ _; (try dsimp only); (try k_sweep)))) | walk1 | (dsimp only; walk1)))
        (((try dsimp only); (refine' Ends.intro ?_ ?F ?N ?_); (case F => assumption); (case N => assumption); rotate_left))
        · exact imp9 _ _ ⟨⟨_, by unfold cpS ccs; rw [← hcp, cpre_stop htk hil hi2 hcq2]⟩, rfl⟩
        · intro p hp
          rcases List.mem_cons.mp hp with rfl | hp
          · walk_at "INN"
          · rw [← hown]; simp [hp]
      · rename (c != _) = false => hcq
        have hcq2 : c = c2.getD i Str.empty := by simpa using hcq
        refine enum_next (by assumption) N15 (fun p hp => ?_) ⟨?_, _, _, m_keep2 _ _ rfl rfl (by intro y h1 h2; simp [h1, h2])⟩
        · rw [← hown]
          exact List.mem_append.mpr (List.mem_append.mp hp).symm
        · rw [List.take_add_one, List.take_add_one, htk, hc, hcq2, List.getD_eq_getElem?_getD, List.getElem?_eq_getElem hi2]
          rfl
    case pdone =>
      rintro h tk m' ⟨htk, io, co, rfl⟩ F14 N14
      clear N13 F13
      have e9 : c1.take z1.length = c1 := List.take_of_length_le (by rw [hst1.length]; exact Nat.le_refl _)
      have hok3 : c1.length * 1000 ≤ 1001 * 1000 := Nat.mul_le_mul_right _ hcm1
      have hjl := join_bound hcb1 hcm1
      (repeat' (first | ((with_reducible show wpAny _ _ (call (Value.ref _) _) _ _ _); first | (((with_reducible show wpAny _ _ (call (Value.ref 143) [Value.str _ _]) _ _ _); (refine' Con.use_val (fspath_c _ _ _) ?B ?F ?X ?N ?T ?hk ?hd ?hu ?_); ((((case B => k_asm); (case F => k_asm); (case X => k_asm); (case N => k_asm); (case T => k_asm); (case hk => exact rfl); (case hd => omega); (case hu => omega)))); intro _ _ _ _; (try dsimp only); (try k_sweep)))) | walk1 | (dsimp only; walk1)))
      (((try dsimp only); (refine' Ends.intro ?_ ?F ?N ?_); (case F => assumption); (case N => assumption); rotate_left))
      · exact imp9 _ _ ⟨⟨_, by unfold cpS ccs; rw [← hcp, cpre_all (by rw [e9] at htk; rw [← hst1.length]; exact htk)]⟩, rfl⟩
      · intro p hp
        rcases List.mem_cons.mp hp with rfl | hp
        · walk_at "INN"
        · simp [hp]
end SC12
example : True := by
  w_top off
  first
    | walk1
    | trivial
section SC21
local macro_rules | `(tactic| walk_at "call builtin:str.join") => `(tactic| k_dflt ((refine' join_strsTn ?N ?m ?s ?B ?x ?ok ?_); (case N => assumption); (case m => walk_at "INN"); (case s => assumption); (case B => assumption); (case x => decide +kernel); (case ok => omega); intro t9 k9))
local macro_rules | `(tactic| walk_at "binaryOp Add str str") => `(tactic| k_dflt ((refine' SB.add ?_ ?sz); (case sz => (have hc9 := sizeLine_eq; omega)); intro t9 k9))
theorem ledLt_all {l : List (Addr × Obj)} {d : Addr} (h : ∀ p ∈ l, p.1 < d) : LedLt l d := h
local macro_rules | `(tactic| walk_at "INN") => `(tactic| first | exact List.Mem.head _ | assumption | (refine' List.Mem.tail _ ?_; walk_at "INN"))
local macro_rules | `(tactic| walk_at "getMethod ref") => `(tactic| ((with_reducible show wpAny _ _ (getMethod (Value.ref _) (Str.ofString "get") _) _ _ _); k_dflt ((refine' kdg_method (knd := PySem.strKind _ _) ?gmN ?gmp ?gmd ?_); (case gmN => assumption); (case gmp => walk_at "INN"); (case gmd => assumption))))
local macro_rules | `(tactic| walk_at "call builtin:dict.get") => `(tactic| k_dflt ((refine' get_tab ?gtN ?gtm ?gto ?gtl ?_); (case gtN => assumption); (case gtm => walk_at "INN"); (case gto => assumption); (case gtl => assumption); intro u9))
local macro_rules | `(tactic| walk_at "call builtin:list.append") => `(tactic| k_dflt (refine stop_of ?_))
local macro_rules | `(tactic| walk_at "compareOp NotEq ref ref") => `(tactic| k_dflt ((refine' ne_empty ?N ?m ?b ?u ?_); (case N => assumption); (case m => walk_at "INN"); (case b => walk_at "INN"); (case u => first | ke_room | omega)))
noncomputable def stepP (k : Int) (st : List (List Str) × List (List Str)) (x : Int) : List (List Str) × List (List Str) :=
  ((PlainD k x st.1).2, st.2 ++ [(PlainD k x st.1).1] ++ (if (PlainD k x st.1).2.length = 0 then [] else [leastN k (PlainD k x st.1).2]))
noncomputable def runP (k : Int) (ds : List Int) (st : List (List Str) × List (List Str)) : List (List Str) × List (List Str) := ds.foldl (stepP k) st
inductive DrP (k : Int) (xs t : List (List Str)) : List (List Str) → List (List Str) → Prop
  | refl : DrP k xs t xs t
  | step {ys u : List (List Str)} : DrP k xs t ys u → 0 < ys.length → DrP k xs t (ys.erase (leastN k ys)) (u ++ [leastN k ys])
noncomputable def st0 : List (List Str) := [[Str.ofString "a<", Str.ofString "&"], [Str.ofString "a", Str.ofString "\""]]
noncomputable def outP (k : Int) (ns : List Str) : Str := Str.join (Str.ofString "") ((pathS ns).cps.toList.map fun c => (tabG (tabL k) ⟨#[c]⟩).getD ⟨#[c]⟩)
inductive DuePost (k : Int) (ds : List Int) (led : Led) (r : Value) (led' : Led) : Prop
  | mk (D : Addr) (vs : List Value) (c : Nat) (due : List (List Str)) (er : r = .ref D) (s : StrsAre vs (due.map (outP k))) (dr : DrP k (runP k ds (st0, [])).1 (runP k ds (st0, [])).2 [] due) (el : led' = (D, listOf (List.toArray vs) c) :: led)
noncomputable def PlainOK (k : Int) (nss : List (List Str)) : Prop :=
  (∀ n ∈ nss, ∀ y ∈ n, y ∈ allS) ∧ (∀ n ∈ nss, n.length ≤ 900) ∧ nss.length ≤ 900000 ∧ ((nss.erase (leastN k nss)).length ≠ 0 → ∀ i, (leastN k nss).take i = (leastN k (nss.erase (leastN k nss))).take i → i < (leastN k nss).length → i < (leastN k (nss.erase (leastN k nss))).length)
theorem n8a : ∀ y ∈ [Str.ofString "a<", Str.ofString "&"], y.length ≤ 8 := by decide +kernel
theorem n8b : ∀ y ∈ [Str.ofString "a", Str.ofString "\""], y.length ≤ 8 := by decide +kernel
theorem n8c {a b : Str} : [a, b].length ≤ 1000 := by simp
theorem use_place0 {dp un : Nat} {gd : Option (List Code)} {cn : Str} {cs : Scope} {a : Addr} {ccd : Value} {cl : List (Str × Addr)} {outer : List Env} {A₀ : Around} {base h₀ : Heap} {L : Addr} {m : Str → Option Value} {s : Shared} {Q E : Value → Shared → Prop}
    {T : Addr} {o : Obj} {led : Led} {v : Value} {ns : List Str} {k : Int} {ce : Addr × Obj}
    (B0 : Below A₀ base outer h₀) (F : Fr h₀ L s.heap m) (X : (hd0.heap_1 w.params).In h₀) (N : News h₀ L s.heap led) (T0 : Top vw (looseW vw []) mean mg mb h₀) (hk : cs.kind = .function) (hd : dp + 2 < recursionLimit) (hu : un + 90 < cLine)
    (hce : ce ∈ led) (hT : (T, o) ∈ led) (ho : TabO w k o) (hlo : (T == sysModules) = false) (hv : DatIn led v (namesD ns)) (hp : ∀ y ∈ ns, y.length ≤ 8) (hl : ns.length ≤ 1000)
    (h : ∀ P led' h' tk', (∀ p ∈ led, p ∈ led') → DatIn led' (.ref P) (PD k ns) → Fr h₀ L h' m → News h₀ L h' (ce :: led') → Q (.ref P) { s with heap := h', toks := tk' }) :
    wpAny (model pg w) (ktrTop dp un gd cn cs L a ccd cl outer) (call (.ref 291) [v, .ref T]) Q E s := by
  obtain ⟨b, us, n, rfl, hm, hs⟩ := names_open hv
  refine (place_c b T us n ns k o led hm hT hs hp hl ho hlo) dp un gd cn cs a ccd cl outer A₀ base h₀ L m s Q E B0 F X N T0 hk hd hu ?_
  rintro r led' h' tk' ⟨P, nw, rfl, rfl, hD, hf⟩ F' N'
  exact h P (nw ++ led) h' tk' (fun p hp => List.mem_append_right _ hp) (hD _ hv) F' (news_sub N' (List.forall_mem_cons.mpr ⟨List.mem_append_right _ hce, fun _ h => h⟩))
noncomputable def NmOK (n : List Str) : Prop := (∀ y ∈ n, y ∈ allS) ∧ n.length ≤ 900
theorem plainD_out {k x : Int} {nss : List (List Str)} (h : PlainOK k nss) : NmOK (PlainD k x nss).1 := by
  have base : NmOK [pcP x, otP x] := ⟨in2 (pcP_mem x) (otP_mem x), by simp⟩
  have one : NmOK [pcP x] := ⟨in1 (pcP_mem x), by simp⟩
  have mem : ∀ n ∈ nss, NmOK n := fun n hn => ⟨h.1 n hn, h.2.1 n hn⟩
  unfold PlainD
  split
  · exact base
  · rename_i h0
    have hl := leastN_mem (k := k) (nss := nss) (by omega)
    split
    · have := leastN_mem (k := k) (nss := nss ++ [[pcP x]]) (by simp)
      rcases List.mem_append.mp this with e | e
      · exact mem _ e
      · rw [List.mem_singleton.mp e]; exact one
    split
    · exact mem _ hl
    split
    · exact mem _ hl
    split
    · exact mem _ hl
    split
    · rename_i h6
      exact mem _ (List.mem_of_mem_erase (leastN_mem (by omega)))
    · exact mem _ hl
section
variable {dp un : Nat} {gd : Option (List Code)} {cn : Str} {cs : Scope} {a : Addr} {ccd : Value} {cl : List (Str × Addr)} {outer : List Env} {A₀ : Around} {base h₀ : Heap} {L : Addr} {m : Str → Option Value} {s : Shared} {Q E : Value → Shared → Prop}
  {B T I DD : Addr} {o oI oD : Obj} {ce pE : Addr × Obj} {sub news : Led} {v v2 : Value} {nss : List (List Str)} {k x : Int} {vs : List Value} {c : Nat} {u : Tok}
theorem use_plain (B0 : Below A₀ base outer h₀) (F : Fr h₀ L s.heap m) (X : (hd0.heap_1 w.params).In h₀) (N : News h₀ L s.heap ((I, oI) :: (DD, oD) :: (B, listOf vs.toArray c) :: ce :: sub)) (T0 : Top vw (looseW vw []) mean mg mb h₀) (hk : cs.kind = .function) (hd : dp + 4 < recursionLimit) (hu : un + 160 < cLine)
    (hT : (T, o) ∈ sub) (ho : TabO w k o) (hlo : (T == sysModules) = false) (hce : ce ∈ sub) (hb : Bag k sub vs nss) (hI : I ≠ B) (hDB : DD ≠ B) (hne : ∀ p ∈ sub, p.1 ≠ B) (hok : PlainOK k nss)
    (h : ∀ v' vs' c' sub' h' tk', (∀ p ∈ sub, p ∈ sub') → (∀ p ∈ sub', p ∈ sub ∨ (B < p.1 ∧ I < p.1 ∧ DD < p.1)) → Bag k sub' vs' (PlainD k x nss).2 → DatIn sub' v' (namesD (PlainD k x nss).1) → Fr h₀ L h' m → News h₀ L h' ((I, oI) :: (DD, oD) :: (B, listOf (List.toArray vs') c') :: ce :: sub') → Q v' { s with heap := h', toks := tk' }) :
    wpAny (model pg w) (ktrTop dp un gd cn cs L a ccd cl outer) (call (.ref 319) [.ref B, .ref T, .int x u]) Q E s := by
  have N0 : News h₀ L s.heap ((B, listOf vs.toArray c) :: (I, oI) :: (DD, oD) :: sub) := news_sub N fun p hp => by
    simp only [List.mem_cons] at hp ⊢
    rcases hp with e | e | e | e <;> simp [e]
  refine (plain_c B T vs nss c k o x u sub ((I, oI) :: (DD, oD) :: sub) (fun p hp => .tail _ (.tail _ hp)) hb (.tail _ (.tail _ hT)) ho hlo (List.forall_mem_cons.mpr ⟨hI, List.forall_mem_cons.mpr ⟨hDB, hne⟩⟩) hok.1 hok.2.1 hok.2.2.1 hok.2.2.2) dp un gd cn cs a ccd cl outer A₀ base h₀ L m s Q E B0 F X N0 T0 hk hd hu ?_
  rintro r led' h' tk' ⟨vs', c', nw, rfl, hb', hr, hf⟩ F' N'
  refine h r vs' c' (nw ++ sub) h' tk' (fun p hp => List.mem_append_right _ hp) (fun p hp => ?_) hb' hr F' (news_sub N' fun p hp => ?_)
  · rcases List.mem_append.mp hp with e | e
    · exact .inr ⟨(hf p e).1, (hf p e).2 _ (.head _), (hf p e).2 _ (.tail _ (.head _))⟩
    · exact .inl e
  · simp only [List.mem_cons, List.mem_append] at hp ⊢
    rcases hp with e | e | e | e | e | e
    · simp [e]
    · simp [e]
    · simp [e]
    · rw [e]; simp [hce]
    · simp [e]
    · simp [e]
theorem use_least0 (B0 : Below A₀ base outer h₀) (F : Fr h₀ L s.heap m) (X : (hd0.heap_1 w.params).In h₀) (N : News h₀ L s.heap (pE :: (DD, oD) :: (B, listOf vs.toArray c) :: ce :: sub)) (T0 : Top vw (looseW vw []) mean mg mb h₀) (hk : cs.kind = .function) (hd : dp + 2 < recursionLimit) (hu : un + 120 < cLine)
    (hce : ce ∈ sub) (hb : Bag k sub vs nss) (hDB : DD ≠ B) (hne : ∀ p ∈ sub, p.1 ≠ B) (hn : 0 < nss.length) (hl : nss.length ≤ 1000000)
    (h : ∀ v' vs' c' h' tk', Bag k sub vs' (nss.erase (leastN k nss)) → DatIn sub v' (namesD (leastN k nss)) → Fr h₀ L h' m → News h₀ L h' ((DD, oD) :: (B, listOf (List.toArray vs') c') :: ce :: sub) → Q v' { s with heap := h', toks := tk' }) :
    wpAny (model pg w) (ktrTop dp un gd cn cs L a ccd cl outer) (call (.ref 298) [.ref B]) Q E s := by
  have N0 : News h₀ L s.heap ((B, listOf vs.toArray c) :: (DD, oD) :: sub) := news_sub N fun p hp => by
    simp only [List.mem_cons] at hp ⊢
    rcases hp with e | e | e <;> simp [e]
  refine (least_c B vs nss c k sub ((DD, oD) :: sub) (fun p hp => .tail _ hp) hb hn hl (List.forall_mem_cons.mpr ⟨hDB, hne⟩)) dp un gd cn cs a ccd cl outer A₀ base h₀ L m s Q E B0 F X N0 T0 hk hd hu ?_
  rintro r led' h' tk' ⟨vs', c', rfl, hb', hr⟩ F' N'
  refine h r vs' c' h' tk' hb' hr F' (news_sub N' fun p hp => ?_)
  simp only [List.mem_cons] at hp ⊢
  rcases hp with e | e | e | e
  · simp [e]
  · simp [e]
  · rw [e]; simp [hce]
  · simp [e]
end
theorem runP_take {k x : Int} {ds : List Int} {i : Nat} {st : List (List Str) × List (List Str)} (h : ds[i]? = some x) : runP k (ds.take (i + 1)) st = stepP k (runP k (ds.take i) st) x := by
  rw [List.take_add_one, h]
  simp [runP]
inductive drainPJ (k : Int) (nss due : List (List Str)) (B DD : Addr) (ce : Addr × Obj) (sub : Led) (m₀ : Str → Option Value) (_ : Led) (n : Nat) (m : Str → Option Value) (led' : Led) : Prop
  | mk (vs : List Value) (c : Nat) (dv : List Value) (cd : Nat) (nss1 due1 : List (List Str)) (b : Bag k sub vs nss1) (d : DatAll sub dv (List.map namesD due1)) (r : DrP k nss due nss1 due1) (en : n = nss1.length) (h1 : ∀ n ∈ due1, NmOK n) (h2 : ∀ n ∈ nss1, NmOK n) (h3 : due1.length + nss1.length = due.length + nss.length)
    (el : led' = (DD, listOf (List.toArray dv) cd) :: (B, listOf (List.toArray vs) c) :: ce :: sub) (em : m = m₀)
theorem tabS_len (k : Int) (c : Nat) : ((tabG (tabL k) ⟨#[c]⟩).getD ⟨#[c]⟩).length ≤ 6 := by
  have key : ∀ (l : List (Str × Str)) (x : Str), x.length ≤ 6 → (∀ p ∈ l, p.2.length ≤ 6) → ((l.lookup x).getD x).length ≤ 6 := by
    intro l x hx hl
    induction l with
    | nil => exact hx
    | cons p l ih =>
      rw [List.lookup_cons]
      by_cases e : (x == p.1) = true
      · rw [e]; exact hl p (.head _)
      · rw [Bool.eq_false_iff.mpr e]
        exact ih fun q hq => hl q (.tail _ hq)
  refine key (tabL k) ⟨#[c]⟩ (by simp [Str.length]) ?_
  unfold tabL
  split
  · decide +kernel
  split
  · decide +kernel
  split
  · decide +kernel
  split
  · decide +kernel
  · decide +kernel
inductive dueJ (k : Int) (ds : List Int) (Inv : Nat → List (List Str) → Prop) (B DD : Addr) (ce : Addr × Obj) (L1 : Led) (m₀ : Str → Option Value) (_ : Led) (_ : Addr) (i : Nat) (m : Str → Option Value) (led' : Led) : Prop
  | mk (vs : List Value) (c : Nat) (dv : List Value) (cd : Nat) (nss due : List (List Str)) (sub : Led) (co : Option Value) (b : Bag k sub vs nss) (d : DatAll sub dv (List.map namesD due)) (r : runP k (ds.take i) (st0, []) = (nss, due)) (v : Inv i nss) (l : due.length ≤ 2 * i) (h1 : ∀ n ∈ due, NmOK n) (h2 : ∀ p ∈ L1, p ∈ sub) (h3 : ∀ p ∈ sub, p.1 ≠ B ∧ p.1 ≠ DD)
    (el : led' = (DD, listOf (List.toArray dv) cd) :: (B, listOf (List.toArray vs) c) :: ce :: sub) (em : m = fun y => if y = Str.ofString "x" then co else m₀ y)
theorem due_c (DR T : Addr) (k : Int) (o : Obj) (dv : List Value) (ds : List Int) (kd : Nat) (led : Led) (hdv : IntsAre dv ds) (hdl : dv.length ≤ 1000) (hT : (T, o) ∈ led) (ho : TabO w k o) (hlo : (T == sysModules) = false) (hD : (DR, listOf dv.toArray kd) ∈ led)
    (Inv : Nat → List (List Str) → Prop) (hI0 : Inv 0 st0) (hI : ∀ i x nss, ds[i]? = some x → Inv i nss → Inv (i + 1) (PlainD k x nss).2) (hOk : ∀ i nss, Inv i nss → PlainOK k nss) :
    Con w mean mg mb 324 [.ref DR, .ref T] led 6 200 (DuePost k ds led) := by
  refine' Con.bodyC (binds := [(Str.ofString "draws", .ref DR), (Str.ofString "table", .ref T)]) ?ho ?hcd ?hbind ?hkind ?hnd ?hD ?_ ?c2 ?c3 ?c4
  (((case ho => k_is); (case hcd => k_is); (case hbind => exact rfl); (case hkind => exact rfl); (case hnd => decide +kernel); (case hD => decide); (case c2 => exact rfl); (case c3 => exact rfl); (case c4 => exact rfl); intro _ _ _ _ _ _ _ _ _ _ _ _ _ N' Y' l1 _ _ _; (have hled := ledLt_all l1); k_cells Y'; (try simp only [List.cons_append, List.nil_append] at N'); (try dsimp only)))
  rename Obj => oC
  rename Addr => L9
  (repeat' (first | walk1 | (dsimp only; walk1)))
  refine' use_place0 (ns := [Str.ofString "a<", Str.ofString "&"]) (k := k) ?B0 ?F ?X (by assumption) ?T0 ?hk ?hd ?hu (.tail _ (.head _)) (.tail _ (.tail _ hT)) ho hlo ?hv n8a n8c ?_
  (((case B0 => k_asm); (case F => k_asm); (case X => k_asm); (case T0 => k_asm); (case hk => exact rfl); (case hd => omega); (case hu => omega)))
  case hv => exact .tuple (vs := [.str _ _, .str _ _]) (.head _) (.cons (.str _ _) (.cons (.str _ _) .nil))
  intro P1 led1 h1 tk1 hm1 d1 F1 N1
  (repeat' (first | walk1 | (dsimp only; walk1)))
  refine' use_place0 (ns := [Str.ofString "a", Str.ofString "\""]) (k := k) ?B0 ?F ?X (by assumption) ?T0 ?hk ?hd ?hu (.tail _ (.head _)) (.tail _ (.tail _ (hm1 _ (.tail _ (.tail _ hT))))) ho hlo ?hv n8b n8c ?_
  (((case B0 => k_asm); (case F => k_asm); (case X => k_asm); (case T0 => k_asm); (case hk => exact rfl); (case hd => omega); (case hu => omega)))
  case hv => exact .tuple (vs := [.str _ _, .str _ _]) (.head _) (.cons (.str _ _) (.cons (.str _ _) .nil))
  intro P2 led2 h2 tk2 hm2 d2 F2 N2
  (repeat' (first | walk1 | (dsimp only; walk1)))
  try unfold Stop
  rename_i B hB1 lB tkX DD hD1 lD hh F3 N3
  have hce2 : ∀ p ∈ led1, p ∈ led2 := fun p hp => hm2 p (.tail _ (.tail _ hp))
  refine for_list (dueJ k ds Inv B DD (L9 + 1, oC) led2) rfl F3 N3 (.tail _ (.tail _ (.tail _ (hce2 _ (hm1 _ (.tail _ (.tail _ hD))))))) ?j0 ?jk ?turn ?done
  case j0 =>
    intro I _
    refine ⟨[.ref P1, .ref P2], 0, [], 0, st0, [], led2, _, ⟨.cons (d1.mono hce2) (.cons d2 .nil), ?_⟩, .nil, rfl, hI0, Nat.zero_le _, (fun n hn => nomatch hn), (fun p hp => hp), (fun p hp => ⟨Nat.ne_of_lt (ktn_ltOf lB.2 p hp), Nat.ne_of_lt (ktn_ltOf lD.2.2 p hp)⟩), rfl, m_cov1 _ rfl⟩
    exact fun n hn => inOk ((hOk 0 st0 hI0).1 n hn)
  case jk =>
    rintro I i m' led' ⟨vs, c, dv', cd, nss, due, sub, co, _, _, _, _, _, _, hL1, _, rfl, _⟩
    exact .tail _ (.tail _ (.tail _ (hL1 _ (hce2 _ (hm1 _ (.tail _ (.tail _ hD)))))))
  case turn =>
    rintro I i v m₁ led' h tk oI hv ⟨vs, c, dv', cd, nss, due, sub, co, hb, hdu, hrun, hinv, hdl2, hnm, hL1, hne, rfl, rfl⟩ hneI F4 N4
    (revert F4; apply hide1 v; intro P9 b9); obtain ⟨x, tx, hx, rfl⟩ := intsAre_get hdv hv; refine b9 _ ?_; clear b9 P9; intro F4
    clear F3 N3
    (repeat' (first | walk1 | (dsimp only; walk1)))
    have hok := hOk i nss hinv
    have hinv2 := hI i x nss hx hinv
    have hok2 := hOk _ _ hinv2
    have hi9 : i < dv.length := (List.getElem?_eq_some_iff.mp hv).1
    have qI : DD ≠ I := hneI _ (.head _)
    have qIB : B ≠ I := hneI _ (.tail _ (.head _))
    have qDB : DD ≠ B := Nat.ne_of_gt lD.1
    have hdl9 : dv'.length = due.length := by have := hdu.length; simpa using this
    refine' use_plain (sub := sub) ?B0 ?F ?X (by assumption) ?T0 ?hk ?hd ?hu (hL1 _ (hce2 _ (hm1 _ (.tail _ (.tail _ hT))))) ho hlo (hL1 _ (hce2 _ (hm1 _ (.tail _ (.head _))))) hb qIB.symm qDB (fun p hp => (hne p hp).1) hok ?_
    (((case B0 => k_asm); (case F => k_asm); (case X => k_asm); (case T0 => k_asm); (case hk => exact rfl); (case hd => omega); (case hu => omega)))
    intro v1 vs1 c1 sub1 h5 tk5 hs1 hf1 hb1 hv1 F5 N5
    have hne1 : ∀ p ∈ sub1, p.1 ≠ B ∧ p.1 ≠ DD ∧ p.1 ≠ I := by
      intro p hp
      rcases hf1 p hp with e | e
      · exact ⟨(hne p e).1, (hne p e).2, hneI p (.tail _ (.tail _ (.tail _ e)))⟩
      · exact ⟨Nat.ne_of_gt e.1, Nat.ne_of_gt e.2.2, Nat.ne_of_gt e.2.1⟩
    clear N4 F4
    (repeat' (first | walk1 | (dsimp only; walk1)))
    try unfold Stop
    refine append_val (D := DD) (vs := dv') (n := cd) (v := v1) F5 N5 (Upd.tail qI.symm (Upd.head (List.forall_mem_cons.mpr ⟨qDB.symm, List.forall_mem_cons.mpr ⟨(hne1 _ (hs1 _ (hL1 _ (hce2 _ (hm1 _ (.tail _ (.head _))))))).2.1, fun p hp => (hne1 p hp).2.1⟩⟩))) (by omega) ?_
    intro h6 F6 N6
    have hvl1 : vs1.length = (PlainD k x nss).2.length := by have := hb1.1.length; simpa using this
    have hst := runP_take (k := k) (st := (st0, [])) hx
    rw [hrun] at hst
    have hno1 := plainD_out (x := x) hok
    have hce9 : (L9 + 1, oC) ∈ sub1 := hs1 _ (hL1 _ (hce2 _ (hm1 _ (.tail _ (.head _)))))
    have hL1' : ∀ p ∈ led2, p ∈ sub1 := fun p hp => hs1 p (hL1 p hp)
    have hdu1 : DatAll sub1 (dv' ++ [v1]) (List.map namesD (due ++ [(PlainD k x nss).1])) := by
      rw [List.map_append]
      exact (hdu.mono hs1).append (.cons hv1 .nil)
    have hnm1 : ∀ n ∈ due ++ [(PlainD k x nss).1], NmOK n := List.forall_mem_append.mpr ⟨hnm, fun n hn => by rw [List.mem_singleton.mp hn]; exact hno1⟩
    (repeat' (first | walk1 | (dsimp only; walk1)))
    · rename News _ _ _ (_ :: _ :: _) => N7
      (((try dsimp only); first | ((with_reducible refine' turn_mk ?F ?N ?_); (case F => assumption); (case N => assumption)) | ((with_reducible refine' turn_mkC ?F ?N ?_); (case F => assumption); (case N => assumption))))
      refine ⟨(DD, listOf (dv' ++ [v1]).toArray (cd + 1)) :: (B, listOf vs1.toArray c1) :: (L9 + 1, oC) :: sub1, ⟨vs1, c1, dv' ++ [v1], cd + 1, (PlainD k x nss).2, due ++ [(PlainD k x nss).1], sub1, _, hb1, hdu1, ?_, hinv2, ?_, hnm1, hL1', fun p hp => ⟨(hne1 p hp).1, (hne1 p hp).2.1⟩, rfl, m_keep1 _ rfl (by intro y h1; simp [h1])⟩, fun p hp => ?_, ?_⟩
      · rw [hst, stepP, if_pos (by show (PlainD k x nss).2.length = 0; omega), List.append_nil]
      · rw [List.length_append, List.length_singleton]; omega
      · simp only [List.mem_cons] at hp ⊢
        rcases hp with e | e | e | e <;> simp [e]
      · exact List.forall_mem_cons.mpr ⟨qI, List.forall_mem_cons.mpr ⟨qIB, List.forall_mem_cons.mpr ⟨(hne1 _ hce9).2.2, fun p hp => (hne1 p hp).2.2⟩⟩⟩
    · rename News _ _ _ (_ :: _ :: _) => N7
      rename (_ < _ ∧ _ < _ ∧ _ < _ ∧ _ < _ ∧ AllLt _ _) => lE
      refine min_bag rfl hb1 (fun p hp => .tail _ (.tail _ (.tail _ (.tail _ (.tail _ hp))))) (.tail _ (.tail _ (.tail _ (.head _)))) (by omega) (by assumption) N7 (by first | ke_room | omega) ?_
      intro v2 h7 tk7 hv2 F7 N8
      (apply hide1 v2; intro P9 b9); obtain ⟨a2, us, ca, nm, rfl, hma, hu1, hul, hnm2⟩ := PD_open hv2; refine b9 _ ?_; clear b9 P9
      clear N7
      (repeat' (first | walk1 | (dsimp only; walk1)))
      refine item_at N8 (.tail _ (.tail _ (.tail _ (.tail _ (.tail _ hma))))) hu1 (by omega) ?_ (by with_unfolding_all rfl)
      (repeat' (first | walk1 | (dsimp only; walk1)))
      try unfold Stop
      refine append_val (D := DD) (vs := dv' ++ [v1]) (n := cd + 1) (v := nm) (by assumption) N8 (Upd.tail (Nat.ne_of_gt lE.2.1) (Upd.tail qI.symm (Upd.head (List.forall_mem_cons.mpr ⟨qDB.symm, List.forall_mem_cons.mpr ⟨(hne1 _ hce9).2.1, fun p hp => (hne1 p hp).2.1⟩⟩)))) (by simp; omega) ?_
      intro h8 F8 N9
      (repeat' (first | walk1 | (dsimp only; walk1)))
      (((try dsimp only); first | ((with_reducible refine' turn_mk ?F ?N ?_); (case F => assumption); (case N => assumption)) | ((with_reducible refine' turn_mkC ?F ?N ?_); (case F => assumption); (case N => assumption))))
      have hlm := leastN_mem (k := k) (nss := (PlainD k x nss).2) (by omega)
      refine ⟨(DD, listOf (dv' ++ [v1] ++ [nm]).toArray (cd + 1 + 1)) :: (B, listOf vs1.toArray c1) :: (L9 + 1, oC) :: sub1, ⟨vs1, c1, dv' ++ [v1] ++ [nm], cd + 1 + 1, (PlainD k x nss).2, due ++ [(PlainD k x nss).1] ++ [leastN k (PlainD k x nss).2], sub1, _, hb1, ?_, ?_, hinv2, ?_, ?_, hL1', fun p hp => ⟨(hne1 p hp).1, (hne1 p hp).2.1⟩, rfl, m_keep1 _ rfl (by intro y h1; simp [h1])⟩, fun p hp => ?_, ?_⟩
      · rw [List.map_append]
        exact hdu1.append (.cons hnm2 .nil)
      · rw [hst, stepP, if_neg (by show ¬ (PlainD k x nss).2.length = 0; omega)]
      · rw [List.length_append, List.length_singleton, List.length_append, List.length_singleton]; omega
      · exact List.forall_mem_append.mpr ⟨hnm1, fun n hn => by rw [List.mem_singleton.mp hn]; exact ⟨hok2.1 _ hlm, hok2.2.1 _ hlm⟩⟩
      · simp only [List.mem_cons] at hp ⊢
        rcases hp with e | e | e | e <;> simp [e]
      · exact List.forall_mem_cons.mpr ⟨qI, List.forall_mem_cons.mpr ⟨qIB, List.forall_mem_cons.mpr ⟨(hne1 _ hce9).2.2, fun p hp => (hne1 p hp).2.2⟩⟩⟩
  case done =>
    rintro I m₁ led' h tk ⟨vs, c, dv', cd, nss, due, sub, co, hb, hdu, hrun, hinv, hdl2, hnm, hL1, hne, rfl, rfl⟩ F4 N4
    clear F3 N3
    have qDB : DD ≠ B := Nat.ne_of_gt lD.1
    have hok := hOk _ nss hinv
    have hok3 := hok.2.2.1
    (repeat' (first | walk1 | (dsimp only; walk1)))
    try unfold Stop
    rename Fr _ _ _ _ => F5
    rename News _ _ _ _ => N5
    refine while_inv (drainPJ k nss due B DD (L9 + 1, oC) sub) (n₀ := nss.length) F5 N5 ?j0 ?turn
    case j0 => exact ⟨vs, c, dv', cd, nss, due, hb, hdu, .refl, rfl, hnm, fun n hn => ⟨hok.1 n hn, hok.2.1 n hn⟩, rfl, rfl, rfl⟩
    case turn =>
      rintro n m₂ led₂ h₂ tk₂ F6 N6 ⟨vs1, c1, dv1, cd1, nss1, due1, hb1, hdu1, hdr, rfl, hnm1, hns1, hlen, rfl, rfl⟩
      clear F5 N5
      have hvl1 : vs1.length = nss1.length := by have := hb1.1.length; simpa using this
      have hdl9 : dv1.length = due1.length := by have := hdu1.length; simpa using this
      (repeat' (first | walk1 | (dsimp only; walk1)))
      · have e0 : nss1 = [] := List.eq_nil_of_length_eq_zero (by omega)
        subst e0
        try unfold Stop
        rename News _ _ _ _ => N7
        refine' ListComp_G (by assumption) ?cclos ?ccell ?ckind ?cnames ?cx ?cs ?_
        case cclos => with_unfolding_all rfl
        case ccell => decide
        case ckind => rfl
        case cnames => decide
        case cx => rfl
        case cs => intro _; with_unfolding_all rfl
        (repeat' (first | walk1 | (dsimp only; walk1)))
        (refine' srcG_list (vs := dv1) (k := cd1) rfl ?dF ?dN ?dm ?dz ?_; (case dF => assumption); (case dN => assumption); (case dm => k_mem); (case dz => omega))
        intro g9
        refine rest_keep (fun j ys => StrsAre ys ((due1.take j).map (outP k))) dv1.length ?j01 ?turn1 ?fin1
        case j01 => exact .nil
        case turn1 =>
          intro j ys v I2 oI2 C2 oC2 D2 m₃ h3 tk3 E3 hj hys hv hC3 hx3 F8 N8 off8 ne8
          clear N7
          have hv : dv1[j]? = some v := hv
          have hj2 : j < due1.length := by omega
          refine hide fun P9 b9 => ?_
          obtain ⟨v', e, d⟩ := hdu1.get (k := j) (by simpa using hj2)
          have e9 : v = v' := Option.some.inj (hv.symm.trans e)
          rw [← e9, List.getElem_map] at d
          clear e e9 v'
          have hok9 := hnm1 _ (List.getElem_mem hj2)
          have hget : due1[j]? = some due1[j] := List.getElem?_eq_getElem hj2
          generalize due1[j] = ns at d hok9 hget
          refine b9 ?_
          clear b9 P9
          (revert hx3; apply hide1 v; intro P9 b9); obtain ⟨a3, us3, n3, rfl, hm3, hs3⟩ := names_open d; refine b9 _ ?_; clear b9 P9; intro hx3
          have hB9 : ∀ y ∈ ns, y.length ≤ 8 := in8 hok9.1
          have hl9 : ns.length ≤ 900 := hok9.2
          have hm9 : ns.length * 8 ≤ 900 * 8 := Nat.mul_le_mul_right _ hl9
          have hsl : (Str.ofString "/").length = 1 := by decide +kernel
          have hjl : (Str.join (Str.ofString "/") ns).length ≤ 9000 := by
            have q1 := StrLaws.join_length_le (Str.ofString "/") ns
            have q2 := StrLaws.sumLen_le ns hB9
            rw [hsl] at q1
            omega
          have hxl : (pathS ns).length ≤ 9001 := by unfold pathS; rw [Str.length_append]; omega
          have hTs : (T, o) ∈ sub := hL1 _ (hce2 _ (hm1 _ (.tail _ (.tail _ hT))))
          (refine hide fun P9 b9 => ?_); obtain ⟨kvs9, hkd9, hkv9⟩ := id ho; refine b9 ?_; clear b9 P9
          (repeat' (first | walk1 | (dsimp only; walk1)))
          try unfold Stop
          refine' ListComp_G (by assumption) ?dclos ?dcell ?dkind ?dnames ?dx ?ds ?_
          case dclos => with_unfolding_all rfl
          case dcell => decide
          case dkind => rfl
          case dnames => decide
          case dx => rfl
          case ds => intro _; with_unfolding_all rfl
          (repeat' (first | walk1 | (dsimp only; walk1)))
          (refine' srcG_str rfl ?eF ?eN ?ez ?_; (case eF => assumption); (case eN => assumption); (case ez => (show (pathS ns).length ≤ 1000000; omega)))
          intro g10
          refine rest_keep (fun i ys => StrsAre ys (((pathS ns).cps.toList.take i).map fun c => (tabG (tabL k) ⟨#[c]⟩).getD ⟨#[c]⟩)) (pathS ns).length ?j02 ?turn2 ?fin2
          case j02 => exact .nil
          case turn2 =>
            intro i zs v I3 oI3 C3 oC3 D3 m₄ h4 tk4 E4 hi hzs hv4 hC4 hx4 F9 N9 off9 ne9
            obtain ⟨ch, tc, hch, rfl⟩ := hv4
            (repeat' (first | walk1 | (dsimp only; walk1)))
            (show LCg.CompEnd _ _ _ _ _ _ _ _ _ _ _ _ _ _)
            refine compEnd_same (by assumption) (by assumption) (fun p hp => hp) off9 (by trivial) ⟨?_, rfl⟩
            have hch2 : (pathS ns).cps.toList[i]? = some ch := by
              have hch3 : (pathS ns).cps[i]? = some ch := hch
              simpa using hch3
            rw [List.take_add_one, hch2, List.map_append]
            exact StrsAre.append' hzs (.cons _ _ .nil)
          case fin2 =>
            intro zs hzs
            unfold LCg.FinE
            intro D4 h5 tk5 F9 N9 o9
            simp only [LCg.Off1] at o9
            (repeat' (first | walk1 | (dsimp only; walk1)))
            have e9 : (pathS ns).cps.toList.take (pathS ns).length = (pathS ns).cps.toList := List.take_of_length_le (by simp [Str.length])
            rw [e9] at hzs
            have e8 : (pathS ns).cps.toList.length = (pathS ns).length := by simp [Str.length]
            refine join_strs (B := 6) (vs := zs) (n := zs.length) N9 (.head _) hzs (fun y hy => ?_) (by decide +kernel) (by rw [List.length_map]; omega) ?_
            · obtain ⟨ch, _, rfl⟩ := List.mem_map.mp hy
              exact tabS_len k ch
            intro t9 k9
            (show LCg.CompEnd _ _ _ _ _ _ _ _ _ _ _ _ _ _)
            refine compEnd_same F9 N9 (fun p hp => .tail _ hp) off8 (by k_mem) ⟨?_, rfl⟩
            rw [List.take_add_one, hget, List.map_append]
            exact StrsAre.append' hys (.cons _ _ .nil)
        case fin1 =>
          intro ys hys
          unfold LCg.FinE
          intro D5 h5 tk5 F9 N9 o9
          (repeat' (first | walk1 | (dsimp only; walk1)))
          have e9 : due1.take dv1.length = due1 := List.take_of_length_le (by omega)
          rw [e9] at hys
          have e8 : ds.take dv.length = ds := List.take_of_length_le (by rw [hdv.length]; exact Nat.le_refl _)
          rw [e8] at hrun
          (((try dsimp only); (refine' Ends.intro ?_ ?F ?N ?_); (case F => assumption); (case N => assumption); rotate_left))
          · refine ⟨D5, ys, ys.length, due1, rfl, hys, ?_, rfl⟩
            rw [hrun]
            exact hdr
          · intro p hp
            rcases List.mem_cons.mp hp with rfl | hp
            · exact .head _
            · exact .tail _ (.tail _ (.tail _ (.tail _ (.tail _ (hL1 _ (hce2 _ (hm1 _ (.tail _ (.tail _ hp)))))))))
      · rename News _ _ _ (_ :: _ :: _) => N7
        refine' use_least0 (sub := sub) ?B0 ?F ?X N7 ?T0 ?hk ?hd ?hu (hL1 _ (hce2 _ (hm1 _ (.tail _ (.head _))))) hb1 qDB (fun p hp => (hne p hp).1) (by omega) (by omega) ?_
        (((case B0 => k_asm); (case F => k_asm); (case X => k_asm); (case T0 => k_asm); (case hk => exact rfl); (case hd => omega); (case hu => omega)))
        intro v1 vs2 c2 h5 tk5 hb2 hv1 F5 N5
        clear N7
        (repeat' (first | walk1 | (dsimp only; walk1)))
        try unfold Stop
        refine append_val (D := DD) (vs := dv1) (n := cd1) (v := v1) (by assumption) N5 (Upd.head (List.forall_mem_cons.mpr ⟨qDB.symm, List.forall_mem_cons.mpr ⟨(hne _ (hL1 _ (hce2 _ (hm1 _ (.tail _ (.head _)))))).2, fun p hp => (hne p hp).2⟩⟩)) (by omega) ?_
        intro h6 F6 N6
        have hlm := leastN_mem (k := k) (nss := nss1) (by omega)
        have hle := List.length_erase_of_mem hlm
        (repeat' (first | walk1 | (dsimp only; walk1)))
        (((try dsimp only); first | ((with_reducible refine' wstep_next ?F ?N ?_); (case F => assumption); (case N => assumption)) | ((with_reducible refine' wstep_cont ?F ?N ?_); (case F => assumption); (case N => assumption))))
        refine ⟨_, (DD, listOf (dv1 ++ [v1]).toArray (cd1 + 1)) :: (B, listOf (List.toArray vs2) c2) :: (L9 + 1, oC) :: sub, ⟨vs2, c2, dv1 ++ [v1], cd1 + 1, nss1.erase (leastN k nss1), due1 ++ [leastN k nss1], hb2, ?_, .step hdr (by omega), rfl, ?_, fun n hn => hns1 n (List.mem_of_mem_erase hn), ?_, rfl, rfl⟩, by omega, fun p hp => hp⟩
        · rw [List.map_append]; exact hdu1.append (.cons hv1 .nil)
        · exact List.forall_mem_append.mpr ⟨hnm1, fun n hn => by rw [List.mem_singleton.mp hn]; exact hns1 _ hlm⟩
        · rw [List.length_append, List.length_singleton]; omega
end SC21
example : True := by
  w_top off
  first
    | walk1
    | trivial
section SC22
local macro_rules | `(tactic| k_qdec) => `(tactic| ((first | rw [PySem.W.Fast.te17448422675489707002] | rw [PySem.W.Fast.te2458874890965802552]); kernel_rfl))
local macro_rules | `(tactic| walk_at "compareOp Eq ref ref") => `(tactic| k_dflt (refine stop_of ?_))
local macro_rules | `(tactic| walk_at "execs nil") => `(tactic| (refine wpAny_execs_nil ?_))
local macro_rules | `(tactic| walk_at "execs cons") => `(tactic| (refine wpAny_execs_cons ?_))
theorem eq_strs {A : Around} {E Q : Value → Shared → Prop} {s : Shared} {h₀ : Heap} {L a b : Addr} {news : Led} {vs ws : List Value} {xs : List Str} {k1 k2 : Nat} (N : News h₀ L s.heap news) (h1 : (a, listOf vs.toArray k1) ∈ news) (h2 : (b, listOf ws.toArray k2) ∈ news)
    (hs : StrsAre vs xs) (hs2 : StrsAre ws xs) (hu : A.units < cLine) (h : Q (.bool true) s) : wpAny (model pg w) A (compareOp .Eq (.ref a) (.ref b)) Q E s := by
  have l1 := hs.length
  have l2 := hs2.length
  refine SeqAt.eq_listAt (items := vs.toArray) (items2 := ws.toArray) (e := fun _ => true) ⟨_, (N _ h1).1, rfl, _, rfl⟩ ⟨_, (N _ h2).1, rfl, _, rfl⟩ (by simp; omega) hu (fun j q1 q2 => ?_) (by
    have e : (List.range vs.toArray.size).all (fun _ => true) = true := List.all_eq_true.mpr fun _ _ => rfl
    rw [e]; exact h)
  have q1' : j < vs.length := by simpa using q1
  have q2' : j < ws.length := by simpa using q2
  obtain ⟨c1, t1, e1, f1⟩ := strsAre_get hs (List.getElem?_eq_getElem q1')
  obtain ⟨c2, t2, e2, f2⟩ := strsAre_get hs2 (List.getElem?_eq_getElem q2')
  rw [e1] at e2
  cases e2
  have g1 : vs.toArray[j] = .str c1 t1 := by simpa using f1
  have g2 : ws.toArray[j] = .str c1 t2 := by simpa using f2
  rw [g1, g2]
  have := SeqAt.EqAt.str_str (A := A.in1) (s := s) c1 t1 c1 t2
  simpa using this
noncomputable def h0S (k : Int) : List Str := siftup [joinS (Str.ofString "/") [wrS k (Str.ofString "a<"), wrS k (Str.ofString "&")], joinS (Str.ofString "/") [wrS k (Str.ofString "a"), wrS k (Str.ofString "\"")]]
noncomputable def SideP (k x : Int) (xs : List Str) : Prop :=
  xs.length ≤ 1000 ∧ (∀ y ∈ xs, y.length ≤ 700) ∧
    NormIf xs.length (joinS (xs.getD 0 Str.empty) [Str.ofString "..", wrS k (poolS.getD ((x.fdiv 8).fmod 8).toNat Str.empty), Str.ofString ".", wrS k (poolS.getD ((x.fdiv 64).fmod 8).toNat Str.empty)]) ∧
    (popL xs).length ≤ 1000 ∧ ((popL xs).length ≠ 0 → Txt.startswith (xs.getD 0 Str.empty) (Str.ofString "/") = true ∧ Txt.startswith ((popL xs).getD 0 Str.empty) (Str.ofString "/") = true ∧ (xs.getD 0 Str.empty).length ≤ 1000 ∧ ((popL xs).getD 0 Str.empty).length ≤ 1000)
/-- what is left of the claim when the program is walked -/
noncomputable def PlainLaw : Prop := ∀ (k : Int) (ds : List Int), 0 ≤ k → k < 5 → ds.length ≤ 12 → (∀ x ∈ ds, 0 ≤ x ∧ x < 512) →
  (∃ InvT : Nat → List Str → Prop, InvT 0 (h0S k) ∧ (∀ i x xs, ds[i]? = some x → InvT i xs → SideP k x xs ∧ ∀ r xs', DeedR cpS k x xs r xs' → InvT (i + 1) xs') ∧ ∀ i xs, InvT i xs → xs.length ≤ 1000) ∧
  (∃ InvP : Nat → List (List Str) → Prop, InvP 0 st0 ∧ (∀ i x nss, ds[i]? = some x → InvP i nss → InvP (i + 1) (PlainD k x nss).2) ∧ ∀ i nss, InvP i nss → PlainOK k nss) ∧
  ∀ xs txs txsF due, RunR cpS k ds (h0S k) [] xs txs → DrR xs txs [] txsF → DrP k (runP k ds (st0, [])).1 (runP k ds (st0, [])).2 [] due → txsF = due.map (outP k) ∧ txsF.length ≤ 1000
theorem sideP_ok {k x : Int} {xs : List Str} (h : SideP k x xs) : SideOK w mean mg mb cpS k x xs :=
  ⟨h.1, h.2.1, h.2.2.1, h.2.2.2.1, ⟨fun hn P tx ty c led => commonpath_c P _ _ tx ty c (h.2.2.2.2 hn).2.2.1 (h.2.2.2.2 hn).2.2.2 (h.2.2.2.2 hn).1 (h.2.2.2.2 hn).2.1 led⟩⟩
theorem law_holds (PL : PlainLaw) : PySem.Challenge.rw_ik0218_01.Holds := hd0 (And.intro left (by
  k_go0
  (all_goals try k_fold)
  (repeat' (first | ((with_reducible show wpAny _ _ (call (Value.ref _) _) _ _ _); first | (((with_reducible show wpAny _ _ (call (Value.ref _) _) _ _ _); (refine stop_of ?_)))) | walk1 | (dsimp only; walk1)))
  unfold Stop
  rename Fr _ _ _ _ => F1
  rename IntsAre _ _ => I1
  rename Heap.IsList _ _ _ => S1
  rename_i N1
  refine' Assign_ListComp_G F1 rfl ?hsw ?hclos ?hcell ?hkind ?hnames ?hx ?hy ?hp ?hs ?_
  case hsw => with_unfolding_all rfl
  case hclos => with_unfolding_all rfl
  case hcell => decide
  case hkind => rfl
  case hnames => decide
  case hx => rfl
  case hy => rfl
  case hp => rfl
  case hs => intro _; with_unfolding_all rfl
  (repeat' (first | ((with_reducible show wpAny _ _ (call (Value.ref _) _) _ _ _); first | (((with_reducible show wpAny _ _ (call (Value.ref _) _) _ _ _); (refine stop_of ?_)))) | walk1 | (dsimp only; walk1)))
  rename Fr _ _ _ _ => F2
  rename News _ _ _ _ => N2
  rename IntsAre _ _ => I2
  rename List Value => wsI
  rename List Int => ns
  have hl12 : wsI.length ≤ 12 := by rw [I2.length]; exact List.length_take_le _ _
  (refine' srcG_list (k := 0) rfl F2 N2 ?dm ?dz ?_; (case dm => k_mem); (case dz => omega))
  intro g9
  refine rest_keep (fun j ys => IntsAre ys (((List.take 12 ns).take j).map fun x => Int.fmod x 512)) wsI.length ?j01 ?turn1 ?fin1
  case j01 => exact .nil
  case turn1 =>
    intro j ys v I3 oI3 C3 oC3 D3 m₃ h3 tk3 E3 hj hys hv hC3 hx3 F8 N8 off8 ne8
    have hv : wsI[j]? = some v := hv
    (revert hx3; apply hide1 v; intro P9 b9); obtain ⟨x, tx, hx, rfl⟩ := intsAre_get I2 hv; refine b9 _ ?_; clear b9 P9; intro hx3
    (repeat' (first | ((with_reducible show wpAny _ _ (call (Value.ref _) _) _ _ _); first | (((with_reducible show wpAny _ _ (call (Value.ref _) _) _ _ _); (refine stop_of ?_)))) | walk1 | (dsimp only; walk1)))
    (show LCg.CompEnd _ _ _ _ _ _ _ _ _ _ _ _ _ _)
    refine compEnd_same (by assumption) (by assumption) (fun p hp => hp) off8 (by k_mem) ⟨?_, rfl⟩
    rw [List.take_add_one, hx, List.map_append]
    exact hys.append (.cons _ _ .nil)
  case fin1 =>
    intro ys hys
    unfold LCg.FinA
    intro D5 h5 tk5 F9 N9 o9
    simp only [LCg.Off1] at o9
    (repeat' (first | ((with_reducible show wpAny _ _ (call (Value.ref _) _) _ _ _); first | (((with_reducible show wpAny _ _ (call (Value.ref _) _) _ _ _); (refine stop_of ?_)))) | walk1 | (dsimp only; walk1)))
    unfold Stop
    have e8 : (List.take 12 ns).take wsI.length = List.take 12 ns := List.take_of_length_le (by rw [I2.length]; exact Nat.le_refl _)
    rw [e8] at hys ⊢
    generalize hds : List.map (fun x => Int.fmod x 512) (List.take 12 ns) = ds at *
    have hdl : ds.length ≤ 12 := by rw [← hds, List.length_map]; exact List.length_take_le _ _
    have hdr : ∀ x ∈ ds, 0 ≤ x ∧ x < 512 := by
      intro x hx
      rw [← hds] at hx
      obtain ⟨y, _, rfl⟩ := List.mem_map.mp hx
      exact ⟨Int.fmod_nonneg_of_pos _ (by decide), Int.fmod_lt_of_pos _ (by decide)⟩
    generalize hk : ds.sum.fmod 5 = k at *
    refine hide fun P9 b9 => ?_
    obtain ⟨⟨InvT, t0, t1, t2⟩, ⟨InvP, p0, p1, p2⟩, fin⟩ := PL k ds (by rw [← hk]; exact Int.fmod_nonneg_of_pos _ (by decide)) (by rw [← hk]; exact Int.fmod_lt_of_pos _ (by decide)) hdl hdr
    refine b9 ?_
    clear b9 P9
    have hyl : ys.length ≤ 1000 := by rw [hys.length]; omega
    refine' ConT.use (told_c cpS D5 k _ ys ds ys.length _ hys hyl InvT t0 (fun i x xs hx hi => ⟨sideP_ok (t1 i x xs hx hi).1, (t1 i x xs hx hi).2⟩) t2) ?B ?F ?X ?N ?T ?hk ?hd ?hu ?hT ?_
    case F => assumption
    case N => assumption
    case T => assumption
    case X => assumption
    case B => exact below_caller _
    case hk => exact rfl
    case hd => decide +kernel
    case hu => decide +kernel
    case hT => first | omega | (dsimp only; omega)
    rintro r led' h7 tk7 hT7 ⟨TD, HP, ts, kt, vsH, kH, xsE, txs, txsF, rfl, hts, hrun, hdrn, rfl, hlt⟩ F7 N7
    (repeat' (first | ((with_reducible show wpAny _ _ (call (Value.ref _) _) _ _ _); first | (((with_reducible show wpAny _ _ (call (Value.ref _) _) _ _ _); (refine stop_of ?_)))) | walk1 | (dsimp only; walk1)))
    unfold Stop
    have hkk : (List.map (fun x => Int.fmod x 512) ((List.take 12 ns).take wsI.length)).sum.fmod 5 = k := by rw [e8, hds]; exact hk
    rw [hkk]
    rename News _ _ _ (_ :: _ :: _ :: _) => N8
    refine' Con.use (table_c k _ _) ?B2 ?F2 ?X2 N8 ?T2 ?hk2 ?hd2 ?hu2 ?_
    case F2 => assumption
    case T2 => assumption
    case X2 => assumption
    case B2 => exact below_caller _
    case hk2 => exact rfl
    case hd2 => decide +kernel
    case hu2 => decide +kernel
    rintro r led' h8 tk8 ⟨TT, oT, rfl, hoT, hlT, rfl, hltT⟩ F8 N9
    clear N8
    (repeat' (first | ((with_reducible show wpAny _ _ (call (Value.ref _) _) _ _ _); first | (((with_reducible show wpAny _ _ (call (Value.ref _) _) _ _ _); (refine stop_of ?_)))) | walk1 | (dsimp only; walk1)))
    unfold Stop
    refine' Con.use (due_c D5 TT k oT ys ds ys.length _ hys hyl (.head _) hoT hlT (.tail _ (.tail _ (.tail _ (.head _)))) InvP p0 p1 p2) ?B3 ?F3 ?X3 N9 ?T3 ?hk3 ?hd3 ?hu3 ?_
    case F3 => assumption
    case T3 => assumption
    case X3 => assumption
    case B3 => exact below_caller _
    case hk3 => exact rfl
    case hd3 => decide +kernel
    case hu3 => decide +kernel
    rintro r led' h9 tk9 ⟨DU, duv, cu, due, rfl, hdu, hdrp, rfl⟩ F9 N10
    have eq1 := (fin _ _ _ _ hrun hdrn hdrp).1
    have eq2 := (fin _ _ _ _ hrun hdrn hdrp).2
    clear N9
    rw [← eq1] at hdu
    refine eq_strs N10 (.tail _ (.tail _ (.head _))) (.head _) hts hdu (by first | ke_room | omega) ?_
    refine goodW_bool F9 (by assumption) (fun _ => rfl) ?_
    first | law_fin | (with_unfolding_all rfl) | (simp [PySem.Challenge.rw_ik0218_01]; done)
    done))
end SC22
example : True := by
  w_top off
  first
    | walk1
    | trivial
end GD
example : True := by
  w_top off
  first
    | walk1
    | trivial
end Mine
end WW
section SP2
open PySem PySem.W PyProof.Rows PySem.Calls
namespace Mine
/-- a is not behind b -/
noncomputable def leS (a b : Str) : Prop := ltS b a = false
theorem leS_def {a b : Str} : leS a b ↔ ¬ b.cps.toList < a.cps.toList := by unfold leS ltS; simp
theorem leS_refl (a : Str) : leS a a := by rw [leS_def]; exact List.lt_irrefl _
theorem leS_trans {a b c : Str} (h1 : leS a b) (h2 : leS b c) : leS a c := by
  rw [leS_def] at *
  exact List.le_trans (α := Nat) h1 h2
theorem leS_of_lt {a b : Str} (h : ltS a b = true) : leS a b := by
  rw [leS_def]
  have h' : a.cps.toList < b.cps.toList := by simpa [ltS] using h
  exact List.lt_asymm h'
theorem leS_anti {a b : Str} (h1 : leS a b) (h2 : leS b a) : a = b := by
  rw [leS_def] at *
  have e : a.cps.toList = b.cps.toList := List.le_antisymm (α := Nat) h1 h2
  have e2 : a.cps = b.cps := by rw [← Array.toArray_toList (xs := a.cps), e, Array.toArray_toList]
  cases a; cases b; simp_all
theorem set_swap {xs : List Str} {p q : Nat} {v : Str} (hp : p < xs.length) (hq : q < xs.length) (hne : q ≠ p) : ((xs.set p (xs.getD q Str.empty)).set q v).Perm (xs.set p v) := by
  have e : xs.getD q Str.empty = xs[q] := by rw [List.getD_eq_getElem?_getD, List.getElem?_eq_getElem hq]; rfl
  rw [e]
  rw [List.perm_iff_count]
  intro a
  rw [List.count_set (by simpa using hq), List.count_set hp, List.count_set hp, List.getElem_set_ne (by omega)]
  have h1 : (if xs[p] == a then 1 else 0) ≤ xs.count a := by
    split
    · rename_i h; rw [beq_iff_eq] at h; exact List.count_pos_iff.mpr (h ▸ List.getElem_mem _)
    · omega
  omega
theorem hf_lt {p : Nat} (h : 0 < p) : (p - 1) / 2 < p := by omega
theorem sd_perm (xs : List Str) (nw : Str) (p : Nat) (hp : p < xs.length) : (sd xs nw p).Perm (xs.set p nw) := by
  refine sd_ind (nw := nw) (M := fun xs p r => p < xs.length → r.Perm (xs.set p nw)) (fun _ _ => .refl _) (fun xs p r h0 _ ih hp => ?_) (fun _ _ _ _ _ => .refl _) xs p hp
  exact (ih (by rw [List.length_set]; exact Nat.lt_trans (hf_lt h0) hp)).trans (set_swap hp (Nat.lt_trans (hf_lt h0) hp) (Nat.ne_of_lt (hf_lt h0)))
theorem getD_set (xs : List Str) (p i : Nat) (v : Str) (hp : p < xs.length) : (xs.set p v).getD i Str.empty = if i = p then v else xs.getD i Str.empty := by
  rw [List.getD_eq_getElem?_getD, List.getElem?_set]
  split
  · subst_vars; simp [hp]
  · rw [if_neg (fun h => by simp_all), List.getD_eq_getElem?_getD]
noncomputable def IsHp (xs : List Str) : Prop := ∀ i, 0 < i → i < xs.length → leS (xs.getD ((i - 1) / 2) Str.empty) (xs.getD i Str.empty)
theorem sd_heap (xs : List Str) (nw : Str) (p : Nat) (hp : p < xs.length)
    (a : ∀ i, 0 < i → i < xs.length → i ≠ p → (i - 1) / 2 ≠ p → leS (xs.getD ((i - 1) / 2) Str.empty) (xs.getD i Str.empty))
    (b : ∀ i, 0 < i → i < xs.length → (i - 1) / 2 = p → leS nw (xs.getD i Str.empty) ∧ (0 < p → leS (xs.getD ((p - 1) / 2) Str.empty) (xs.getD i Str.empty))) : IsHp (sd xs nw p) := by
  revert xs p
  intro xs p
  refine sd_ind (nw := nw) (M := fun xs p r => p < xs.length → (∀ i, 0 < i → i < xs.length → i ≠ p → (i - 1) / 2 ≠ p → leS (xs.getD ((i - 1) / 2) Str.empty) (xs.getD i Str.empty)) →
    (∀ i, 0 < i → i < xs.length → (i - 1) / 2 = p → leS nw (xs.getD i Str.empty) ∧ (0 < p → leS (xs.getD ((p - 1) / 2) Str.empty) (xs.getD i Str.empty))) → IsHp r) (fun xs hp a b => ?_) (fun xs p r h0 hlt ih hp a b => ?_) (fun xs p h0 hlt hp a b => ?_) xs p
  · intro i h0 hi
    rw [List.length_set] at hi
    rw [getD_set _ _ _ _ hp, getD_set _ _ _ _ hp, if_neg (c := i = 0) (Nat.ne_of_gt h0)]
    split
    · rename_i h; exact (b i h0 hi h).1
    · rename_i h; exact a i h0 hi (Nat.ne_of_gt h0) h
  · have hf := hf_lt h0
    refine ih (by rw [List.length_set]; exact Nat.lt_trans hf hp) ?_ ?_
    · intro i i0 hi h1 h2
      rw [List.length_set] at hi
      have hip : ¬ i = p := fun e => h2 (by rw [e])
      rw [getD_set _ _ _ _ hp, getD_set _ _ _ _ hp, if_neg (c := i = p) hip]
      split
      · rename_i h; exact (b i i0 hi h).2 h0
      · rename_i h; exact a i i0 hi hip h
    · intro i i0 hi h1
      rw [List.length_set] at hi
      have hq : leS nw (xs.getD ((p - 1) / 2) Str.empty) := leS_of_lt hlt
      have hqq : 0 < (p - 1) / 2 → leS (xs.getD (((p - 1) / 2 - 1) / 2) Str.empty) (xs.getD ((p - 1) / 2) Str.empty) := fun h => a _ h (Nat.lt_trans hf hp) (Nat.ne_of_lt hf) (Nat.ne_of_lt (Nat.lt_trans (hf_lt h) hf))
      rw [getD_set _ _ _ _ hp, getD_set _ _ _ _ hp, if_neg (c := ((p - 1) / 2 - 1) / 2 = p) (Nat.ne_of_lt (Nat.lt_of_le_of_lt (Nat.le_trans (Nat.div_le_self _ _) (Nat.sub_le _ _)) hf))]
      split
      · exact ⟨hq, hqq⟩
      · rename_i hip
        have := a i i0 hi hip (fun e => absurd (e.symm.trans h1) (Nat.ne_of_gt hf))
        rw [h1] at this
        exact ⟨leS_trans hq this, fun h => leS_trans (hqq h) this⟩
  · intro i i0 hi
    rw [List.length_set] at hi
    rw [getD_set _ _ _ _ hp, getD_set _ _ _ _ hp]
    have hq : leS (xs.getD ((p - 1) / 2) Str.empty) nw := hlt
    by_cases e : i = p
    · subst e; rw [if_neg (Nat.ne_of_lt (hf_lt i0)), if_pos rfl]; exact hq
    · rw [if_neg e]
      split
      · rename_i h; exact (b i i0 hi h).1
      · rename_i h; exact a i i0 hi e h
/-- a new one pushed -/
theorem push_perm (xs : List Str) (nw : Str) : (sd (xs ++ [nw]) nw xs.length).Perm (xs ++ [nw]) := by
  refine (sd_perm _ _ _ (by simp)).trans ?_
  rw [List.set_append_right (h := Nat.le_refl _)]
  simp
theorem getD_app (xs : List Str) (nw : Str) {i : Nat} (h : i < xs.length) : (xs ++ [nw]).getD i Str.empty = xs.getD i Str.empty := by
  rw [List.getD_eq_getElem?_getD, List.getElem?_append_left h, List.getD_eq_getElem?_getD]
theorem push_heap (xs : List Str) (nw : Str) (h : IsHp xs) : IsHp (sd (xs ++ [nw]) nw xs.length) := by
  refine sd_heap _ _ _ (by simp) (fun i i0 hi h1 h2 => ?_) (fun i i0 hi h1 => ?_)
  · rw [List.length_append, List.length_singleton] at hi
    rw [getD_app _ _ (by omega), getD_app _ _ (by omega)]
    exact h i i0 (by omega)
  · rw [List.length_append, List.length_singleton] at hi
    omega
/-- the head of a heap is its least -/
theorem hp_least {xs : List Str} (h : IsHp xs) : ∀ i, i < xs.length → leS (xs.getD 0 Str.empty) (xs.getD i Str.empty) := by
  intro i
  induction i using Nat.strongRecOn with
  | ind i ih =>
    intro hi
    rcases Nat.eq_zero_or_pos i with rfl | h0
    · exact leS_refl _
    · exact leS_trans (ih ((i - 1) / 2) (by omega) (by omega)) (h i h0 hi)
theorem suC_child (xs : List Str) (p : Nat) : (suC xs p - 1) / 2 = p ∧ 0 < suC xs p := by unfold suC; split <;> omega
theorem suC_min {xs : List Str} {p : Nat} (h : 2 * p + 1 < xs.length) : ∀ i, 0 < i → i < xs.length → (i - 1) / 2 = p → leS (xs.getD (suC xs p) Str.empty) (xs.getD i Str.empty) := by
  intro i i0 hi hp
  unfold suC
  split
  · rename_i hc
    by_cases e : i = 2 * p + 1 + 1
    · subst e; exact leS_refl _
    · have : i = 2 * p + 1 := by omega
      subst this
      exact hc.2
  · rename_i hc
    by_cases e : i = 2 * p + 1
    · subst e; exact leS_refl _
    · have : i = 2 * p + 1 + 1 := by omega
      subst this
      refine leS_of_lt ?_
      cases hx : ltS (xs.getD (2 * p + 1) Str.empty) (xs.getD (2 * p + 1 + 1) Str.empty) with
      | true => rfl
      | false => exact absurd ⟨hi, hx⟩ hc
theorem suL_perm (xs : List Str) (p : Nat) (v : Str) (hp : p < xs.length) : ((suL xs p).1.set (suL xs p).2 v).Perm (xs.set p v) ∧ (suL xs p).2 < xs.length := by
  refine suL_ind (M := fun xs p r => p < xs.length → (r.1.set r.2 v).Perm (xs.set p v) ∧ r.2 < xs.length) (fun xs p r h ih hp => ?_) (fun xs p _ hp => ⟨.refl _, hp⟩) xs p hp
  have hc := suC_lt h
  have := ih (by rw [List.length_set]; exact hc)
  rw [List.length_set] at this
  exact ⟨this.1.trans (set_swap hp hc (Nat.ne_of_gt suC_gt)), this.2⟩
theorem suL_heap (xs : List Str) (p : Nat) (hp : p < xs.length)
    (a : ∀ i, 0 < i → i < xs.length → i ≠ p → (i - 1) / 2 ≠ p → leS (xs.getD ((i - 1) / 2) Str.empty) (xs.getD i Str.empty))
    (b : ∀ i, 0 < i → i < xs.length → (i - 1) / 2 = p → 0 < p → leS (xs.getD ((p - 1) / 2) Str.empty) (xs.getD i Str.empty)) :
    (∀ i, 0 < i → i < xs.length → i ≠ (suL xs p).2 → (i - 1) / 2 ≠ (suL xs p).2 → leS ((suL xs p).1.getD ((i - 1) / 2) Str.empty) ((suL xs p).1.getD i Str.empty)) ∧ xs.length ≤ 2 * (suL xs p).2 + 1 := by
  refine suL_ind (M := fun xs p r => p < xs.length → (∀ i, 0 < i → i < xs.length → i ≠ p → (i - 1) / 2 ≠ p → leS (xs.getD ((i - 1) / 2) Str.empty) (xs.getD i Str.empty)) →
    (∀ i, 0 < i → i < xs.length → (i - 1) / 2 = p → 0 < p → leS (xs.getD ((p - 1) / 2) Str.empty) (xs.getD i Str.empty)) →
    (∀ i, 0 < i → i < xs.length → i ≠ r.2 → (i - 1) / 2 ≠ r.2 → leS (r.1.getD ((i - 1) / 2) Str.empty) (r.1.getD i Str.empty)) ∧ xs.length ≤ 2 * r.2 + 1) (fun xs p r h ih hp a b => ?_) (fun xs p h _ a _ => ⟨a, Nat.le_of_not_lt h⟩) xs p hp a b
  have hc := suC_lt h
  have hcc := suC_child xs p
  have hg := suC_gt (xs := xs) (p := p)
  have := ih (by rw [List.length_set]; exact hc) ?_ ?_
  · rw [List.length_set] at this
    exact this
  · intro i i0 hi h1 h2
    rw [List.length_set] at hi
    rw [getD_set _ _ _ _ hp, getD_set _ _ _ _ hp]
    by_cases e : i = p
    · rw [if_pos e, if_neg (by rw [e]; exact Nat.ne_of_lt (hf_lt (e ▸ i0))), e]
      exact b _ hcc.2 hc hcc.1 (e ▸ i0)
    · rw [if_neg e]
      split
      · rename_i q; exact suC_min h i i0 hi q
      · rename_i q; exact a i i0 hi e q
  · intro i i0 hi h1 h2
    rw [List.length_set] at hi
    have hf := hf_lt i0
    rw [h1] at hf
    rw [getD_set _ _ _ _ hp, getD_set _ _ _ _ hp, if_pos hcc.1, if_neg (Nat.ne_of_gt (Nat.lt_trans hg hf))]
    have := a i i0 hi (Nat.ne_of_gt (Nat.lt_trans hg hf)) (fun e => absurd (h1.symm.trans e) (Nat.ne_of_gt hg))
    rw [h1] at this
    exact this
/-- siftup: the root put in its place -/
theorem siftup_perm (xs : List Str) (h : 0 < xs.length) : (siftup xs).Perm xs := by
  unfold siftup
  have h1 := suL_perm xs 0 (xs.getD 0 Str.empty) h
  refine (sd_perm _ _ _ (by rw [List.length_set, suL_len]; exact h1.2)).trans ?_
  rw [List.set_set]
  refine h1.1.trans ?_
  have e : xs.set 0 (xs.getD 0 Str.empty) = xs := by
    cases xs with
    | nil => rfl
    | cons y r => rfl
  rw [e]
theorem siftup_heap (xs : List Str) (h : 0 < xs.length) (hh : ∀ i, 0 < i → i < xs.length → (i - 1) / 2 ≠ 0 → leS (xs.getD ((i - 1) / 2) Str.empty) (xs.getD i Str.empty)) : IsHp (siftup xs) := by
  unfold siftup
  have h1 := suL_perm xs 0 (xs.getD 0 Str.empty) h
  have h2 := suL_heap xs 0 h (fun i i0 hi _ q => hh i i0 hi q) (fun _ _ _ _ q => absurd q (by omega))
  have hl := suL_len xs 0
  refine sd_heap _ _ _ (by rw [List.length_set, hl]; exact h1.2) (fun i i0 hi q1 q2 => ?_) (fun i i0 hi q1 => ?_)
  · rw [List.length_set, hl] at hi
    rw [getD_set _ _ _ _ (by rw [hl]; exact h1.2), getD_set _ _ _ _ (by rw [hl]; exact h1.2), if_neg q1, if_neg q2]
    exact h2.1 i i0 hi q1 q2
  · rw [List.length_set, hl] at hi
    omega
/-- the root exchanged for another -/
theorem replace_hp {xs : List Str} (h : IsHp xs) (v : Str) (h0 : 0 < xs.length) : (siftup (xs.set 0 v)).Perm (v :: xs.tail) ∧ IsHp (siftup (xs.set 0 v)) := by
  have hl : 0 < (xs.set 0 v).length := by rw [List.length_set]; exact h0
  refine ⟨(siftup_perm _ hl).trans ?_, siftup_heap _ hl fun i i0 hi q => ?_⟩
  · cases xs with
    | nil => simp at h0
    | cons y r => exact .refl _
  · rw [List.length_set] at hi
    rw [getD_set _ _ _ _ h0, getD_set _ _ _ _ h0, if_neg q, if_neg (by omega)]
    exact h i i0 hi
theorem pop_hp {xs : List Str} (h : IsHp xs) (h0 : 0 < xs.length) : (popL xs).Perm xs.tail ∧ IsHp (popL xs) := by
  rcases List.eq_nil_or_concat xs with rfl | ⟨ys, z, rfl⟩
  · simp at h0
  · rw [List.concat_eq_append] at h h0 ⊢
    have hy : IsHp ys := fun i i0 hi => by
      have := h i i0 (by rw [List.length_append]; omega)
      rw [getD_app _ _ hi, getD_app _ _ (by omega)] at this
      exact this
    unfold popL
    rw [List.dropLast_concat]
    split
    · rename_i hlt
      have e : (ys ++ [z]).getLastD Str.empty = z := by simp
      rw [e]
      have := replace_hp hy z hlt
      refine ⟨this.1.trans ?_, this.2⟩
      cases ys with
      | nil => simp at hlt
      | cons y r =>
        show (z :: r).Perm (r ++ [z])
        exact (List.perm_append_singleton z r).symm
    · rename_i hlt
      have : ys = [] := List.eq_nil_of_length_eq_zero (by omega)
      subst this
      exact ⟨.refl _, hy⟩
end Mine
end SP2
section SP3
open PySem PySem.W PyProof.Rows PySem.Calls
namespace Mine
/-- how a sign is written -/
noncomputable def gW (k : Int) (c : Nat) : Str := (tabG (tabL k) ⟨#[c]⟩).getD ⟨#[c]⟩
noncomputable def W1 (k : Int) (c : Nat) : List Nat := (gW k c).cps.toList
/-- the code points of a text, written -/
noncomputable def WL (k : Int) (l : List Nat) : List Nat := l.flatMap (W1 k)
/-- the signs that can be -/
noncomputable def SGS : List Nat := [9, 13, 34, 38, 46, 47, 60, 62, 97]
theorem five {k : Int} (h0 : 0 ≤ k) (h5 : k < 5) : k = 0 ∨ k = 1 ∨ k = 2 ∨ k = 3 ∨ k = 4 := by omega
theorem wr_name {k : Int} (h0 : 0 ≤ k) (h5 : k < 5) : ∀ n ∈ allS, (wrS k n).cps.toList = WL k n.cps.toList := by
  rcases five h0 h5 with rfl | rfl | rfl | rfl | rfl <;> decide +kernel
theorem name_signs : ∀ n ∈ allS, n.cps.toList ≠ [] ∧ ∀ c ∈ n.cps.toList, c ∈ SGS ∧ c ≠ 47 := by decide +kernel
theorem W_cmp {k : Int} (h0 : 0 ≤ k) (h5 : k < 5) : ∀ c ∈ SGS, ∀ d ∈ SGS, c ≠ d → (W1 k c).isPrefixOf (W1 k d) = false ∧ (decide (W1 k c < W1 k d) = pairLt (keyOf k c) (keyOf k d)) ∧ keyOf k c ≠ keyOf k d := by
  rcases five h0 h5 with rfl | rfl | rfl | rfl | rfl <;> decide +kernel
theorem W_slash {k : Int} (h0 : 0 ≤ k) (h5 : k < 5) : W1 k 47 = [47] ∧ ∀ c ∈ SGS, c ≠ 47 → 47 ∉ W1 k c ∧ W1 k c ≠ [] := by
  rcases five h0 h5 with rfl | rfl | rfl | rfl | rfl <;> decide +kernel
theorem lt_app : ∀ (u x y : List Nat), (decide (u ++ x < u ++ y)) = decide (x < y)
  | [], x, y => rfl
  | a :: u, x, y => by
    rw [← lt_app u x y]
    simp [List.cons_lt_cons_iff]
theorem lt_free : ∀ (u v x y : List Nat), u.isPrefixOf v = false → v.isPrefixOf u = false → decide (u ++ x < v ++ y) = decide (u < v)
  | [], v, x, y, h, _ => by simp [List.isPrefixOf] at h
  | a :: u, [], x, y, _, h => by simp [List.isPrefixOf] at h
  | a :: u, b :: v, x, y, h1, h2 => by
    by_cases e : a = b
    · subst e
      have := lt_free u v x y (by simpa [List.isPrefixOf] using h1) (by simpa [List.isPrefixOf] using h2)
      simpa [List.cons_lt_cons_iff] using this
    · simp [List.cons_lt_cons_iff, e]
theorem WL_lt {k : Int} (h0 : 0 ≤ k) (h5 : k < 5) : ∀ (a b : List Nat), (∀ c ∈ a, c ∈ SGS) → (∀ c ∈ b, c ∈ SGS) → decide (WL k a < WL k b) = rowLt (a.map (keyOf k)) (b.map (keyOf k))
  | [], [], _, _ => by simp [WL, rowLt, lexW]
  | [], d :: b, _, hb => by
    have hd := hb d (.head _)
    have : W1 k d ≠ [] := by
      by_cases e : d = 47
      · subst e; rw [(W_slash h0 h5).1]; simp
      · exact ((W_slash h0 h5).2 d hd e).2
    obtain ⟨z, zs, hz⟩ := List.exists_cons_of_ne_nil this
    simp [WL, rowLt, lexW, hz]
  | c :: a, [], _, _ => by simp [WL, rowLt, lexW]
  | c :: a, d :: b, ha, hb => by
    have hc := ha c (.head _)
    have hd := hb d (.head _)
    have ih := WL_lt h0 h5 a b (fun z hz => ha z (.tail _ hz)) (fun z hz => hb z (.tail _ hz))
    have e1 : WL k (c :: a) = W1 k c ++ WL k a := rfl
    have e2 : WL k (d :: b) = W1 k d ++ WL k b := rfl
    rw [e1, e2, List.map_cons, List.map_cons]
    unfold rowLt lexW
    by_cases e : c = d
    · subst e
      rw [if_pos (by simp [pairEq']), lt_app, ih]
      rfl
    · have h1 := W_cmp h0 h5 c hc d hd e
      have h2 := W_cmp h0 h5 d hd c hc (Ne.symm e)
      rw [if_neg (by simpa [pairEq'] using h1.2.2), lt_free _ _ _ _ h1.1 h2.1, h1.2.1]
end Mine
end SP3
section SP4
open PySem PySem.W PyProof.Rows PySem.Calls
namespace Mine
/-- the code points of a text -/
abbrev cl (x : Str) : List Nat := x.cps.toList
theorem cl_ext {a b : Str} (h : cl a = cl b) : a = b := by
  have h' : a.cps.toList = b.cps.toList := h
  have e : a.cps = b.cps := by rw [← Array.toArray_toList (xs := a.cps), h', Array.toArray_toList]
  exact Str.ext' e
theorem cl_app (a b : Str) : cl (a ++ b) = cl a ++ cl b := by
  show (a.cps ++ b.cps).toList = _
  rw [Array.toList_append]
theorem cl_len (a : Str) : (cl a).length = a.length := by simp [cl, Str.length]
theorem slash_cl : cl (Str.ofString "/") = [47] := by decide +kernel
theorem dot_cl : cl (Str.ofString ".") = [46] := by decide +kernel
theorem slash_mk : Str.ofString "/" = ⟨#[47]⟩ := by decide +kernel
theorem dot_mk : Str.ofString "." = ⟨#[46]⟩ := by decide +kernel
/-- lists joined by 47 -/
noncomputable def jl : List (List Nat) → List Nat
  | [] => []
  | [x] => x
  | x :: y :: r => x ++ 47 :: jl (y :: r)
theorem jl_cons (x : List Nat) {r : List (List Nat)} (h : r ≠ []) : jl (x :: r) = x ++ 47 :: jl r := by
  cases r with
  | nil => exact absurd rfl h
  | cons y r => rfl
theorem jl_snoc (z : List Nat) : ∀ {r : List (List Nat)}, r ≠ [] → jl (r ++ [z]) = jl r ++ 47 :: z
  | [], h => absurd rfl h
  | [x], _ => rfl
  | x :: y :: r, _ => by
    have := jl_snoc z (r := y :: r) (by simp)
    show x ++ 47 :: jl ((y :: r) ++ [z]) = (x ++ 47 :: jl (y :: r)) ++ 47 :: z
    rw [this]
    simp
theorem join_cl : ∀ ps : List Str, cl (Str.join (Str.ofString "/") ps) = jl (ps.map cl)
  | [] => rfl
  | [x] => rfl
  | x :: y :: r => by
    show cl (x ++ Str.ofString "/" ++ Str.join (Str.ofString "/") (y :: r)) = _
    rw [cl_app, cl_app, slash_cl, join_cl (y :: r)]
    simp [jl]
/-- two lists of free parts that give the same text are the same -/
theorem jl_inj : ∀ {a b : List (List Nat)}, a ≠ [] → b ≠ [] → (∀ x ∈ a, 47 ∉ x) → (∀ x ∈ b, 47 ∉ x) → jl a = jl b → a = b
  | [], _, h, _, _, _, _ => absurd rfl h
  | _, [], _, h, _, _, _ => absurd rfl h
  | [x], [y], _, _, _, _, e => by simpa [jl] using e
  | [x], y :: z :: r, _, _, ha, _, e => by
    exfalso
    refine ha x (.head _) ?_
    have e' : x = y ++ 47 :: jl (z :: r) := e
    rw [e']; simp
  | x :: z :: r, [y], _, _, _, hb, e => by
    exfalso
    refine hb y (.head _) ?_
    have e' : x ++ 47 :: jl (z :: r) = y := e
    rw [← e']; simp
  | x :: z :: r, y :: u :: s, _, _, ha, hb, e => by
    have e' : x ++ 47 :: jl (z :: r) = y ++ 47 :: jl (u :: s) := e
    have cut : ∀ (x y p q : List Nat), 47 ∉ x → 47 ∉ y → x ++ 47 :: p = y ++ 47 :: q → x = y ∧ p = q := by
      intro x
      induction x with
      | nil =>
        intro y p q _ hy h
        cases y with
        | nil => exact ⟨rfl, by simpa using h⟩
        | cons b y => simp at h; exact absurd (h.1 ▸ List.mem_cons_self) hy
      | cons a x ih =>
        intro y p q hx hy h
        cases y with
        | nil => simp at h; exact absurd (h.1 ▸ List.mem_cons_self) hx
        | cons b y =>
          simp only [List.cons_append, List.cons.injEq] at h
          have := ih y p q (fun hh => hx (.tail _ hh)) (fun hh => hy (.tail _ hh)) h.2
          exact ⟨by rw [h.1, this.1], this.2⟩
    have := cut x y _ _ (ha x (.head _)) (hb y (.head _)) e'
    have ih := jl_inj (a := z :: r) (b := u :: s) (by simp) (by simp) (fun q hq => ha q (.tail _ hq)) (fun q hq => hb q (.tail _ hq)) this.2
    rw [this.1, ih]
theorem map_cl_inj {a b : List Str} (h : a.map cl = b.map cl) : a = b := (List.map_inj_right fun _ _ => cl_ext).mp h
/-- a text without a slash -/
noncomputable def Fre (x : Str) : Prop := 47 ∉ cl x
theorem split_ne (x y : Str) : Txt.split x y ≠ [] := by
  unfold Txt.split
  split
  · simp
  split
  · simp
  · rw [StrLaws.partsBetween_eq]
    obtain ⟨p, r, e⟩ := StrLaws.partsFrom_ne x y.length 0 (Builtin.Str.occurrences x y 0 x.length (x.length + 1))
    rw [e]; simp
theorem split_join {ps : List Str} (h0 : ps ≠ []) (h : ∀ p ∈ ps, Fre p) : Txt.split (Str.join (Str.ofString "/") ps) (Str.ofString "/") = ps := by
  apply map_cl_inj
  apply jl_inj (by simpa using split_ne _ _) (by simpa using h0)
  · intro x hx
    obtain ⟨p, hp, rfl⟩ := List.mem_map.mp hx
    rw [slash_mk] at hp
    exact StrLaws.split_free _ 47 p hp
  · intro x hx
    obtain ⟨p, hp, rfl⟩ := List.mem_map.mp hx
    exact h p hp
  · rw [← join_cl, ← join_cl]
    have e := StrLaws.join_split (Str.join (Str.ofString "/") ps) (Str.ofString "/")
    rw [e]
end Mine
end SP4
section SP5
open PySem PySem.W PyProof.Rows PySem.Calls
namespace Mine
theorem slice_from1 (x : Str) (h : 1 ≤ x.length) : cl (Txt.slice x (some 1) none) = (cl x).drop 1 := by
  have e := StrLaws.sliceText_from (x := x) (i := 1) ⟨by omega, by have h2 := cl_len x; unfold cl at h2; omega⟩
  have e2 : Txt.slice x (some 1) none = StrLaws.sliceText x (some 1) none := rfl
  rw [e2, e]
  show ((cl x).drop 1).take _ = _
  apply List.take_of_length_le
  rw [List.length_drop]
  show (cl x).length - 1 ≤ (((cl x).length : Int) - 1).toNat
  omega
theorem slice_to (x : Str) (j : Nat) (h : j ≤ x.length) : cl (Txt.slice x none (some (j : Int))) = (cl x).take j := by
  have e := StrLaws.sliceText_to (x := x) (j := (j : Int)) ⟨by omega, by have h2 := cl_len x; unfold cl at h2; omega⟩
  have e2 : Txt.slice x none (some (j : Int)) = StrLaws.sliceText x none (some (j : Int)) := rfl
  rw [e2, e]
  show ((cl x).drop 0).take _ = _
  rw [List.drop_zero]
  congr 1
theorem slice_1 (x : Str) (j : Nat) (h : j + 1 ≤ x.length) : cl (Txt.slice x (some (j : Int)) (some ((j : Int) + 1))) = ((cl x).drop j).take 1 := by
  have e := StrLaws.sliceText_nat (x := x) (a := j) (b := j + 1) (by omega) h
  have e2 : Txt.slice x (some (j : Int)) (some ((j : Int) + 1)) = StrLaws.sliceText x (some (j : Int)) (some ((j + 1 : Nat) : Int)) := rfl
  rw [e2, e]
  show ((cl x).drop j).take _ = _
  congr 1
  omega
theorem starts_slash (x : Str) : Txt.startswith x (Str.ofString "/") = true ↔ (cl x).head? = some 47 := by
  unfold Txt.startswith
  rw [StrLaws.subAt_eq]
  have hl : (Str.ofString "/").length = 1 := by decide +kernel
  rw [hl, ← cl_len]
  show (decide (0 + 1 ≤ (cl x).length) && (((cl x).drop 0).take 1 == cl (Str.ofString "/"))) = true ↔ _
  rw [slash_cl]
  cases cl x with
  | nil => simp
  | cons a r => simp
theorem ends_slash (x : Str) : Txt.endswith x (Str.ofString "/") = true ↔ (cl x).getLast? = some 47 := by
  unfold Txt.endswith
  rw [StrLaws.subAt_eq]
  have hl : (Str.ofString "/").length = 1 := by decide +kernel
  rw [hl, ← cl_len]
  show (decide (0 + 1 ≤ (cl x).length) && (((cl x).drop ((cl x).length - 1)).take 1 == cl (Str.ofString "/"))) = true ↔ _
  rw [slash_cl]
  rcases List.eq_nil_or_concat (cl x) with h | ⟨r, a, h⟩
  · rw [h]; simp
  · rw [h, List.concat_eq_append]; simp
/-- a part: free and not empty -/
noncomputable def Prt (x : Str) : Prop := Fre x ∧ cl x ≠ []
/-- parts behind a slash -/
noncomputable def Pj (ps : List Str) : Str := Str.ofString "/" ++ Str.join (Str.ofString "/") ps
theorem Pj_cl (ps : List Str) : cl (Pj ps) = 47 :: jl (ps.map cl) := by
  unfold Pj
  rw [cl_app, slash_cl, join_cl]; rfl
theorem head_prt {x : Str} (h : Prt x) : ¬ Txt.startswith x (Str.ofString "/") = true := by
  rw [starts_slash]
  intro e
  exact h.1 (List.mem_of_mem_head? (by rw [e]; rfl))
theorem jn_Pj {ps : List Str} {b : Str} (hp : ∀ p ∈ ps, Prt p) (hb : Prt b) : jn (Pj ps) b = Pj (ps ++ [b]) := by
  unfold jn
  rw [if_neg (by
    rintro (h | h)
    · exact head_prt hb h
    · rw [← cl_len, Pj_cl] at h; simp at h)]
  rcases List.eq_nil_or_concat ps with rfl | ⟨qs, z, rfl⟩
  · rw [if_pos (by rw [ends_slash, Pj_cl]; rfl)]
    apply cl_ext
    rw [cl_app, Pj_cl, Pj_cl]
    simp [jl]
  · rw [List.concat_eq_append] at hp ⊢
    have hz := hp z (by simp)
    have e : ∃ r, cl (Pj (qs ++ [z])) = r ++ cl z := by
      rw [Pj_cl, List.map_append]
      rcases List.eq_nil_or_concat qs with rfl | ⟨us, y, rfl⟩
      · exact ⟨[47], rfl⟩
      · rw [List.map_cons, List.map_nil, jl_snoc _ (by simp)]
        exact ⟨47 :: (jl (List.map cl (us.concat y)) ++ [47]), by simp⟩
    rw [if_neg (by
      rw [ends_slash]
      obtain ⟨r, e⟩ := e
      rw [e, List.getLast?_append, List.getLast?_eq_some_getLast hz.2, Option.some_or, ← List.getLast?_eq_some_getLast hz.2]
      intro h
      exact hz.1 (List.mem_of_getLast? h))]
    apply cl_ext
    rw [cl_app, cl_app, slash_cl, Pj_cl, Pj_cl, List.map_append (l₂ := [b]), List.map_cons, List.map_nil, jl_snoc _ (by simp)]
    simp
theorem joinS_Pj : ∀ {bs ps : List Str}, (∀ p ∈ ps, Prt p) → (∀ b ∈ bs, Prt b) → joinS (Pj ps) bs = Pj (ps ++ bs)
  | [], ps, _, _ => by simp [joinS]
  | b :: bs, ps, hp, hb => by
    show joinS (jn (Pj ps) b) bs = _
    rw [jn_Pj hp (hb b (.head _)), joinS_Pj (fun p h => ?_) (fun c h => hb c (.tail _ h))]
    · simp
    · rcases List.mem_append.mp h with h | h
      · exact hp p h
      · rw [List.mem_singleton.mp h]; exact hb b (.head _)
theorem slash_Pj : Str.ofString "/" = Pj [] := by
  apply cl_ext
  rw [Pj_cl, slash_cl]; rfl
theorem split_Pj1 {ps : List Str} (h0 : ps ≠ []) (hp : ∀ p ∈ ps, Prt p) : Txt.split (Txt.slice (Pj ps) (some 1) none) (Str.ofString "/") = ps := by
  have e : Txt.slice (Pj ps) (some 1) none = Str.join (Str.ofString "/") ps := by
    apply cl_ext
    rw [slice_from1 _ (by rw [← cl_len, Pj_cl]; simp), Pj_cl, join_cl]
    rfl
  rw [e]
  exact split_join h0 fun p h => (hp p h).1
theorem emp_fre : Fre Str.empty := by unfold Fre; decide +kernel
theorem split_Pj {ps : List Str} (hp : ∀ p ∈ ps, Prt p) : Txt.split (Pj ps) (Str.ofString "/") = if ps = [] then [Str.empty, Str.empty] else Str.empty :: ps := by
  split
  · rename_i h; subst h; decide +kernel
  · rename_i h
    have e : Pj ps = Str.join (Str.ofString "/") (Str.empty :: ps) := by
      apply cl_ext
      rw [Pj_cl, join_cl, List.map_cons, jl_cons _ (by simpa using h)]
      rfl
    rw [e]
    refine split_join (by simp) fun p q => ?_
    rcases List.mem_cons.mp q with rfl | q
    · exact emp_fre
    · exact (hp p q).1
end Mine
end SP5
section SP6
open PySem PySem.W PyProof.Rows PySem.Calls
namespace Mine
/-- good names -/
abbrev InS (ns : List Str) : Prop := ∀ y ∈ ns, y ∈ allS
/-- the written path of names -/
noncomputable def Wr (k : Int) (ns : List Str) : Str := Pj (ns.map (wrS k))
theorem wr_facts {k : Int} (h0 : 0 ≤ k) (h5 : k < 5) : ∀ n ∈ allS, ((cl (wrS k n)).contains 47 = false ∧ cl (wrS k n) ≠ [] ∧ cl (wrS k n) ≠ [46] ∧ cl (wrS k n) ≠ [46, 46]) ∧ (wrS k n).length ≤ 20 := by
  rcases five h0 h5 with rfl | rfl | rfl | rfl | rfl <;> decide +kernel
theorem wr_prt {k : Int} (h0 : 0 ≤ k) (h5 : k < 5) {n : Str} (h : n ∈ allS) : Prt (wrS k n) :=
  ⟨by have := (wr_facts h0 h5 n h).1.1; intro hh; simp [hh] at this, (wr_facts h0 h5 n h).1.2.1⟩
theorem wr_prts {k : Int} (h0 : 0 ≤ k) (h5 : k < 5) {ns : List Str} (h : InS ns) : ∀ p ∈ ns.map (wrS k), Prt p := by
  intro p hp
  obtain ⟨n, hn, rfl⟩ := List.mem_map.mp hp
  exact wr_prt h0 h5 (h n hn)
theorem dot_prt : Prt (Str.ofString ".") := ⟨by unfold Fre; decide +kernel, by decide +kernel⟩
theorem dots_prt : Prt (Str.ofString "..") := ⟨by unfold Fre; decide +kernel, by decide +kernel⟩
theorem wr_no {k : Int} (h0 : 0 ≤ k) (h5 : k < 5) {n : Str} (h : n ∈ allS) : (wrS k n).length ≠ 0 ∧ wrS k n ≠ Str.ofString "." ∧ wrS k n ≠ Str.ofString ".." := by
  have f := wr_facts h0 h5 n h
  refine ⟨?_, ?_, ?_⟩
  · rw [← cl_len]; exact fun e => f.1.2.1 (List.eq_nil_of_length_eq_zero e)
  · intro e; exact f.1.2.2.1 (by rw [e]; decide +kernel)
  · intro e; exact f.1.2.2.2 (by rw [e]; decide +kernel)
/-- the parts of a plain path stay -/
theorem ncs_wr {k : Int} (h0 : 0 ≤ k) (h5 : k < 5) : ∀ {ns : List Str} (acc : List Str), InS ns → (ns.map (wrS k)).foldl ncStep acc = acc ++ ns.map (wrS k)
  | [], acc, _ => by simp
  | n :: ns, acc, h => by
    have f := wr_no h0 h5 (h n (.head _))
    rw [List.map_cons, List.foldl_cons]
    have e : ncStep acc (wrS k n) = acc ++ [wrS k n] := by
      unfold ncStep
      rw [if_neg (by rintro (q | q); exact f.1 q; exact f.2.1 q), if_neg f.2.2]
    rw [e, ncs_wr h0 h5 _ fun y hy => h y (.tail _ hy)]
    simp
theorem ncs_deed {k : Int} (h0 : 0 ≤ k) (h5 : k < 5) {ns : List Str} (h : InS ns) {p o : Str} (hp : p ∈ allS) (ho : o ∈ allS) :
    ncs (ns.map (wrS k) ++ [Str.ofString "..", wrS k p, Str.ofString ".", wrS k o]) = (ns.dropLast ++ [p, o]).map (wrS k) := by
  have e1 : ∀ acc, ncStep acc (Str.ofString "..") = acc.dropLast := fun acc => by
    unfold ncStep
    rw [if_neg (by decide +kernel), if_pos rfl]
  have e2 : ∀ acc, ncStep acc (Str.ofString ".") = acc := fun acc => by
    unfold ncStep
    rw [if_pos (by decide +kernel)]
  have e3 : ∀ acc n, n ∈ allS → ncStep acc (wrS k n) = acc ++ [wrS k n] := fun acc n hn => by
    have f := wr_no h0 h5 hn
    unfold ncStep
    rw [if_neg (by rintro (q | q); exact f.1 q; exact f.2.1 q), if_neg f.2.2]
  unfold ncs
  rw [List.foldl_append, ncs_wr h0 h5 _ h]
  simp only [List.foldl_cons, List.foldl_nil, List.nil_append]
  rw [e1, e3 _ _ hp, e2, e3 _ _ ho, ← List.map_dropLast]
  simp
/-- joined to a written path -/
theorem join_one {k : Int} (h0 : 0 ≤ k) (h5 : k < 5) {ns : List Str} (h : InS ns) {p : Str} (hp : p ∈ allS) : joinS (Wr k ns) [wrS k p] = Wr k (ns ++ [p]) := by
  unfold Wr
  rw [joinS_Pj (wr_prts h0 h5 h) (fun b hb => by rw [List.mem_singleton.mp hb]; exact wr_prt h0 h5 hp)]
  simp
theorem join_new2 {k : Int} (h0 : 0 ≤ k) (h5 : k < 5) {p o : Str} (hp : p ∈ allS) (ho : o ∈ allS) : joinS (Str.ofString "/") [wrS k p, wrS k o] = Wr k [p, o] := by
  rw [slash_Pj]
  exact joinS_Pj (ps := []) (bs := [wrS k p, wrS k o]) (fun _ h => nomatch h) (wr_prts h0 h5 (ns := [p, o]) (in2 hp ho))
theorem join_new1 {k : Int} (h0 : 0 ≤ k) (h5 : k < 5) {p : Str} (hp : p ∈ allS) : joinS (Str.ofString "/") [wrS k p] = Wr k [p] := by
  rw [slash_Pj]
  exact joinS_Pj (ps := []) (bs := [wrS k p]) (fun _ h => nomatch h) (wr_prts h0 h5 (ns := [p]) (in1 hp))
theorem join_up {k : Int} (h0 : 0 ≤ k) (h5 : k < 5) {ns : List Str} (h : InS ns) {p o : Str} (hp : p ∈ allS) (ho : o ∈ allS) :
    joinS (Wr k ns) [Str.ofString "..", wrS k p, Str.ofString ".", wrS k o] = Pj (ns.map (wrS k) ++ [Str.ofString "..", wrS k p, Str.ofString ".", wrS k o]) := by
  refine joinS_Pj (wr_prts h0 h5 h) fun b hb => ?_
  simp only [List.mem_cons, List.not_mem_nil, or_false] at hb
  rcases hb with rfl | rfl | rfl | rfl
  · exact dots_prt
  · exact wr_prt h0 h5 hp
  · exact dot_prt
  · exact wr_prt h0 h5 ho
theorem up_prts {k : Int} (h0 : 0 ≤ k) (h5 : k < 5) {ns : List Str} (h : InS ns) {p o : Str} (hp : p ∈ allS) (ho : o ∈ allS) : ∀ b ∈ ns.map (wrS k) ++ [Str.ofString "..", wrS k p, Str.ofString ".", wrS k o], Prt b := by
  intro b hb
  rcases List.mem_append.mp hb with hb | hb
  · exact wr_prts h0 h5 h b hb
  · simp only [List.mem_cons, List.not_mem_nil, or_false] at hb
    rcases hb with rfl | rfl | rfl | rfl
    · exact dots_prt
    · exact wr_prt h0 h5 hp
    · exact dot_prt
    · exact wr_prt h0 h5 ho
theorem norm_up {k : Int} (h0 : 0 ≤ k) (h5 : k < 5) {ns : List Str} (h : InS ns) {p o : Str} (hp : p ∈ allS) (ho : o ∈ allS) :
    Str.ofString "/" ++ Str.join (Str.ofString "/") (ncs (Txt.split (Txt.slice (joinS (Wr k ns) [Str.ofString "..", wrS k p, Str.ofString ".", wrS k o]) (some 1) none) (Str.ofString "/"))) = Wr k (ns.dropLast ++ [p, o]) := by
  rw [join_up h0 h5 h hp ho, split_Pj1 (by simp) (up_prts h0 h5 h hp ho), ncs_deed h0 h5 h hp ho]
  rfl
/-- what normpath asks -/
theorem norm_ok {k : Int} (h0 : 0 ≤ k) (h5 : k < 5) {ns : List Str} (h : InS ns) {p o : Str} (hp : p ∈ allS) (ho : o ∈ allS) (n : Nat) :
    NormIf n (joinS (Wr k ns) [Str.ofString "..", wrS k p, Str.ofString ".", wrS k o]) := by
  intro _
  rw [join_up h0 h5 h hp ho]
  have up := up_prts h0 h5 h hp ho
  have hne : ns.map (wrS k) ++ [Str.ofString "..", wrS k p, Str.ofString ".", wrS k o] ≠ [] := by simp
  generalize ns.map (wrS k) ++ [Str.ofString "..", wrS k p, Str.ofString ".", wrS k o] = ps at up hne
  obtain ⟨q, qs, rfl⟩ := List.exists_cons_of_ne_nil hne
  have hq := up q (.head _)
  obtain ⟨a, as, ha⟩ := List.exists_cons_of_ne_nil hq.2
  have hcl : ∃ r, cl (Pj (q :: qs)) = 47 :: a :: r := by
    rw [Pj_cl, List.map_cons]
    cases qs with
    | nil => exact ⟨as, by rw [ha]; rfl⟩
    | cons y ys => exact ⟨as ++ 47 :: jl (List.map cl (y :: ys)), by rw [jl_cons _ (by simp), ha]; rfl⟩
  obtain ⟨r, hcl⟩ := hcl
  have hlen : (Pj (q :: qs)).length = r.length + 2 := by rw [← cl_len, hcl]; simp
  have ha47 : a ≠ 47 := fun e => hq.1 (by rw [ha, e]; exact .head _)
  refine ⟨by omega, ?_, ?_⟩
  · have e := slice_to (Pj (q :: qs)) 1 (by omega)
    rw [hcl] at e
    have e2 : Txt.slice (Pj (q :: qs)) none (some 1) = Str.ofString "/" := cl_ext (by rw [slash_cl]; exact e)
    rw [e2]
    exact bne_self_eq_false _
  · have e := slice_1 (Pj (q :: qs)) 1 (by omega)
    rw [hcl] at e
    rw [bne_iff_ne]
    intro e2
    have e3 : cl (Txt.slice (Pj (q :: qs)) (some 1) (some 2)) = [a] := e
    rw [e2, slash_cl] at e3
    exact ha47 (by simpa using e3.symm)
theorem ccs_wr {k : Int} (h0 : 0 ≤ k) (h5 : k < 5) {ns : List Str} (h : InS ns) : ccs (Wr k ns) = ns.map (wrS k) := by
  unfold ccs Wr
  rw [split_Pj (wr_prts h0 h5 h)]
  have ke : keepC Str.empty = false := by decide +kernel
  have kw : (ns.map (wrS k)).filter keepC = ns.map (wrS k) := by
    rw [List.filter_eq_self]
    intro p hp
    obtain ⟨n, hn, rfl⟩ := List.mem_map.mp hp
    have f := wr_no h0 h5 (h n hn)
    unfold keepC
    rw [Bool.and_eq_true]
    exact ⟨decide_eq_true (by omega), by rw [bne_iff_ne]; exact f.2.1⟩
  split
  · rename_i e
    rw [e]
    decide +kernel
  · rw [List.filter_cons, ke]
    exact kw
theorem wr_inj {k : Int} (h0 : 0 ≤ k) (h5 : k < 5) : ∀ a ∈ allS, ∀ b ∈ allS, wrS k a = wrS k b → a = b := by
  rcases five h0 h5 with rfl | rfl | rfl | rfl | rfl <;> decide +kernel
theorem cpre_map {k : Int} (h0 : 0 ≤ k) (h5 : k < 5) : ∀ {a b : List Str}, InS a → InS b → cpre (a.map (wrS k)) (b.map (wrS k)) = (cpre a b).map (wrS k)
  | [], [], _, _ => rfl
  | [], _ :: _, _, _ => rfl
  | _ :: _, [], _, _ => rfl
  | a :: as, b :: bs, ha, hb => by
    rw [List.map_cons, List.map_cons]
    unfold cpre
    by_cases e : a = b
    · subst e
      rw [if_pos rfl, if_pos rfl, cpre_map h0 h5 (fun y hy => ha y (.tail _ hy)) (fun y hy => hb y (.tail _ hy)), List.map_cons]
    · rw [if_neg e, if_neg fun q => e (wr_inj h0 h5 a (ha a (.head _)) b (hb b (.head _)) q)]
      rfl
theorem cpS_wr {k : Int} (h0 : 0 ≤ k) (h5 : k < 5) {a b : List Str} (ha : InS a) (hb : InS b) : cpS (Wr k a) (Wr k b) = Wr k (cpre a b) := by
  unfold cpS
  rw [ccs_wr h0 h5 ha, ccs_wr h0 h5 hb, cpre_map h0 h5 ha hb]
  rfl
theorem cpre_sub : ∀ {a b : List Str}, ∀ y ∈ cpre a b, y ∈ a
  | a :: as, b :: bs, y, h => by
    unfold cpre at h
    split at h
    · rcases List.mem_cons.mp h with rfl | h
      · exact .head _
      · exact .tail _ (cpre_sub y h)
    · cases h
  | [], [], _, h => nomatch h
  | [], _ :: _, _, h => nomatch h
  | _ :: _, [], _, h => nomatch h
theorem cpre_le : ∀ {a b : List Str}, (cpre a b).length ≤ a.length
  | a :: as, b :: bs => by
    unfold cpre
    split
    · have := cpre_le (a := as) (b := bs); simp; exact this
    · simp
  | [], [] => Nat.le_refl _
  | [], _ :: _ => Nat.le_refl _
  | _ :: _, [] => Nat.zero_le _
theorem wr_starts (k : Int) (ns : List Str) : Txt.startswith (Wr k ns) (Str.ofString "/") = true := by
  rw [starts_slash]
  unfold Wr
  rw [Pj_cl]
  rfl
theorem jl_len (B : Nat) : ∀ (l : List (List Nat)), (∀ x ∈ l, x.length ≤ B) → (jl l).length ≤ l.length * (B + 1)
  | [], _ => Nat.zero_le _
  | [x], h => by have := h x (.head _); simp [jl]; omega
  | x :: y :: r, h => by
    have ih := jl_len B (y :: r) (fun z hz => h z (.tail _ hz))
    have := h x (.head _)
    show (x ++ 47 :: jl (y :: r)).length ≤ _
    rw [List.length_append, List.length_cons, List.length_cons (as := y :: r), Nat.succ_mul]
    omega
theorem wr_path_len {k : Int} (h0 : 0 ≤ k) (h5 : k < 5) {ns : List Str} (h : InS ns) : (Wr k ns).length ≤ 1 + ns.length * 21 := by
  unfold Wr
  rw [← cl_len, Pj_cl, List.length_cons]
  have := jl_len 20 ((ns.map (wrS k)).map cl) (fun x hx => by
    obtain ⟨p, hp, rfl⟩ := List.mem_map.mp hx
    obtain ⟨n, hn, rfl⟩ := List.mem_map.mp hp
    rw [cl_len]
    exact (wr_facts h0 h5 n (h n hn)).2)
  simp only [List.length_map] at this
  omega
end Mine
end SP6
section SP7
open PySem PySem.W PyProof.Rows PySem.Calls
namespace Mine
theorem at_one (x : Str) (c i : Nat) : StrLaws.At x ⟨#[c]⟩ x.length i ↔ (cl x)[i]? = some c := by
  unfold StrLaws.At
  rw [StrLaws.subAt_eq]
  have hl : (⟨#[c]⟩ : Str).length = 1 := rfl
  rw [hl, ← cl_len]
  show (i + 1 ≤ (cl x).length ∧ (((cl x).drop i).take 1 == [c]) = true) ↔ _
  constructor
  · rintro ⟨h1, h2⟩
    rw [beq_iff_eq] at h2
    rw [List.getElem?_eq_getElem (by omega)]
    rw [List.drop_eq_getElem_cons (by omega)] at h2
    simpa using h2
  · intro h
    obtain ⟨h1, h2⟩ := List.getElem?_eq_some_iff.mp h
    refine ⟨h1, ?_⟩
    rw [beq_iff_eq, List.drop_eq_getElem_cons h1, h2]
    simp
theorem rfind_at {x : Str} {c : Nat} {a b : List Nat} (h : cl x = a ++ c :: b) (hb : c ∉ b) : Txt.rfind x ⟨#[c]⟩ = (a.length : Int) := by
  unfold Txt.rfind
  have ha : (cl x)[a.length]? = some c := by rw [h]; simp
  have hafter : ∀ i, a.length < i → ¬ (cl x)[i]? = some c := by
    intro i hi e
    rw [h, List.getElem?_append_right (by omega)] at e
    have e2 : i - a.length = (i - a.length - 1) + 1 := by omega
    rw [e2, List.getElem?_cons_succ] at e
    exact hb (List.mem_of_getElem? e)
  rcases StrLaws.last_spec x ⟨#[c]⟩ with ⟨_, hn⟩ | ⟨i, hi, hA, hl⟩
  · exact absurd ((at_one x c _).mpr ha) (hn _)
  · rw [hi]
    rw [at_one] at hA
    have h1 : ¬ a.length < i := fun q => hafter i q hA
    have h2 : ¬ i < a.length := fun q => hl _ q ((at_one x c _).mpr ha)
    have : i = a.length := by omega
    rw [this]
theorem rfind_lt {x : Str} {c : Nat} {a b : List Nat} (h : cl x = a ++ b) (hb : c ∉ b) : Txt.rfind x ⟨#[c]⟩ < (a.length : Int) := by
  unfold Txt.rfind
  rcases StrLaws.last_spec x ⟨#[c]⟩ with ⟨hn, _⟩ | ⟨i, hi, hA, hl⟩
  · rw [hn]; show (-1 : Int) < _; omega
  · rw [hi]
    rw [at_one, h] at hA
    by_cases q : i < a.length
    · show (i : Int) < _; omega
    · rw [List.getElem?_append_right (by omega)] at hA
      exact absurd (List.mem_of_getElem? hA) hb
theorem wr_dots {k : Int} (h0 : 0 ≤ k) (h5 : k < 5) : ∀ z ∈ allS, ((cl (wrS k z)).contains 46 = false ∧ z ≠ Str.ofString "a.&") ∨
    (∃ t, cl (wrS k z) = 46 :: 46 :: t ∧ t.contains 46 = false ∧ z ≠ Str.ofString "a.&") ∨ ∃ t, z = Str.ofString "a.&" ∧ cl (wrS k z) = 97 :: 46 :: t ∧ t.contains 46 = false := by
  have key : ∀ z ∈ allS, ((cl (wrS k z)).contains 46 = false ∧ z ≠ Str.ofString "a.&") ∨
    ((cl (wrS k z)) = 46 :: 46 :: (cl (wrS k z)).drop 2 ∧ ((cl (wrS k z)).drop 2).contains 46 = false ∧ z ≠ Str.ofString "a.&") ∨ (z = Str.ofString "a.&" ∧ cl (wrS k z) = 97 :: 46 :: (cl (wrS k z)).drop 2 ∧ ((cl (wrS k z)).drop 2).contains 46 = false) := by
    rcases five h0 h5 with rfl | rfl | rfl | rfl | rfl <;> decide +kernel
  intro z hz
  rcases key z hz with h | h | h
  · exact .inl h
  · exact .inr (.inl ⟨_, h⟩)
  · exact .inr (.inr ⟨_, h⟩)
theorem wr_a (k : Int) : cl (wrS k (Str.ofString "a")) = [97] := by
  have hk : wrS k (Str.ofString "a") = wrS 0 (Str.ofString "a") ∨ wrS k (Str.ofString "a") = wrS 1 (Str.ofString "a") ∨ wrS k (Str.ofString "a") = wrS 2 (Str.ofString "a") ∨ wrS k (Str.ofString "a") = wrS 3 (Str.ofString "a") ∨ wrS k (Str.ofString "a") = wrS 4 (Str.ofString "a") := by
    by_cases h0 : k = 0
    · subst h0; exact .inl rfl
    by_cases h1 : k = 1
    · subst h1; exact .inr (.inl rfl)
    by_cases h2 : k = 2
    · subst h2; exact .inr (.inr (.inl rfl))
    by_cases h3 : k = 3
    · subst h3; exact .inr (.inr (.inr (.inl rfl)))
    · refine .inr (.inr (.inr (.inr ?_)))
      unfold wrS
      simp [h0, h1, h2, h3]
  rcases hk with h | h | h | h | h <;> rw [h] <;> decide +kernel
/-- a path that ends in a name -/
theorem Pj_snoc (ps : List Str) (z : Str) : ∃ a, (∀ z, cl (Pj (ps ++ [z])) = a ++ 47 :: cl z) := by
  rcases List.eq_nil_or_concat ps with rfl | ⟨us, y, rfl⟩
  · exact ⟨[], fun z => by rw [Pj_cl]; rfl⟩
  · refine ⟨47 :: jl (List.map cl (us.concat y)), fun z => ?_⟩
    rw [Pj_cl, List.map_append, List.map_cons, List.map_nil, jl_snoc _ (by simp)]
    rfl
theorem wr_snoc (k : Int) (ys : List Str) : ∃ a, ∀ z, cl (Wr k (ys ++ [z])) = a ++ 47 :: cl (wrS k z) := by
  obtain ⟨a, h⟩ := Pj_snoc (ys.map (wrS k)) Str.empty
  refine ⟨a, fun z => ?_⟩
  unfold Wr
  rw [List.map_append]
  exact h (wrS k z)
theorem not_mem_of {l : List Nat} {c : Nat} (h : l.contains c = false) : c ∉ l := fun q => by simp [q] at h
theorem stem_wr {k : Int} (h0 : 0 ≤ k) (h5 : k < 5) {ns : List Str} (h : InS ns) {a : Str} (hs : SpR (Wr k ns) a) : a = Wr k (stemN ns) := by
  rcases List.eq_nil_or_concat ns with rfl | ⟨ys, z, rfl⟩
  · have e : Wr k [] = Str.ofString "/" := slash_Pj.symm
    have e2 : stemN [] = [] := rfl
    rw [e] at hs
    rw [e2, e]
    rcases hs with ⟨q, _⟩ | ⟨_, q⟩
    · exact absurd q (by decide +kernel)
    · exact q
  · rw [List.concat_eq_append] at h hs ⊢
    obtain ⟨p, hp⟩ := wr_snoc k ys
    have hz := h z (by simp)
    have hx := hp z
    have fz : 47 ∉ cl (wrS k z) := (wr_prt h0 h5 hz).1
    have rs : Txt.rfind (Wr k (ys ++ [z])) (Str.ofString "/") = (p.length : Int) := by rw [slash_mk]; exact rfind_at hx fz
    have hx1 : cl (Wr k (ys ++ [z])) = (p ++ [47]) ++ cl (wrS k z) := by rw [hx]; simp
    unfold SpR at hs
    rw [rs] at hs
    rcases wr_dots h0 h5 z hz with ⟨hd, hne⟩ | ⟨t, hd, ht, hne⟩ | ⟨t, hz2, hd, ht⟩
    · have rd : Txt.rfind (Wr k (ys ++ [z])) (Str.ofString ".") < ((p ++ [47]).length : Int) := by rw [dot_mk]; exact rfind_lt hx1 (not_mem_of hd)
      rw [List.length_append, List.length_singleton] at rd
      rw [stemN_same (by simpa using hne)]
      rcases hs with ⟨_, ⟨j, j1, j2, _⟩, _⟩ | ⟨_, q⟩
      · omega
      · exact q
    · rw [stemN_same (by simpa using hne)]
      rcases hs with ⟨_, ⟨j, j1, j2, j3⟩, _⟩ | ⟨_, q⟩
      · exfalso
        have hx2 : cl (Wr k (ys ++ [z])) = (p ++ [47, 46]) ++ 46 :: t := by rw [hx, hd]; simp
        have rd : Txt.rfind (Wr k (ys ++ [z])) (Str.ofString ".") = ((p ++ [47, 46]).length : Int) := by rw [dot_mk]; exact rfind_at hx2 (not_mem_of ht)
        rw [rd, List.length_append] at j2
        simp only [List.length_cons, List.length_nil] at j2
        have ej : j = ((p.length + 1 : Nat) : Int) := by omega
        subst ej
        refine j3 (cl_ext ?_)
        rw [slice_1 _ _ (by rw [← cl_len, hx2]; simp; omega), hx2, dot_cl]
        have e : (p ++ [47, 46]) ++ 46 :: t = (p ++ [47]) ++ 46 :: 46 :: t := by simp
        rw [e, List.drop_left' (by simp)]
        rfl
      · exact q
    · subst hz2
      have hx2 : cl (Wr k (ys ++ [Str.ofString "a.&"])) = (p ++ [47, 97]) ++ 46 :: t := by rw [hx, hd]; simp
      have rd : Txt.rfind (Wr k (ys ++ [Str.ofString "a.&"])) (Str.ofString ".") = ((p ++ [47, 97]).length : Int) := by rw [dot_mk]; exact rfind_at hx2 (not_mem_of ht)
      rw [rd] at hs
      have e9 : (p ++ [47, 97]).length = p.length + 2 := by simp
      rw [e9] at hs
      rw [stemN_amp]
      rcases hs with ⟨_, _, q⟩ | ⟨q, _⟩
      · rw [q]
        apply cl_ext
        rw [slice_to _ _ (by rw [← cl_len, hx2]; simp), hx2, hp, wr_a, List.take_left' (by simp)]
      · exfalso
        rcases q with q | q
        · omega
        · have := q ((p.length + 1 : Nat) : Int) (by omega) (by omega)
          have e3 := slice_1 (Wr k (ys ++ [Str.ofString "a.&"])) (p.length + 1) (by rw [← cl_len, hx2]; simp; omega)
          rw [this, dot_cl, hx2] at e3
          have e : (p ++ [47, 97]) ++ 46 :: t = (p ++ [47]) ++ 97 :: 46 :: t := by simp
          rw [e, List.drop_left' (by simp)] at e3
          simp at e3
end Mine
end SP7
section SP8
open PySem PySem.W PyProof.Rows PySem.Calls
namespace Mine
theorem pathS_cl (ns : List Str) : cl (pathS ns) = 47 :: jl (ns.map cl) := Pj_cl ns
theorem WL_app (k : Int) (a b : List Nat) : WL k (a ++ b) = WL k a ++ WL k b := by unfold WL; rw [List.flatMap_append]
theorem WL_cons (k : Int) (c : Nat) (b : List Nat) : WL k (c :: b) = W1 k c ++ WL k b := rfl
theorem WL_jl {k : Int} (h0 : 0 ≤ k) (h5 : k < 5) : ∀ l : List (List Nat), WL k (jl l) = jl (l.map (WL k))
  | [] => rfl
  | [x] => rfl
  | x :: y :: r => by
    show WL k (x ++ 47 :: jl (y :: r)) = WL k x ++ 47 :: jl ((y :: r).map (WL k))
    rw [WL_app, WL_cons, (W_slash h0 h5).1, WL_jl h0 h5 (y :: r)]
    rfl
theorem WL_path {k : Int} (h0 : 0 ≤ k) (h5 : k < 5) {ns : List Str} (h : InS ns) : cl (Wr k ns) = WL k (cl (pathS ns)) := by
  unfold Wr
  rw [Pj_cl, pathS_cl, WL_cons, (W_slash h0 h5).1, WL_jl h0 h5, List.map_map, List.map_map]
  have e : ns.map (cl ∘ wrS k) = ns.map (WL k ∘ cl) := List.map_congr_left fun n hn => wr_name h0 h5 n (h n hn)
  rw [e]
  rfl
theorem join0_cl : ∀ ps : List Str, cl (Str.join (Str.ofString "") ps) = ps.flatMap cl
  | [] => rfl
  | [x] => by simp [Str.join]
  | x :: y :: r => by
    show cl (x ++ Str.ofString "" ++ Str.join (Str.ofString "") (y :: r)) = _
    have e : cl (Str.ofString "") = [] := by decide +kernel
    rw [cl_app, cl_app, e, join0_cl (y :: r)]
    simp
theorem outP_wr {k : Int} (h0 : 0 ≤ k) (h5 : k < 5) {ns : List Str} (h : InS ns) : outP k ns = Wr k ns := by
  apply cl_ext
  rw [WL_path h0 h5 h]
  unfold outP
  rw [join0_cl, List.flatMap_map]
  rfl
theorem jl_signs : ∀ {l : List (List Nat)}, (∀ x ∈ l, ∀ c ∈ x, c ∈ SGS) → ∀ c ∈ jl l, c ∈ SGS
  | [], _, c, h => nomatch h
  | [x], h, c, hc => h x (.head _) c hc
  | x :: y :: r, h, c, hc => by
    have hc' : c ∈ x ++ 47 :: jl (y :: r) := hc
    rcases List.mem_append.mp hc' with q | q
    · exact h x (.head _) c q
    · rcases List.mem_cons.mp q with rfl | q
      · decide
      · exact jl_signs (l := y :: r) (fun z hz => h z (.tail _ hz)) c q
theorem path_signs {ns : List Str} (h : InS ns) : ∀ c ∈ cl (pathS ns), c ∈ SGS := by
  intro c hc
  rw [pathS_cl] at hc
  rcases List.mem_cons.mp hc with rfl | hc
  · decide
  · refine jl_signs (fun x hx d hd => ?_) c hc
    obtain ⟨n, hn, rfl⟩ := List.mem_map.mp hx
    exact ((name_signs n (h n hn)).2 d hd).1
/-- the order of the written paths is the order of the rows -/
theorem lt_row {k : Int} (h0 : 0 ≤ k) (h5 : k < 5) {a b : List Str} (ha : InS a) (hb : InS b) : ltS (Wr k a) (Wr k b) = rowLt (rowOf k a) (rowOf k b) := by
  unfold ltS
  have e1 := WL_path h0 h5 ha
  have e2 := WL_path h0 h5 hb
  unfold cl at e1 e2
  rw [e1, e2]
  exact WL_lt h0 h5 _ _ (path_signs ha) (path_signs hb)
theorem WL_inj {k : Int} (h0 : 0 ≤ k) (h5 : k < 5) : ∀ {a b : List Nat}, (∀ c ∈ a, c ∈ SGS) → (∀ c ∈ b, c ∈ SGS) → WL k a = WL k b → a = b
  | [], [], _, _, _ => rfl
  | [], d :: b, _, hb, e => by
    exfalso
    have hd := hb d (.head _)
    have : W1 k d ≠ [] := by
      by_cases q : d = 47
      · subst q; rw [(W_slash h0 h5).1]; simp
      · exact ((W_slash h0 h5).2 d hd q).2
    rw [WL_cons] at e
    exact this (List.append_eq_nil_iff.mp e.symm).1
  | c :: a, [], ha, _, e => by
    exfalso
    have hc := ha c (.head _)
    have : W1 k c ≠ [] := by
      by_cases q : c = 47
      · subst q; rw [(W_slash h0 h5).1]; simp
      · exact ((W_slash h0 h5).2 c hc q).2
    rw [WL_cons] at e
    exact this (List.append_eq_nil_iff.mp e).1
  | c :: a, d :: b, ha, hb, e => by
    have hc := ha c (.head _)
    have hd := hb d (.head _)
    rw [WL_cons, WL_cons] at e
    by_cases q : c = d
    · subst q
      rw [WL_inj h0 h5 (fun z hz => ha z (.tail _ hz)) (fun z hz => hb z (.tail _ hz)) (List.append_cancel_left e)]
    · exfalso
      have h1 := (W_cmp h0 h5 c hc d hd q).1
      have h2 := (W_cmp h0 h5 d hd c hc (Ne.symm q)).1
      have f1 : decide (W1 k c < W1 k d) = false := by
        rw [← lt_free _ _ (WL k a) (WL k b) h1 h2, e]
        simp [List.lt_irrefl]
      have f2 : decide (W1 k d < W1 k c) = false := by
        rw [← lt_free _ _ (WL k b) (WL k a) h2 h1, e]
        simp [List.lt_irrefl]
      have f3 : W1 k c = W1 k d := List.le_antisymm (α := Nat) (by simpa using f2) (by simpa using f1)
      rw [f3] at h1
      have : (W1 k d).isPrefixOf (W1 k d) = true := by simp
      rw [this] at h1
      cases h1
theorem names_of_path {a b : List Str} (ha : InS a) (hb : InS b) (e : cl (pathS a) = cl (pathS b)) : a = b := by
  rw [pathS_cl, pathS_cl] at e
  have e' : jl (a.map cl) = jl (b.map cl) := by simpa using e
  have ne : ∀ {n : Str} {r : List Str}, n ∈ allS → jl (cl n :: r.map cl) ≠ [] := by
    intro n r hn q
    have := (name_signs n hn).1
    cases r with
    | nil => exact this q
    | cons y r =>
      have q' : cl n ++ 47 :: jl (List.map cl (y :: r)) = [] := q
      simp at q'
  have free : ∀ {l : List Str}, InS l → ∀ x ∈ l.map cl, 47 ∉ x := by
    intro l hl x hx
    obtain ⟨n, hn, rfl⟩ := List.mem_map.mp hx
    intro q
    exact ((name_signs n (hl n hn)).2 47 q).2 rfl
  cases a with
  | nil =>
    cases b with
    | nil => rfl
    | cons n r => exact absurd e'.symm (ne (hb n (.head _)))
  | cons m s =>
    cases b with
    | nil => exact absurd e' (ne (ha m (.head _)))
    | cons n r => exact map_cl_inj (jl_inj (by simp) (by simp) (free ha) (free hb) e')
theorem Wr_inj {k : Int} (h0 : 0 ≤ k) (h5 : k < 5) {a b : List Str} (ha : InS a) (hb : InS b) (e : Wr k a = Wr k b) : a = b := by
  refine names_of_path ha hb (WL_inj h0 h5 (path_signs ha) (path_signs hb) ?_)
  rw [← WL_path h0 h5 ha, ← WL_path h0 h5 hb, e]
theorem keys_inj {k : Int} (h0 : 0 ≤ k) (h5 : k < 5) : ∀ {a b : List Nat}, (∀ c ∈ a, c ∈ SGS) → (∀ c ∈ b, c ∈ SGS) → a.map (keyOf k) = b.map (keyOf k) → a = b
  | [], [], _, _, _ => rfl
  | [], _ :: _, _, _, e => by cases e
  | _ :: _, [], _, _, e => by cases e
  | c :: a, d :: b, ha, hb, e => by
    rw [List.map_cons, List.map_cons, List.cons.injEq] at e
    have hc := ha c (.head _)
    have hd := hb d (.head _)
    have q : c = d := Classical.byContradiction fun q => (W_cmp h0 h5 c hc d hd q).2.2 e.1
    rw [q, keys_inj h0 h5 (fun z hz => ha z (.tail _ hz)) (fun z hz => hb z (.tail _ hz)) e.2]
theorem lt_place {k : Int} (h0 : 0 ≤ k) (h5 : k < 5) {a b : List Str} (ha : InS a) (hb : InS b) : placeLt (placeOf k a) (placeOf k b) = ltS (Wr k a) (Wr k b) := by
  rw [lt_row h0 h5 ha hb]
  have e : placeLt (placeOf k a) (placeOf k b) = if rowOf k a = rowOf k b then (if a = b then false else namesLt a b) else rowLt (rowOf k a) (rowOf k b) := by
    unfold placeLt placeOf
    simp only [lexW, sumEq, sumLt, decide_eq_true_eq]
  rw [e]
  split
  · rename_i h
    have : a = b := names_of_path ha hb (keys_inj h0 h5 (path_signs ha) (path_signs hb) h)
    subst this
    rw [if_pos rfl, ← lt_row h0 h5 ha ha]
    unfold ltS
    simp [List.lt_irrefl]
  · rfl
end Mine
end SP8
section SP9
open PySem PySem.W PyProof.Rows PySem.Calls
namespace Mine
abbrev InN (nss : List (List Str)) : Prop := ∀ n ∈ nss, InS n
theorem least_le {k : Int} (h0 : 0 ≤ k) (h5 : k < 5) {nss : List (List Str)} (h : InN nss) (hl : 0 < nss.length) : ∀ b ∈ nss, leS (Wr k (leastN k nss)) (Wr k b) := by
  have mem : ∀ i, i < nss.length → nss.getD i [] ∈ nss := fun i hi => by
    rw [List.getD_eq_getElem?_getD, List.getElem?_eq_getElem hi]; exact List.getElem_mem _
  have key : ∀ n, n < nss.length → ∀ i, i ≤ n → leS (Wr k (nss.getD (argBest (lessN k nss) n) [])) (Wr k (nss.getD i [])) := by
    intro n
    induction n with
    | zero => intro _ i hi; have : i = 0 := by omega
              subst this; exact leS_refl _
    | succ n ih =>
      intro hn i hi
      have hb := argBest_le (lessN k nss) n
      have e : lessN k nss (n + 1) (argBest (lessN k nss) n) = ltS (Wr k (nss.getD (n + 1) [])) (Wr k (nss.getD (argBest (lessN k nss) n) [])) :=
        lt_place h0 h5 (h _ (mem _ hn)) (h _ (mem _ (by omega)))
      unfold argBest
      rw [e]
      split
      · rename_i q
        by_cases qi : i = n + 1
        · subst qi; exact leS_refl _
        · exact leS_trans (leS_of_lt q) (ih (by omega) i (by omega))
      · rename_i q
        by_cases qi : i = n + 1
        · subst qi; unfold leS; exact Bool.eq_false_iff.mpr q
        · exact ih (by omega) i (by omega)
  intro b hb
  obtain ⟨i, hi, rfl⟩ := List.mem_iff_getElem.mp hb
  have := key (nss.length - 1) (by omega) i (by omega)
  have e : nss.getD i [] = nss[i] := by rw [List.getD_eq_getElem?_getD, List.getElem?_eq_getElem hi]; rfl
  rw [e] at this
  exact this
/-- the heap and the bag hold the same -/
noncomputable def Rel (k : Int) (xs : List Str) (nss : List (List Str)) : Prop := InN nss ∧ xs.Perm (nss.map (Wr k)) ∧ IsHp xs
theorem Rel.len {k : Int} {xs : List Str} {nss : List (List Str)} (h : Rel k xs nss) : xs.length = nss.length := by
  have := h.2.1.length_eq; simpa using this
theorem Rel.head {k : Int} (h0 : 0 ≤ k) (h5 : k < 5) {xs : List Str} {nss : List (List Str)} (h : Rel k xs nss) (hl : 0 < nss.length) : xs.getD 0 Str.empty = Wr k (leastN k nss) := by
  have hx : 0 < xs.length := by rw [h.len]; exact hl
  have m1 : xs.getD 0 Str.empty ∈ xs := by
    rw [List.getD_eq_getElem?_getD, List.getElem?_eq_getElem hx]; exact List.getElem_mem _
  obtain ⟨b, hb, eb⟩ := List.mem_map.mp (h.2.1.mem_iff.mp m1)
  have a1 := least_le h0 h5 h.1 hl b hb
  rw [eb] at a1
  have m2 : Wr k (leastN k nss) ∈ xs := h.2.1.mem_iff.mpr (List.mem_map_of_mem (leastN_mem hl))
  obtain ⟨i, hi, ei⟩ := List.mem_iff_getElem.mp m2
  have a2 := hp_least h.2.2 i hi
  have e : xs.getD i Str.empty = xs[i] := by rw [List.getD_eq_getElem?_getD, List.getElem?_eq_getElem hi]; rfl
  rw [e, ei] at a2
  exact leS_anti a2 a1
theorem Rel.tail {k : Int} (h0 : 0 ≤ k) (h5 : k < 5) {xs : List Str} {nss : List (List Str)} (h : Rel k xs nss) (hl : 0 < nss.length) : xs.tail.Perm ((nss.erase (leastN k nss)).map (Wr k)) := by
  have hh := h.head h0 h5 hl
  have p := h.2.1
  cases xs with
  | nil => have := h.len; simp at this; omega
  | cons y r =>
    have e : y = Wr k (leastN k nss) := hh
    subst e
    have p2 : (nss.map (Wr k)).Perm (Wr k (leastN k nss) :: (nss.erase (leastN k nss)).map (Wr k)) := (List.perm_cons_erase (leastN_mem hl)).map (Wr k)
    exact (p.trans p2).cons_inv
theorem Rel.put {k : Int} (h0 : 0 ≤ k) (h5 : k < 5) {xs : List Str} {nss : List (List Str)} (h : Rel k xs nss) (hl : 0 < nss.length) {n : List Str} (hn : InS n) :
    Rel k (siftup (xs.set 0 (Wr k n))) (nss.erase (leastN k nss) ++ [n]) := by
  have hx : 0 < xs.length := by rw [h.len]; exact hl
  have r := replace_hp h.2.2 (Wr k n) hx
  refine ⟨fun m hm => ?_, ?_, r.2⟩
  · rcases List.mem_append.mp hm with q | q
    · exact h.1 m (List.mem_of_mem_erase q)
    · rw [List.mem_singleton.mp q]; exact hn
  · refine r.1.trans ?_
    rw [List.map_append]
    refine ((h.tail h0 h5 hl).cons _).trans ?_
    exact (List.perm_append_singleton _ _).symm
theorem Rel.pop {k : Int} (h0 : 0 ≤ k) (h5 : k < 5) {xs : List Str} {nss : List (List Str)} (h : Rel k xs nss) (hl : 0 < nss.length) : Rel k (popL xs) (nss.erase (leastN k nss)) := by
  have hx : 0 < xs.length := by rw [h.len]; exact hl
  have r := pop_hp h.2.2 hx
  exact ⟨fun m hm => h.1 m (List.mem_of_mem_erase hm), r.1.trans (h.tail h0 h5 hl), r.2⟩
theorem Rel.push {k : Int} {xs : List Str} {nss : List (List Str)} (h : Rel k xs nss) {n : List Str} (hn : InS n) : Rel k (sd (xs ++ [Wr k n]) (Wr k n) xs.length) (nss ++ [n]) := by
  refine ⟨fun m hm => ?_, ?_, push_heap _ _ h.2.2⟩
  · rcases List.mem_append.mp hm with q | q
    · exact h.1 m q
    · rw [List.mem_singleton.mp q]; exact hn
  · refine (push_perm _ _).trans ?_
    rw [List.map_append]
    exact h.2.1.append_right _
theorem in_dropLast {ns : List Str} (h : InS ns) : InS ns.dropLast := fun y hy => h y (List.dropLast_subset ns hy)
theorem in_app {a b : List Str} (ha : InS a) (hb : InS b) : InS (a ++ b) := fun y hy => (List.mem_append.mp hy).elim (ha y) (hb y)
/-- the least of a bag and one more -/
theorem least_more {k : Int} (h0 : 0 ≤ k) (h5 : k < 5) {nss : List (List Str)} (h : InN nss) (hl : 0 < nss.length) {n : List Str} (hn : InS n) :
    leastN k (nss ++ [n]) = if ltS (Wr k (leastN k nss)) (Wr k n) = true then leastN k nss else n := by
  have hN : InN (nss ++ [n]) := fun m hm => by
    rcases List.mem_append.mp hm with q | q
    · exact h m q
    · rw [List.mem_singleton.mp q]; exact hn
  have hm := leastN_mem (k := k) (nss := nss ++ [n]) (by simp)
  have hL := h _ (leastN_mem (k := k) hl)
  have l1 := least_le h0 h5 hN (by simp) (leastN k nss) (List.mem_append_left _ (leastN_mem hl))
  have l2 := least_le h0 h5 hN (by simp) n (by simp)
  rcases List.mem_append.mp hm with q | q
  · have l3 := least_le h0 h5 h hl _ q
    have e : leastN k (nss ++ [n]) = leastN k nss := Wr_inj h0 h5 (hN _ hm) hL (leS_anti l1 l3)
    rw [e] at l2 ⊢
    split
    · rfl
    · rename_i hlt
      exact Wr_inj h0 h5 hL hn (leS_anti l2 (by unfold leS; exact Bool.eq_false_iff.mpr hlt))
  · have e := List.mem_singleton.mp q
    rw [e] at l1 ⊢
    rw [if_neg]
    unfold leS at l1
    rw [l1]
    exact Bool.false_ne_true
/-- one deed on both sides -/
theorem deed_rel {k x : Int} (h0 : 0 ≤ k) (h5 : k < 5) {xs xs' : List Str} {nss : List (List Str)} {r : Str} (h : Rel k xs nss) (d : DeedR cpS k x xs r xs') :
    r = Wr k (PlainD k x nss).1 ∧ Rel k xs' (PlainD k x nss).2 := by
  have hlen := h.len
  have hp := pcP_mem x
  have ho := otP_mem x
  have ep : pcS k x = wrS k (pcP x) := rfl
  have eo : otS k x = wrS k (otP x) := rfl
  unfold DeedR at d
  rw [ep, eo] at d
  rw [hlen] at d
  unfold PlainD
  split at d
  · rename_i c
    rw [if_pos c]
    rw [join_new2 h0 h5 hp ho] at d
    obtain ⟨rfl, rfl⟩ := d
    refine ⟨rfl, ?_⟩
    have := h.push (n := [pcP x, otP x]) (in2 hp ho)
    rw [hlen] at this
    exact this
  · rename_i c
    rw [if_neg c]
    have hl : 0 < nss.length := by omega
    have hh := h.head h0 h5 hl
    have hL := h.1 _ (leastN_mem (k := k) hl)
    rw [hh] at d
    split at d
    · rename_i c2
      rw [if_neg (by omega), if_pos c2]
      rw [join_one h0 h5 hL hp] at d
      obtain ⟨rfl, rfl⟩ := d
      exact ⟨rfl, h.put h0 h5 hl (in_app hL (in1 hp))⟩
    split at d
    · rename_i c2 c3
      rw [if_neg (by omega), if_neg c2, if_pos c3]
      rw [norm_up h0 h5 hL hp ho] at d
      obtain ⟨rfl, rfl⟩ := d
      exact ⟨rfl, h.put h0 h5 hl (in_app (in_dropLast hL) (in2 hp ho))⟩
    split at d
    · rename_i c2 c3 c4
      rw [if_pos c4]
      rw [join_new1 h0 h5 hp] at d
      have lm := least_more h0 h5 h.1 hl (n := [pcP x]) (in1 hp)
      obtain ⟨rfl, rfl⟩ := d
      by_cases q : ltS (Wr k (leastN k nss)) (Wr k [pcP x]) = true
      · rw [if_pos q] at lm
        rw [if_pos ⟨hl, q⟩, if_pos ⟨hl, q⟩, lm]
        refine ⟨rfl, ?_⟩
        rw [List.erase_append_left _ (leastN_mem hl)]
        exact h.put h0 h5 hl (in1 hp)
      · rw [if_neg q] at lm
        rw [if_neg (fun z => q z.2), if_neg (fun z => q z.2), lm]
        refine ⟨rfl, ?_, ?_, h.2.2⟩
        · intro m hm
          rcases List.mem_append.mp (List.mem_of_mem_erase hm) with z | z
          · exact h.1 m z
          · rw [List.mem_singleton.mp z]; exact in1 hp
        · refine h.2.1.trans (List.Perm.map _ ?_)
          have p1 : (nss ++ [[pcP x]]).Perm ([pcP x] :: nss) := List.perm_append_singleton _ _
          have p2 := p1.erase [pcP x]
          rw [List.erase_cons_head] at p2
          exact p2.symm
    split at d
    · rename_i c2 c3 c4 c5
      rw [if_neg c4, if_neg c2, if_neg c3, if_pos c5]
      obtain ⟨rfl, a, ha, rfl⟩ := d
      rw [stem_wr h0 h5 hL ha]
      exact ⟨rfl, h.put h0 h5 hl (stemN_in hL)⟩
    have hpop := h.pop h0 h5 hl
    have hpl := hpop.len
    rw [hpl] at d
    split at d
    · rename_i c2 c3 c4 c5 c6
      rw [if_neg c4, if_neg c2, if_neg c3, if_neg c5, if_pos c6]
      have hl2 : 0 < (nss.erase (leastN k nss)).length := by omega
      have hh2 := hpop.head h0 h5 hl2
      have hL2 := hpop.1 _ (leastN_mem (k := k) hl2)
      rw [hh2, cpS_wr h0 h5 hL hL2] at d
      obtain ⟨rfl, rfl⟩ := d
      exact ⟨rfl, hpop.put h0 h5 hl2 (fun y hy => hL y (cpre_sub y hy))⟩
    · rename_i c2 c3 c4 c5 c6
      rw [if_neg c4, if_neg c2, if_neg c3, if_neg c5, if_neg c6]
      obtain ⟨rfl, rfl⟩ := d
      exact ⟨rfl, hpop⟩
end Mine
end SP9
section SP10
open PySem PySem.W PyProof.Rows PySem.Calls
namespace Mine
/-- the bounds of a bag -/
noncomputable def Bnd (i : Nat) (nss : List (List Str)) : Prop := InN nss ∧ nss.length ≤ i + 2 ∧ ∀ n ∈ nss, n.length ≤ i + 2
theorem least_bnd {k : Int} {i : Nat} {nss : List (List Str)} (h : Bnd i nss) (hl : 0 < nss.length) : InS (leastN k nss) ∧ (leastN k nss).length ≤ i + 2 :=
  ⟨h.1 _ (leastN_mem hl), h.2.2 _ (leastN_mem hl)⟩
theorem Bnd.cut {k : Int} {i : Nat} {nss : List (List Str)} (h : Bnd i nss) (hl : 0 < nss.length) {n : List Str} (hn : InS n) (hb : n.length ≤ i + 3) : Bnd (i + 1) (nss.erase (leastN k nss) ++ [n]) := by
  have e := List.length_erase_of_mem (leastN_mem (k := k) hl)
  have h2 := h.2.1
  refine ⟨fun m hm => ?_, ?_, fun m hm => ?_⟩
  · rcases List.mem_append.mp hm with q | q
    · exact h.1 m (List.mem_of_mem_erase q)
    · rw [List.mem_singleton.mp q]; exact hn
  · rw [List.length_append, List.length_singleton, e]; omega
  · rcases List.mem_append.mp hm with q | q
    · have := h.2.2 m (List.mem_of_mem_erase q); omega
    · rw [List.mem_singleton.mp q]; omega
theorem Bnd.era {i : Nat} {nss : List (List Str)} (h : Bnd i nss) (n : List Str) : Bnd i (nss.erase n) :=
  ⟨fun m hm => h.1 m (List.mem_of_mem_erase hm), Nat.le_trans List.length_erase_le h.2.1, fun m hm => h.2.2 m (List.mem_of_mem_erase hm)⟩
theorem Bnd.up {i : Nat} {nss : List (List Str)} (h : Bnd i nss) : Bnd (i + 1) nss :=
  ⟨h.1, by have := h.2.1; omega, fun m hm => by have := h.2.2 m hm; omega⟩
theorem Bnd.add {i : Nat} {nss : List (List Str)} (h : Bnd i nss) {n : List Str} (hn : InS n) (hb : n.length ≤ 2) : Bnd (i + 1) (nss ++ [n]) := by
  have h2 := h.2.1
  refine ⟨fun m hm => ?_, ?_, fun m hm => ?_⟩
  · rcases List.mem_append.mp hm with q | q
    · exact h.1 m q
    · rw [List.mem_singleton.mp q]; exact hn
  · rw [List.length_append, List.length_singleton]; omega
  · rcases List.mem_append.mp hm with q | q
    · have := h.2.2 m q; omega
    · rw [List.mem_singleton.mp q]; omega
theorem plain_bnd {k x : Int} {i : Nat} {nss : List (List Str)} (h : Bnd i nss) : Bnd (i + 1) (PlainD k x nss).2 := by
  have hp := pcP_mem x
  have ho := otP_mem x
  unfold PlainD
  split
  · exact h.add (in2 hp ho) (by simp)
  · rename_i c
    have hl : 0 < nss.length := by omega
    have L := least_bnd (k := k) h hl
    split
    · exact (h.add (in1 hp) (by simp)).era _
    split
    · exact h.cut hl (in_app L.1 (in1 hp)) (by rw [List.length_append, List.length_singleton]; omega)
    split
    · exact h.cut hl (in_app (in_dropLast L.1) (in2 hp ho)) (by rw [List.length_append, List.length_dropLast]; simp only [List.length_cons, List.length_nil]; omega)
    split
    · exact h.cut hl (stemN_in L.1) (by have := stemN_len (leastN k nss); omega)
    split
    · rename_i c6
      exact (h.era _).cut (by omega) (fun y hy => L.1 y (cpre_sub y hy)) (by have := cpre_le (a := leastN k nss) (b := leastN k (nss.erase (leastN k nss))); omega)
    · exact (h.era _).up
theorem jl_prefix : ∀ {a b : List (List Nat)}, b ≠ [] → (∀ x ∈ b, x ≠ []) → ∃ z, z ≠ [] ∧ 47 :: jl (a ++ b) = 47 :: jl a ++ z := by
  intro a
  induction a with
  | nil =>
    intro b hb hn
    refine ⟨jl b, ?_, rfl⟩
    obtain ⟨y, r, rfl⟩ := List.exists_cons_of_ne_nil hb
    have := hn y (.head _)
    cases r with
    | nil => exact this
    | cons u s => intro q; have q' : y ++ 47 :: jl (u :: s) = [] := q; simp at q'
  | cons x a ih =>
    intro b hb hn
    by_cases ha : a = []
    · subst ha
      refine ⟨47 :: jl b, by simp, ?_⟩
      show 47 :: jl (x :: b) = _
      rw [jl_cons _ hb]
      rfl
    · obtain ⟨z, hz, e⟩ := ih hb hn
      refine ⟨z, hz, ?_⟩
      show 47 :: jl (x :: (a ++ b)) = 47 :: jl (x :: a) ++ z
      rw [jl_cons _ (by simp [ha]), jl_cons _ ha, e]
      simp
/-- a path is ahead of one that goes on -/
theorem lt_longer {k : Int} (h0 : 0 ≤ k) (h5 : k < 5) {a : List Str} {i : Nat} (ha : InS a) (hi : i < a.length) : ltS (Wr k (a.take i)) (Wr k a) = true := by
  obtain ⟨z, hz, e⟩ := jl_prefix (a := ((a.take i).map (wrS k)).map cl) (b := ((a.drop i).map (wrS k)).map cl) (by
    intro q
    have := congrArg List.length q
    simp at this
    omega) (by
    intro x hx
    obtain ⟨p, hp, rfl⟩ := List.mem_map.mp hx
    obtain ⟨n, hn, rfl⟩ := List.mem_map.mp hp
    exact (wr_prt h0 h5 (ha n (List.mem_of_mem_drop hn))).2)
  rw [← List.map_append, ← List.map_append, List.take_append_drop] at e
  unfold ltS
  apply decide_eq_true
  have e1 : cl (Wr k a) = cl (Wr k (a.take i)) ++ z := by unfold Wr; rw [Pj_cl, Pj_cl]; exact e
  unfold cl at e1
  rw [e1]
  obtain ⟨y, r, rfl⟩ := List.exists_cons_of_ne_nil hz
  generalize (Wr k (a.take i)).cps.toList = l
  have := lt_app l [] (y :: r)
  rw [List.append_nil] at this
  simpa using this
theorem plainOK {k : Int} (h0 : 0 ≤ k) (h5 : k < 5) {i : Nat} (hi : i ≤ 12) {nss : List (List Str)} (h : Bnd i nss) : PlainOK k nss := by
  refine ⟨h.1, fun n hn => by have := h.2.2 n hn; omega, by have := h.2.1; omega, fun hne j e hj => ?_⟩
  have hl2 : 0 < (nss.erase (leastN k nss)).length := by omega
  have hl : 0 < nss.length := Nat.lt_of_lt_of_le hl2 List.length_erase_le
  have hL := h.1 _ (leastN_mem (k := k) hl)
  rcases Nat.lt_or_ge j (leastN k (nss.erase (leastN k nss))).length with q | q
  · exact q
  · exfalso
    rw [List.take_of_length_le (l := leastN k (nss.erase (leastN k nss))) q] at e
    have lt := lt_longer h0 h5 hL hj
    have m2 := List.mem_of_mem_erase (leastN_mem (k := k) hl2)
    have le := least_le h0 h5 h.1 hl _ m2
    rw [← e] at le
    unfold leS at le
    rw [lt] at le
    cases le
theorem sideP {k x : Int} (h0 : 0 ≤ k) (h5 : k < 5) {i : Nat} (hi : i ≤ 12) {xs : List Str} {nss : List (List Str)} (h : Bnd i nss) (r : Rel k xs nss) : SideP k x xs := by
  have len := r.len
  have hb := h.2.1
  have short : ∀ n ∈ nss, (Wr k n).length ≤ 700 := fun n hn => by
    have := wr_path_len h0 h5 (h.1 n hn)
    have := h.2.2 n hn
    omega
  have hd : ∀ {ys : List Str} {mss : List (List Str)}, Rel k ys mss → (∀ m ∈ mss, m ∈ nss) → 0 < mss.length → Txt.startswith (ys.getD 0 Str.empty) (Str.ofString "/") = true ∧ (ys.getD 0 Str.empty).length ≤ 1000 := by
    intro ys mss r2 sub hl
    rw [r2.head h0 h5 hl]
    have := short _ (sub _ (leastN_mem (k := k) hl))
    exact ⟨wr_starts k _, by omega⟩
  refine ⟨by omega, fun y hy => ?_, ?_, ?_, fun hn => ?_⟩
  · obtain ⟨n, hn, rfl⟩ := List.mem_map.mp (r.2.1.mem_iff.mp hy)
    exact short n hn
  · intro hx
    have hl : 0 < nss.length := by omega
    rw [r.head h0 h5 hl]
    exact norm_ok h0 h5 (h.1 _ (leastN_mem hl)) (pcP_mem x) (otP_mem x) _ hx
  · rw [popL_len]; omega
  · have hl : 0 < nss.length := by rw [popL_len] at hn; omega
    have rp := r.pop h0 h5 hl
    have e := rp.len
    have a := hd r (fun m hm => hm) hl
    have b := hd rp (fun m hm => List.mem_of_mem_erase hm) (by omega)
    exact ⟨a.1, b.1, a.2, b.2⟩
theorem rel0 {k : Int} (h0 : 0 ≤ k) (h5 : k < 5) : Rel k (h0S k) st0 ∧ Bnd 0 st0 := by
  have i1 : InS [Str.ofString "a<", Str.ofString "&"] := by unfold InS; decide +kernel
  have i2 : InS [Str.ofString "a", Str.ofString "\""] := by unfold InS; decide +kernel
  have hN : InN st0 := by
    intro n hn
    simp only [st0, List.mem_cons, List.not_mem_nil, or_false] at hn
    rcases hn with rfl | rfl
    · exact i1
    · exact i2
  refine ⟨⟨hN, ?_, ?_⟩, hN, by simp [st0], ?_⟩
  · unfold h0S
    rw [join_new2 h0 h5 (i1 _ (.head _)) (i1 _ (.tail _ (.head _))), join_new2 h0 h5 (i2 _ (.head _)) (i2 _ (.tail _ (.head _)))]
    exact siftup_perm _ (by simp)
  · unfold h0S
    refine siftup_heap _ (by simp) fun i i0 hi q => ?_
    simp only [List.length_cons, List.length_nil] at hi
    omega
  · intro n hn
    simp only [st0, List.mem_cons, List.not_mem_nil, or_false] at hn
    rcases hn with rfl | rfl <;> simp
theorem run_rel {k : Int} (h0 : 0 ≤ k) (h5 : k < 5) : ∀ {ds : List Int} {xs t xs' t' : List Str} {nss s : List (List Str)}, RunR cpS k ds xs t xs' t' → Rel k xs nss → t = s.map (Wr k) →
    Rel k xs' (runP k ds (nss, s)).1 ∧ t' = (runP k ds (nss, s)).2.map (Wr k)
  | [], xs, t, xs', t', nss, s, e, h, ht => by
    obtain ⟨rfl, rfl⟩ := e
    exact ⟨h, ht⟩
  | x :: ds, xs, t, xs', t', nss, s, e, h, ht => by
    obtain ⟨r, h1, d, e⟩ := e
    obtain ⟨er, h2⟩ := deed_rel h0 h5 h d
    refine run_rel h0 h5 (nss := (stepP k (nss, s) x).1) (s := (stepP k (nss, s) x).2) e h2 ?_
    have len := h2.len
    unfold stepP
    rw [List.map_append, List.map_append, ht, er]
    congr 1
    split
    · rename_i c
      have : h1 = [] := List.eq_nil_of_length_eq_zero (by rw [len]; exact c)
      rw [this]; rfl
    · rename_i c
      have hl : 0 < (PlainD k x nss).2.length := by
        have : ¬ (PlainD k x nss).2.length = 0 := c
        omega
      have hh := h2.head h0 h5 hl
      cases h1 with
      | nil => simp at len; omega
      | cons y ys =>
        have hh' : y = Wr k (leastN k (PlainD k x nss).2) := hh
        rw [hh']; rfl
theorem runP_bnd {k : Int} : ∀ (ds : List Int) {i : Nat} {nss s : List (List Str)}, Bnd i nss → InN s → Bnd (i + ds.length) (runP k ds (nss, s)).1 ∧ InN (runP k ds (nss, s)).2 ∧ (runP k ds (nss, s)).2.length ≤ s.length + 2 * ds.length
  | [], i, nss, s, h, hs => ⟨h, hs, by simp [runP]⟩
  | x :: ds, i, nss, s, h, hs => by
    have b := plain_bnd (k := k) (x := x) h
    have hs2 : InN (stepP k (nss, s) x).2 ∧ (stepP k (nss, s) x).2.length ≤ s.length + 2 := by
      unfold stepP
      have one : InS (PlainD k x nss).1 := by
        have base : InS [pcP x, otP x] := in2 (pcP_mem x) (otP_mem x)
        unfold PlainD
        split
        · exact base
        · rename_i c
          have hl : 0 < nss.length := by omega
          have L := h.1 _ (leastN_mem (k := k) hl)
          split
          · rcases List.mem_append.mp (leastN_mem (k := k) (nss := nss ++ [[pcP x]]) (by simp)) with q | q
            · exact h.1 _ q
            · rw [List.mem_singleton.mp q]; exact in1 (pcP_mem x)
          split
          · exact L
          split
          · exact L
          split
          · exact L
          split
          · rename_i c6
            exact h.1 _ (List.mem_of_mem_erase (leastN_mem (k := k) (by omega)))
          · exact L
      constructor
      · intro m hm
        rcases List.mem_append.mp hm with q | q
        · rcases List.mem_append.mp q with q | q
          · exact hs m q
          · rw [List.mem_singleton.mp q]; exact one
        · split at q
          · cases q
          · rename_i c
            rw [List.mem_singleton.mp q]
            exact b.1 _ (leastN_mem (Nat.pos_of_ne_zero c))
      · rw [List.length_append, List.length_append, List.length_singleton]
        split
        · simp
        · simp
    have := runP_bnd ds (k := k) (i := i + 1) (nss := (stepP k (nss, s) x).1) (s := (stepP k (nss, s) x).2) b hs2.1
    refine ⟨?_, this.2.1, ?_⟩
    · have e : i + (x :: ds).length = i + 1 + ds.length := by simp; omega
      rw [e]; exact this.1
    · have e : (x :: ds).length = ds.length + 1 := rfl
      have := this.2.2
      have := hs2.2
      rw [e]
      have e3 : (runP k (x :: ds) (nss, s)).2.length = (runP k ds ((stepP k (nss, s) x).1, (stepP k (nss, s) x).2)).2.length := rfl
      omega
/-- the drains -/
noncomputable def goP (k : Int) : Nat → List (List Str) → List (List Str) → List (List Str) × List (List Str)
  | 0, ys, u => (ys, u)
  | n + 1, ys, u => ((goP k n ys u).1.erase (leastN k (goP k n ys u).1), (goP k n ys u).2 ++ [leastN k (goP k n ys u).1])
theorem drP_go {k : Int} {xs t ys u : List (List Str)} (h : DrP k xs t ys u) : ∃ n, ys.length + n = xs.length ∧ (ys, u) = goP k n xs t := by
  induction h with
  | refl => exact ⟨0, rfl, rfl⟩
  | step _ hl ih =>
    obtain ⟨n, h1, h2⟩ := ih
    refine ⟨n + 1, ?_, ?_⟩
    · have := List.length_erase_of_mem (leastN_mem (k := k) hl)
      omega
    · unfold goP
      rw [← h2]
theorem dr_rel {k : Int} (h0 : 0 ≤ k) (h5 : k < 5) {xs t ys u : List Str} {nss s : List (List Str)} (h : DrR xs t ys u) (r : Rel k xs nss) (ht : t = s.map (Wr k)) (hs : InN s) :
    ∃ n, ys.length + n = xs.length ∧ Rel k ys (goP k n nss s).1 ∧ u = (goP k n nss s).2.map (Wr k) ∧ InN (goP k n nss s).2 := by
  induction h with
  | refl => exact ⟨0, rfl, r, ht, hs⟩
  | step _ hl ih =>
    obtain ⟨n, h1, h2, h3, h4⟩ := ih
    have hl2 : 0 < (goP k n nss s).1.length := by rw [← h2.len]; exact hl
    refine ⟨n + 1, ?_, h2.pop h0 h5 hl2, ?_, ?_⟩
    · rw [popL_len]; omega
    · rw [h2.head h0 h5 hl2, h3]
      show _ = List.map (Wr k) ((goP k n nss s).2 ++ [leastN k (goP k n nss s).1])
      rw [List.map_append]
      rfl
    · unfold goP
      intro m hm
      rcases List.mem_append.mp hm with q | q
      · exact h4 m q
      · rw [List.mem_singleton.mp q]; exact h2.1 _ (leastN_mem hl2)
theorem plainLaw : PlainLaw := by
  intro k ds h0 h5 hl hds
  obtain ⟨r0, b0⟩ := rel0 h0 h5
  refine ⟨⟨fun i xs => i ≤ 12 ∧ ∃ nss, Rel k xs nss ∧ Bnd i nss, ⟨by omega, st0, r0, b0⟩, ?_, ?_⟩, ⟨fun i nss => i ≤ 12 ∧ Bnd i nss, ⟨by omega, b0⟩, ?_, ?_⟩, ?_⟩
  · rintro i x xs hx ⟨hi, nss, r, b⟩
    have hi9 : i < ds.length := (List.getElem?_eq_some_iff.mp hx).1
    refine ⟨sideP h0 h5 hi b r, fun y ys d => ⟨by omega, _, (deed_rel h0 h5 r d).2, plain_bnd b⟩⟩
  · rintro i xs ⟨hi, nss, r, b⟩
    rw [r.len]
    have := b.2.1
    omega
  · rintro i x nss hx ⟨hi, b⟩
    have hi9 : i < ds.length := (List.getElem?_eq_some_iff.mp hx).1
    exact ⟨by omega, plain_bnd b⟩
  · rintro i nss ⟨hi, b⟩
    exact plainOK h0 h5 hi b
  · intro xs txs txsF due hrun hdr hdp
    obtain ⟨r1, e1⟩ := run_rel h0 h5 (s := []) hrun r0 rfl
    obtain ⟨b1, i1, l1⟩ := runP_bnd (k := k) ds (s := []) b0 (fun _ h => nomatch h)
    obtain ⟨n, n1, r2, e2, i2⟩ := dr_rel h0 h5 hdr r1 e1 i1
    obtain ⟨n', n1', e2'⟩ := drP_go hdp
    have en : n = n' := by
      have := r1.len
      simp only [List.length_nil] at n1 n1'
      omega
    subst en
    have ed : due = (goP k n (runP k ds (st0, [])).1 (runP k ds (st0, [])).2).2 := congrArg Prod.snd e2'
    rw [← ed] at e2 i2
    refine ⟨?_, ?_⟩
    · rw [e2]
      exact List.map_congr_left fun m hm => (outP_wr h0 h5 (i2 m hm)).symm
    · have dl := hdr.len
      have := b1.2.1
      have := r1.len
      rw [e1, List.length_map] at dl
      simp only [List.length_nil] at dl l1
      omega
end Mine
end SP10
end OML
end OMS
theorem PySem.Challenge.cw_ik0218_01_holds : PySem.Challenge.rw_ik0218_01.Holds := by
  exact Mine.law_holds Mine.plainLaw
